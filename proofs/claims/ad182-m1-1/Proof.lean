import JvmDerived
import JvmDerived.Pilot.@@N@@Statement
import JvmDerived.Pilot.@@N@@Code
set_option linter.unusedVariables false
set_option linter.unusedSimpArgs false
namespace Jvm.FPR
open Jvm Jvm.FP Jvm.FP.Core
/-! Rounding errors of the model's doubles, in rationals. -/
def sg : Bool → Rat
  | true => -1
  | false => 1
def vl (s : Bool) (c : Nat) (q : Int) : Rat := sg s * ((c : Rat) * (2 : Rat) ^ q)
/-- the bits x are a finite number, of value v -/
def Is (x : UInt64) (v : Rat) : Prop := ∃ s c q, val64 x = .fin s c q ∧ v = vl s c q
theorem two_ne : (2 : Rat) ≠ 0 := by decide
theorem zp_nat (n : Nat) : (2 : Rat) ^ (n : Int) = ((2 ^ n : Nat) : Rat) := by rw [Rat.zpow_natCast, Rat.natCast_pow]; rfl
theorem zp_pos (q : Int) : 0 < (2 : Rat) ^ q := Rat.zpow_pos (by decide)
theorem zp_one (n : Nat) : 1 ≤ (2 : Rat) ^ (n : Int) := by
  rw [zp_nat]
  have : 1 ≤ 2 ^ n := Nat.one_le_two_pow
  exact_mod_cast this
theorem zp_mono {a b : Int} (h : a ≤ b) : (2 : Rat) ^ a ≤ (2 : Rat) ^ b := by
  obtain ⟨n, rfl⟩ : ∃ n : Nat, b = a + n := ⟨(b - a).toNat, by omega⟩
  rw [Rat.zpow_add two_ne]
  have h1 := zp_pos a
  have h2 := zp_one n
  have h3 : 0 ≤ (2 : Rat) ^ a * ((2 : Rat) ^ (n : Int) - 1) := Rat.mul_nonneg (by grind) (by grind)
  grind
theorem units_eq (A B : Nat) (e q : Int) : (A : Rat) * (2 : Rat) ^ e * (unitsDen B e q : Nat) = (unitsNum A e q : Nat) * (2 : Rat) ^ q * B := by
  have h1 : (unitsNum A e q : Nat) = ((A : Rat) * (2 : Rat) ^ (((e - q).toNat : Nat) : Int)) := by unfold unitsNum; rw [zp_nat, Rat.natCast_mul]
  have h2 : (unitsDen B e q : Nat) = ((B : Rat) * (2 : Rat) ^ (((q - e).toNat : Nat) : Int)) := by unfold unitsDen; rw [zp_nat, Rat.natCast_mul]
  have h3 : (2 : Rat) ^ e * (2 : Rat) ^ (((q - e).toNat : Nat) : Int) = (2 : Rat) ^ q * (2 : Rat) ^ (((e - q).toNat : Nat) : Int) := by
    rw [← Rat.zpow_add two_ne, ← Rat.zpow_add two_ne]; congr 1; omega
  rw [h1, h2]; grind
theorem cancel_le {a b c : Rat} (hc : 0 < c) (h : a * c ≤ b * c) : a ≤ b := Rat.le_of_mul_le_mul_right h hc
def eps : Rat := 1 / 9007199254740992
theorem tiny {M : Rat} (hm : 1 / 1152921504606846976 ≤ M) : (2 : Rat) ^ (-1075 : Int) ≤ M * eps := by
  have h1 : (2 : Rat) ^ (-1075 : Int) ≤ (1 / 1152921504606846976) * eps := by decide +kernel
  have h2 : 0 ≤ (M - 1 / 1152921504606846976) * eps := Rat.mul_nonneg (by grind) (by decide +kernel)
  grind
/-- a magnitude of at most M, rounded -/
theorem round_err {s : Bool} {A B : Nat} {e : Int} {x M : Rat} (hB : 0 < B) (hx : x * B = (A : Rat) * (2 : Rat) ^ e) (hxM : x ≤ M) (hm : 1 / 1152921504606846976 ≤ M) (hM : M ≤ 1267650600228229401496703205376) :
    ∃ c q, roundRatio b64 s A B e = .fin s c q ∧ (c : Rat) * (2 : Rat) ^ q - x ≤ M * eps ∧ x - (c : Rat) * (2 : Rat) ^ q ≤ M * eps := by
  have hBr : (0 : Rat) < (B : Rat) := by exact_mod_cast hB
  have heps : (0 : Rat) ≤ eps := by decide +kernel
  have hMe : 0 ≤ M * eps := Rat.mul_nonneg (by grind) heps
  unfold roundRatio
  by_cases hA : A = 0
  · rw [if_pos hA]
    refine ⟨0, b64.qmin, rfl, ?_, ?_⟩
    all_goals
      subst hA
      have h0 : x = 0 := by
        have : x * (B : Rat) = 0 * (B : Rat) := by rw [hx]; grind
        exact Rat.le_antisymm (cancel_le hBr (by grind)) (cancel_le hBr (by grind))
      subst h0
      grind
  · rw [if_neg hA]
    have hAp : 0 < A := by omega
    have hun := units_eq A B e (quantum b64 A B e)
    have hDp : 0 < unitsDen B e (quantum b64 A B e) := unitsDen_pos hB _ _
    have hns := nearest_spec (unitsNum A e (quantum b64 A B e)) (unitsDen B e (quantum b64 A B e)) hDp
    have hle := nearest_units_le (f := b64) hAp hB e
    have hnb := quantum_not_below (f := b64) hAp hB e
    have hcase : quantum b64 A B e = -1074 ∨ 2 ^ 52 * unitsDen B e (quantum b64 A B e) ≤ unitsNum A e (quantum b64 A B e) := by
      rcases hnb with h | h
      · exact Or.inl (h.trans (by decide))
      · refine Or.inr ?_
        have := units_below A B e (quantum b64 A B e) 52
        exact Nat.le_of_not_lt (fun q => h (by have r := this.mp q; exact r))
    unfold roundAt
    generalize hq : quantum b64 A B e = q at *
    generalize hU : unitsNum A e q = U at *
    generalize hD : unitsDen B e q = D at *
    generalize hN : nearest U D = N at *
    have hDr : (0 : Rat) < (D : Rat) := by exact_mod_cast hDp
    have hxD : x * D = (U : Rat) * (2 : Rat) ^ q := by
      have : (x * D) * (B : Rat) = ((U : Rat) * (2 : Rat) ^ q) * (B : Rat) := by grind
      exact Rat.le_antisymm (cancel_le hBr (by grind)) (cancel_le hBr (by grind))
    have hqp := zp_pos q
    have n1 : 2 * (U : Rat) ≤ (2 * (N : Rat) + 1) * (D : Rat) := by exact_mod_cast hns.1
    have n2 : 2 * (N : Rat) * (D : Rat) ≤ 2 * (U : Rat) + (D : Rat) := by exact_mod_cast hns.2.1
    have b1 : 2 * x - 2 * ((N : Rat) * (2 : Rat) ^ q) ≤ (2 : Rat) ^ q := by
      refine cancel_le hDr ?_
      have : 0 ≤ ((2 * (N : Rat) + 1) * (D : Rat) - 2 * (U : Rat)) * (2 : Rat) ^ q := Rat.mul_nonneg (by grind) (by grind)
      grind
    have b2 : 2 * ((N : Rat) * (2 : Rat) ^ q) - 2 * x ≤ (2 : Rat) ^ q := by
      refine cancel_le hDr ?_
      have : 0 ≤ (2 * (U : Rat) + (D : Rat) - 2 * (N : Rat) * (D : Rat)) * (2 : Rat) ^ q := Rat.mul_nonneg (by grind) (by grind)
      grind
    have hq2 : (2 : Rat) ^ q ≤ 2 * (M * eps) := by
      rcases hcase with h | h
      · rw [h]
        have t := tiny hm
        have e1 : (2 : Rat) ^ (-1074 : Int) = 2 * (2 : Rat) ^ (-1075 : Int) := by decide +kernel
        grind
      · have h' : (4503599627370496 : Rat) * (D : Rat) ≤ (U : Rat) := by exact_mod_cast h
        have h2 : (4503599627370496 : Rat) * (2 : Rat) ^ q ≤ x := by
          refine cancel_le hDr ?_
          have : 0 ≤ ((U : Rat) - 4503599627370496 * (D : Rat)) * (2 : Rat) ^ q := Rat.mul_nonneg (by grind) (by grind)
          grind
        unfold eps; grind
    have hqs : q ≤ 900 := by
      apply Int.le_of_not_gt; intro hgt
      have m1 := zp_mono (show (900 : Int) ≤ q by omega)
      have m2 : (1267650600228229401496703205376 : Rat) < (2 : Rat) ^ (900 : Int) := by decide +kernel
      have m3 : 2 * (M * eps) ≤ M := by unfold eps; grind
      grind
    unfold settle bound
    have hmax : b64.qmax = 971 := by decide
    have hp : b64.p = 53 := rfl
    have ht : b64.tails = 4503599627370496 := by decide
    rw [hmax, hp, ht]
    by_cases hc : N < 2 ^ 53
    · rw [if_pos hc, if_pos (by omega)]
      exact ⟨N, q, rfl, by grind, by grind⟩
    · rw [if_neg hc, if_pos (by omega)]
      have hNe : N = 9007199254740992 := by rw [hp] at hle; omega
      refine ⟨4503599627370496, q + 1, rfl, ?_⟩
      have e2 : ((4503599627370496 : Nat) : Rat) * (2 : Rat) ^ (q + 1) = (N : Rat) * (2 : Rat) ^ q := by
        rw [Rat.zpow_add two_ne, hNe]
        have : (2 : Rat) ^ (1 : Int) = 2 := by decide +kernel
        rw [this]
        have h3 : ((4503599627370496 : Nat) : Rat) = 4503599627370496 := by norm_cast
        have h4 : ((9007199254740992 : Nat) : Rat) = 9007199254740992 := by norm_cast
        rw [h3, h4]; grind
      rw [e2]
      exact ⟨by grind, by grind⟩
theorem sg_sq (s : Bool) : sg s * sg s = 1 := by cases s <;> decide +kernel
theorem sg_ne (s t : Bool) : sg (s != t) = sg s * sg t := by cases s <;> cases t <;> decide +kernel
/-- an exact value of at most M, rounded -/
theorem rnd {s : Bool} {A B : Nat} {e : Int} {E M : Rat} (hB : 0 < B) (hE : E * B = vl s A e) (h1 : E ≤ M) (h2 : -M ≤ E) (hm : 1 / 1152921504606846976 ≤ M) (hM : M ≤ 1267650600228229401496703205376) :
    ∃ c q, roundRatio b64 s A B e = .fin s c q ∧ vl s c q - E ≤ M * eps ∧ E - vl s c q ≤ M * eps := by
  obtain ⟨c, q, r1, r2, r3⟩ := round_err (s := s) (A := A) (B := B) (e := e) (x := sg s * E) (M := M) hB (by unfold vl at hE; have := sg_sq s; grind) (by cases s <;> simp only [sg] <;> grind) hm hM
  refine ⟨c, q, r1, ?_⟩
  unfold vl
  cases s <;> simp only [sg] at * <;> exact ⟨by grind, by grind⟩
variable {x y : UInt64} {v w E M : Rat}
theorem mulE (M : Rat) (hx : Is x v) (hy : Is y w) (h1 : v * w ≤ M) (h2 : -M ≤ v * w) (hm : 1 / 1152921504606846976 ≤ M := by decide +kernel) (hM : M ≤ 1267650600228229401496703205376 := by decide +kernel) : ∃ z, Is (Core.dmul x y) z ∧ z - v * w ≤ M * eps ∧ v * w - z ≤ M * eps := by
  obtain ⟨s, c, q, e1, rfl⟩ := hx
  obtain ⟨t, d, r, e2, rfl⟩ := hy
  obtain ⟨c', q', r1, r2⟩ := rnd (s := (s != t)) (A := c * d) (B := 1) (e := q + r) (E := vl s c q * vl t d r) (M := M) (by decide) (by
    unfold vl; rw [sg_ne, Rat.natCast_mul, Rat.zpow_add two_ne]
    have : ((1 : Nat) : Rat) = 1 := by norm_cast
    rw [this]; grind) h1 h2 hm hM
  refine ⟨_, ⟨_, c', q', ?_, rfl⟩, r2⟩
  rw [show val64 (Core.dmul x y) = round b64 (exactProduct (val64 x) (val64 y)) from val64_dmul x y, e1, e2]
  exact r1
theorem divE (M : Rat) (hx : Is x v) (hy : Is y w) (hw : w ≠ 0) (hE : E * w = v) (h1 : E ≤ M) (h2 : -M ≤ E) (hm : 1 / 1152921504606846976 ≤ M := by decide +kernel) (hM : M ≤ 1267650600228229401496703205376 := by decide +kernel) : ∃ z, Is (Core.ddiv x y) z ∧ z - E ≤ M * eps ∧ E - z ≤ M * eps := by
  obtain ⟨s, c, q, e1, rfl⟩ := hx
  obtain ⟨t, d, r, e2, rfl⟩ := hy
  have hd : d ≠ 0 := by rintro rfl; exact hw (by unfold vl; have : ((0 : Nat) : Rat) = 0 := by norm_cast
                                                 rw [this]; grind)
  obtain ⟨c', q', r1, r2⟩ := rnd (s := (s != t)) (A := c) (B := d) (e := q - r) (E := E) (M := M) (by omega) (by
    unfold vl at *; rw [sg_ne]
    have h3 : (2 : Rat) ^ q = (2 : Rat) ^ (q - r) * (2 : Rat) ^ r := by rw [← Rat.zpow_add two_ne]; congr 1; omega
    have h4 := zp_pos r
    have h5 := sg_sq t
    rw [h3] at hE
    have h6 : (E * (d : Rat)) * (2 : Rat) ^ r = (sg s * sg t * ((c : Rat) * (2 : Rat) ^ (q - r))) * (2 : Rat) ^ r := by grind
    exact Rat.le_antisymm (cancel_le h4 (by grind)) (cancel_le h4 (by grind))) h1 h2 hm hM
  refine ⟨_, ⟨_, c', q', ?_, rfl⟩, r2⟩
  rw [show val64 (Core.ddiv x y) = quotient b64 (val64 x) (val64 y) from val64_ddiv x y, e1, e2]
  show (if d = 0 then _ else roundRatio b64 (s != t) c d (q - r)) = _
  rw [if_neg hd]; exact r1
theorem signed_sg (s : Bool) (n : Nat) : ((signed s n : Int) : Rat) = sg s * (n : Rat) := by
  cases s
  · show (((n : Int)) : Rat) = 1 * (n : Rat); rw [Rat.intCast_natCast]; grind
  · show ((-(n : Int) : Int) : Rat) = -1 * (n : Rat); rw [Rat.intCast_neg, Rat.intCast_natCast]; grind
theorem inUnits_eq {c : Nat} {q e : Int} (h : e ≤ q) : ((inUnits c q e : Nat) : Rat) * (2 : Rat) ^ e = (c : Rat) * (2 : Rat) ^ q := by
  unfold inUnits
  rw [Rat.natCast_mul, ← zp_nat]
  have : (2 : Rat) ^ q = (2 : Rat) ^ (((q - e).toNat : Nat) : Int) * (2 : Rat) ^ e := by rw [← Rat.zpow_add two_ne]; congr 1; omega
  rw [this]; grind
theorem sum_eq (s t : Bool) (c d : Nat) (q r : Int) : ((sumUnits s c q t d r (min q r) : Int) : Rat) * (2 : Rat) ^ (min q r) = vl s c q + vl t d r := by
  unfold sumUnits vl
  rw [Rat.intCast_add, signed_sg, signed_sg]
  have h1 := inUnits_eq (c := c) (Int.min_le_left q r)
  have h2 := inUnits_eq (c := d) (Int.min_le_right q r)
  grind
theorem sumSign_sg (s t : Bool) (V : Int) : sg (sumSign s t V) * ((V.natAbs : Nat) : Rat) = ((V : Int) : Rat) := by
  unfold sumSign
  by_cases h : V = 0
  · subst h; rw [if_pos rfl]; have : ((Int.natAbs 0 : Nat) : Rat) = 0 := by norm_cast
    rw [this]; have h2 : ((0 : Int) : Rat) = 0 := by norm_cast
    rw [h2]; grind
  · rw [if_neg h]
    by_cases hn : V < 0
    · rw [decide_eq_true hn, ← Rat.intCast_natCast, show ((V.natAbs : Nat) : Int) = -V by omega, Rat.intCast_neg]; simp only [sg]; grind
    · rw [decide_eq_false hn, ← Rat.intCast_natCast, show ((V.natAbs : Nat) : Int) = V by omega]; simp only [sg]; grind
theorem sumR (M : Rat) {X Y : Datum} {s t : Bool} {c d : Nat} {q r : Int} (e1 : X = .fin s c q) (e2 : Y = .fin t d r) (h1 : vl s c q + vl t d r ≤ M) (h2 : -M ≤ vl s c q + vl t d r) (hm : 1 / 1152921504606846976 ≤ M) (hM : M ≤ 1267650600228229401496703205376) :
    ∃ u c' q', round b64 (exactSum X Y) = .fin u c' q' ∧ vl u c' q' - (vl s c q + vl t d r) ≤ M * eps ∧ vl s c q + vl t d r - vl u c' q' ≤ M * eps := by
  subst e1 e2
  obtain ⟨c', q', r1, r2⟩ := rnd (s := sumSign s t (sumUnits s c q t d r (min q r))) (A := (sumUnits s c q t d r (min q r)).natAbs) (B := 1) (e := min q r) (E := vl s c q + vl t d r) (M := M) (by decide) (by
    have h3 := sum_eq s t c d q r
    have h4 := sumSign_sg s t (sumUnits s c q t d r (min q r))
    have : ((1 : Nat) : Rat) = 1 := by norm_cast
    rw [this, ← h3, ← h4]; unfold vl; grind) h1 h2 hm hM
  exact ⟨_, c', q', r1, r2⟩
theorem addE (M : Rat) (hx : Is x v) (hy : Is y w) (h1 : v + w ≤ M) (h2 : -M ≤ v + w) (hm : 1 / 1152921504606846976 ≤ M := by decide +kernel) (hM : M ≤ 1267650600228229401496703205376 := by decide +kernel) : ∃ z, Is (Core.dadd x y) z ∧ z - (v + w) ≤ M * eps ∧ v + w - z ≤ M * eps := by
  obtain ⟨s, c, q, e1, rfl⟩ := hx
  obtain ⟨t, d, r, e2, rfl⟩ := hy
  obtain ⟨u, c', q', r1, r2⟩ := sumR M e1 e2 h1 h2 hm hM
  exact ⟨_, ⟨u, c', q', (val64_dadd x y).trans r1, rfl⟩, r2⟩
theorem vl_not (s : Bool) (c : Nat) (q : Int) : vl (!s) c q = - vl s c q := by unfold vl; cases s <;> simp only [sg, Bool.not_true, Bool.not_false] <;> grind
theorem subE (M : Rat) (hx : Is x v) (hy : Is y w) (h1 : v - w ≤ M) (h2 : -M ≤ v - w) (hm : 1 / 1152921504606846976 ≤ M := by decide +kernel) (hM : M ≤ 1267650600228229401496703205376 := by decide +kernel) : ∃ z, Is (Core.dsub x y) z ∧ z - (v - w) ≤ M * eps ∧ v - w - z ≤ M * eps := by
  obtain ⟨s, c, q, e1, rfl⟩ := hx
  obtain ⟨t, d, r, e2, rfl⟩ := hy
  have hn := vl_not t d r
  obtain ⟨u, c', q', r1, r2, r3⟩ := sumR M (X := val64 x) (Y := negate (val64 y)) e1 (t := !t) (d := d) (r := r) (by rw [e2]; rfl) (by rw [hn]; grind) (by rw [hn]; grind) hm hM
  rw [hn] at r2 r3
  exact ⟨_, ⟨u, c', q', (val64_dsub x y).trans r1, rfl⟩, by grind, by grind⟩
theorem negE (hx : Is x v) : Is (FP.dneg x) (-v) := by
  obtain ⟨s, c, q, e1, rfl⟩ := hx
  exact ⟨!s, c, q, by rw [FP.val64_dneg, e1]; rfl, (vl_not s c q).symm⟩
theorem i2dE (M : Rat) {a : Int32} (h1 : ((a.toInt : Int) : Rat) ≤ M) (h2 : -M ≤ ((a.toInt : Int) : Rat)) (hm : 1 / 1152921504606846976 ≤ M := by decide +kernel) (hM : M ≤ 1267650600228229401496703205376 := by decide +kernel) : ∃ z, Is (FP.i2d a) z ∧ z - ((a.toInt : Int) : Rat) ≤ M * eps ∧ ((a.toInt : Int) : Rat) - z ≤ M * eps := by
  obtain ⟨c', q', r1, r2⟩ := rnd (s := decide (a.toInt < 0)) (A := a.toInt.natAbs) (B := 1) (e := 0) (E := ((a.toInt : Int) : Rat)) (M := M) (by decide) (by
    have h4 := sumSign_sg false false a.toInt
    unfold sumSign at h4
    have : ((1 : Nat) : Rat) = 1 := by norm_cast
    have h0 : (2 : Rat) ^ (0 : Int) = 1 := by decide +kernel
    unfold vl; rw [this, h0]
    by_cases hz : a.toInt = 0
    · rw [if_pos hz] at h4; rw [hz] at h4 ⊢; simp only [show decide ((0 : Int) < 0) = false from rfl]; grind
    · rw [if_neg hz] at h4; grind) h1 h2 hm hM
  exact ⟨_, ⟨_, c', q', (val64_of64 (round_fits good_b64 (ofInt a.toInt))).trans r1, rfl⟩, r2⟩
theorem ltE (hx : Is x v) (hy : Is y w) (h : v < w) : Core.dcmp x y = some .lt := by
  obtain ⟨s, c, q, e1, rfl⟩ := hx
  obtain ⟨t, d, r, e2, rfl⟩ := hy
  show order (val64 x) (val64 y) = _
  rw [e1, e2]
  show some (compare (signed s (inUnits c q (min q r))) (signed t (inUnits d r (min q r)))) = _
  have h1 := inUnits_eq (c := c) (Int.min_le_left q r)
  have h2 := inUnits_eq (c := d) (Int.min_le_right q r)
  have h3 : signed s (inUnits c q (min q r)) < signed t (inUnits d r (min q r)) := by
    have hp := zp_pos (min q r)
    have g1 := signed_sg s (inUnits c q (min q r))
    have g2 := signed_sg t (inUnits d r (min q r))
    apply Int.lt_of_not_ge; intro hge
    have hge' : ((signed t (inUnits d r (min q r)) : Int) : Rat) ≤ ((signed s (inUnits c q (min q r)) : Int) : Rat) := by exact_mod_cast hge
    have : 0 ≤ (((signed s (inUnits c q (min q r)) : Int) : Rat) - ((signed t (inUnits d r (min q r)) : Int) : Rat)) * (2 : Rat) ^ (min q r) := Rat.mul_nonneg (by grind) (by grind)
    have k1 : vl s c q = ((signed s (inUnits c q (min q r)) : Int) : Rat) * (2 : Rat) ^ (min q r) := by rw [g1]; unfold vl; rw [← h1]; grind
    have k2 : vl t d r = ((signed t (inUnits d r (min q r)) : Int) : Rat) * (2 : Rat) ^ (min q r) := by rw [g2]; unfold vl; rw [← h2]; grind
    rw [k1, k2] at h
    grind
  simp [compare, compareOfLessAndEq, h3]
theorem Is.nn (hx : Is x v) : Jvm.Free.Fl.NoNaN64 x := by
  obtain ⟨s, c, q, e1, -⟩ := hx
  exact Jvm.Free.Fl.val64_no.mpr (by rw [e1]; intro q; cases q)
end Jvm.FPR
namespace Jvm.FPR
open Jvm Jvm.FP Jvm.FP.Core
def Nr (x X e : Rat) : Prop := x - X ≤ e ∧ X - x ≤ e
def Bd (X A : Rat) : Prop := -A ≤ X ∧ X ≤ A
theorem prodB {a b A B : Rat} (h1 : Bd a A) (h2 : Bd b B) : Bd (a * b) (A * B) := by
  obtain ⟨h1, h1'⟩ := h1
  obtain ⟨h2, h2'⟩ := h2
  have p1 : 0 ≤ (A - a) * (B + b) := Rat.mul_nonneg (by grind) (by grind)
  have p2 : 0 ≤ (A + a) * (B - b) := Rat.mul_nonneg (by grind) (by grind)
  have p3 : 0 ≤ (A - a) * (B - b) := Rat.mul_nonneg (by grind) (by grind)
  have p4 : 0 ≤ (A + a) * (B + b) := Rat.mul_nonneg (by grind) (by grind)
  constructor <;> grind
theorem Bd.le {X A B : Rat} (h : Bd X A) (hB : A ≤ B) : Bd X B := ⟨by have := h.1; grind, by have := h.2; grind⟩
theorem Nr.bd {x X e A : Rat} (h : Nr x X e) (hX : Bd X A) : Bd x (A + e) := ⟨by have := h.2; have := hX.1; grind, by have := h.1; have := hX.2; grind⟩
variable {a b : UInt64} {x y X Y e f A B : Rat}
theorem opMul (M g : Rat) (ha : Is a x) (hb : Is b y) (nx : Nr x X e) (ny : Nr y Y f) (hX : Bd X A) (hY : Bd Y B) (h1 : (A + e) * (B + f) ≤ M) (h2 : A * f + e * (B + f) + M * eps ≤ g) (hm : 1 / 1152921504606846976 ≤ M) (hM : M ≤ 1267650600228229401496703205376) : ∃ z, Is (Core.dmul a b) z ∧ Nr z (X * Y) g := by
  have hb1 := (prodB (nx.bd hX) (ny.bd hY)).le h1
  obtain ⟨z, hz, z1, z2⟩ := mulE M ha hb hb1.2 hb1.1 hm hM
  refine ⟨z, hz, ?_⟩
  have q1 := prodB (a := X) (b := y - Y) (A := A) (B := f) hX ⟨by have := ny.2; grind, by have := ny.1; grind⟩
  have q2 := prodB (a := x - X) (b := y) (A := e) (B := B + f) ⟨by have := nx.2; grind, by have := nx.1; grind⟩ (ny.bd hY)
  have e1 : x * y - X * Y = X * (y - Y) + (x - X) * y := by grind
  obtain ⟨q11, q12⟩ := q1
  obtain ⟨q21, q22⟩ := q2
  constructor
  · have : z - X * Y = (z - x * y) + (X * (y - Y) + (x - X) * y) := by rw [← e1]; grind
    rw [this]; generalize X * (y - Y) = k1 at *; generalize (x - X) * y = k2 at *; grind
  · have : X * Y - z = (x * y - z) - (X * (y - Y) + (x - X) * y) := by rw [← e1]; grind
    rw [this]; generalize X * (y - Y) = k1 at *; generalize (x - X) * y = k2 at *; grind
theorem opDiv (M g k : Rat) (ha : Is a x) (hb : Is b k) (hk : 0 < k) (nx : Nr x X e) (hX : Bd X A) (h1 : A + e ≤ M * k) (h2 : e + M * eps * k ≤ g * k) (hm : 1 / 1152921504606846976 ≤ M) (hM : M ≤ 1267650600228229401496703205376) : ∃ z, Is (Core.ddiv a b) z ∧ Nr z (X / k) g := by
  have hk0 : k ≠ 0 := by intro h; rw [h] at hk; exact absurd hk (by decide)
  have hE : (x / k) * k = x := Rat.div_mul_cancel hk0
  have hXk : (X / k) * k = X := Rat.div_mul_cancel hk0
  have hbd := nx.bd hX
  have l1 : x / k ≤ M := cancel_le hk (by rw [hE]; have := hbd.2; grind)
  have l2 : -M ≤ x / k := cancel_le hk (by rw [hE]; have := hbd.1; grind)
  obtain ⟨z, hz, z1, z2⟩ := divE M ha hb hk0 hE l1 l2 hm hM
  refine ⟨z, hz, cancel_le hk ?_, cancel_le hk ?_⟩
  · have t1 : 0 ≤ (M * eps - (z - x / k)) * k := Rat.mul_nonneg (by grind) (by grind)
    have := nx.1; grind
  · have t1 : 0 ≤ (M * eps - (x / k - z)) * k := Rat.mul_nonneg (by grind) (by grind)
    have := nx.2; grind
theorem opAdd (M g : Rat) (ha : Is a x) (hb : Is b y) (nx : Nr x X e) (ny : Nr y Y f) (hX : Bd (X + Y) A) (h1 : A + e + f ≤ M) (h2 : e + f + M * eps ≤ g) (hm : 1 / 1152921504606846976 ≤ M) (hM : M ≤ 1267650600228229401496703205376) : ∃ z, Is (Core.dadd a b) z ∧ Nr z (X + Y) g := by
  obtain ⟨n1, n2⟩ := nx
  obtain ⟨m1, m2⟩ := ny
  obtain ⟨b1, b2⟩ := hX
  obtain ⟨z, hz, z1, z2⟩ := addE M ha hb (by grind) (by grind) hm hM
  exact ⟨z, hz, by grind, by grind⟩
theorem opSub (M g : Rat) (ha : Is a x) (hb : Is b y) (nx : Nr x X e) (ny : Nr y Y f) (hX : Bd (X - Y) A) (h1 : A + e + f ≤ M) (h2 : e + f + M * eps ≤ g) (hm : 1 / 1152921504606846976 ≤ M) (hM : M ≤ 1267650600228229401496703205376) : ∃ z, Is (Core.dsub a b) z ∧ Nr z (X - Y) g := by
  obtain ⟨n1, n2⟩ := nx
  obtain ⟨m1, m2⟩ := ny
  obtain ⟨b1, b2⟩ := hX
  obtain ⟨z, hz, z1, z2⟩ := subE M ha hb (by grind) (by grind) hm hM
  exact ⟨z, hz, by grind, by grind⟩
theorem nr0 (x : Rat) : Nr x x 0 := ⟨by grind, by grind⟩
end Jvm.FPR

namespace Jvm.FPR
open Jvm Jvm.FP Jvm.FP.Core
theorem is_k100 : Is 4636737291354636288 (100 : Rat) := ⟨false, 7036874417766400, -46, by decide +kernel, by decide +kernel⟩
theorem is_kn816 : Is 13828897130991920873 ((-7349874591868649 : Rat) / 9007199254740992) := ⟨true, 7349874591868649, -53, by decide +kernel, by decide +kernel⟩
theorem is_k0192 : Is 4596085549318176506 ((3458764513820541 : Rat) / 18014398509481984) := ⟨false, 6917529027641082, -55, by decide +kernel, by decide +kernel⟩
theorem is_k314 : Is 4644234364435383099 ((5526748243772219 : Rat) / 17592186044416) := ⟨false, 5526748243772219, -44, by decide +kernel, by decide +kernel⟩
theorem is_k1553 : Is 4609672909393953292 ((1748522555326595 : Rat) / 1125899906842624) := ⟨false, 6994090221306380, -52, by decide +kernel, by decide +kernel⟩
theorem is_k425 : Is 4616471093031469056 ((17 : Rat) / 4) := ⟨false, 4785074604081152, -50, by decide +kernel, by decide +kernel⟩
theorem is_k1e4 : Is 4666723172467343360 (10000 : Rat) := ⟨false, 5497558138880000, -39, by decide +kernel, by decide +kernel⟩
theorem is_km27 : Is 13761962255429337310 ((-3984496719921263 : Rat) / 147573952589676412928) := ⟨true, 7968993439842526, -68, by decide +kernel, by decide +kernel⟩
theorem is_k1093 : Is 4592540315691510451 ((7875895028345523 : Rat) / 72057594037927936) := ⟨false, 7875895028345523, -56, by decide +kernel, by decide +kernel⟩
theorem is_k9393 : Is 4576568317627439497 ((5414695846386057 : Rat) / 576460752303423488) := ⟨false, 5414695846386057, -59, by decide +kernel, by decide +kernel⟩
theorem is_k1013 : Is 4562314460835608896 ((72994342760421 : Rat) / 72057594037927936) := ⟨false, 4671637936666944, -62, by decide +kernel, by decide +kernel⟩
theorem is_kpi : Is 4614256656552045848 ((884279719003555 : Rat) / 281474976710656) := ⟨false, 7074237752028440, -51, by decide +kernel, by decide +kernel⟩
theorem is_k1e9 : Is 4472406533629990549 ((4835703278458517 : Rat) / 4835703278458516698824704) := ⟨false, 4835703278458517, -82, by decide +kernel, by decide +kernel⟩
theorem is_k2064 : Is 4641466070963375309 ((7262054399134925 : Rat) / 35184372088832) := ⟨false, 7262054399134925, -45, by decide +kernel, by decide +kernel⟩
theorem is_kz : Is 0 (0 : Rat) := ⟨false, 0, -1074, by decide +kernel, by decide +kernel⟩
theorem is_r3 : Is 4562314460835608896 ((72994342760421 : Rat) / 72057594037927936) := ⟨false, 4671637936666944, -62, by decide +kernel, by decide +kernel⟩
theorem is_r2 : Is 4576568317627439497 ((5414695846386057 : Rat) / 576460752303423488) := ⟨false, 5414695846386057, -59, by decide +kernel, by decide +kernel⟩
theorem is_r1 : Is 13815912352546286259 ((-7875895028345523 : Rat) / 72057594037927936) := ⟨true, 7875895028345523, -56, by decide +kernel, by decide +kernel⟩
theorem is_r0 : Is 13761962255429337310 ((-3984496719921263 : Rat) / 147573952589676412928) := ⟨true, 7968993439842526, -68, by decide +kernel, by decide +kernel⟩
theorem sq_nn (x : Rat) : 0 ≤ x * x := by
  by_cases h : 0 ≤ x
  · exact Rat.mul_nonneg h h
  · have : 0 ≤ (-x) * (-x) := Rat.mul_nonneg (by grind) (by grind)
    grind
theorem Bd.add {X Y A B : Rat} (h : Bd X A) (h' : Bd Y B) : Bd (X + Y) (A + B) := ⟨by have := h.1; have := h'.1; grind, by have := h.2; have := h'.2; grind⟩
theorem Bd.sub {X Y A B : Rat} (h : Bd X A) (h' : Bd Y B) : Bd (X - Y) (A + B) := ⟨by have := h.1; have := h'.2; grind, by have := h.2; have := h'.1; grind⟩
theorem Bd.div {X A k : Rat} (hk : 0 < k) (h : Bd X A) : Bd (X / k) (A / k) := by
  have hk0 : k ≠ 0 := by intro h; rw [h] at hk; exact absurd hk (by decide)
  have e1 : (X / k) * k = X := Rat.div_mul_cancel hk0
  have e2 : (A / k) * k = A := Rat.div_mul_cancel hk0
  exact ⟨cancel_le hk (by have := h.1; grind), cancel_le hk (by have := h.2; grind)⟩
def Bc (a : Int32) : UInt64 := FP.i2d a
def Br (a : Int32) : UInt64 := Core.ddiv (Bc a) 4636737291354636288
def Bt1 (a : Int32) : UInt64 := Core.ddiv (Br a) 4636737291354636288
def Bt2 (a : Int32) : UInt64 := Core.dmul 13828897130991920873 (Bt1 a)
def Bu (a : Int32) : UInt64 := Core.ddiv (Bt2 a) 4596085549318176506
def Bmr3 (a : Int32) : UInt64 := Core.dmul 0 (Bu a)
def Bar3 (a : Int32) : UInt64 := Core.dadd (Bmr3 a) 4562314460835608896
def Bmr2 (a : Int32) : UInt64 := Core.dmul (Bar3 a) (Bu a)
def Bar2 (a : Int32) : UInt64 := Core.dadd (Bmr2 a) 4576568317627439497
def Bmr1 (a : Int32) : UInt64 := Core.dmul (Bar2 a) (Bu a)
def Bar1 (a : Int32) : UInt64 := Core.dadd (Bmr1 a) 13815912352546286259
def Bmr0 (a : Int32) : UInt64 := Core.dmul (Bar1 a) (Bu a)
def Bar0 (a : Int32) : UInt64 := Core.dadd (Bmr0 a) 13761962255429337310
def Bq1 (a : Int32) : UInt64 := Core.dmul 4644234364435383099 (Bar0 a)
def Bres (a : Int32) : UInt64 := Core.ddiv (Bq1 a) 4609672909393953292
def Bd1 (a : Int32) : UInt64 := Core.ddiv (Bc a) 4666723172467343360
def Buu (a : Int32) : UInt64 := Core.dmul 4616471093031469056 (Bd1 a)
def Bm1 (a : Int32) : UInt64 := Core.dmul 4592540315691510451 (Buu a)
def Bs1 (a : Int32) : UInt64 := Core.dadd 13761962255429337310 (Bm1 a)
def Bm2a (a : Int32) : UInt64 := Core.dmul 4576568317627439497 (Buu a)
def Bm2 (a : Int32) : UInt64 := Core.dmul (Bm2a a) (Buu a)
def Bs2 (a : Int32) : UInt64 := Core.dadd (Bs1 a) (Bm2 a)
def Bm3a (a : Int32) : UInt64 := Core.dmul 4562314460835608896 (Buu a)
def Bm3b (a : Int32) : UInt64 := Core.dmul (Bm3a a) (Buu a)
def Bm3 (a : Int32) : UInt64 := Core.dmul (Bm3b a) (Buu a)
def Brad (a : Int32) : UInt64 := Core.dsub (Bs2 a) (Bm3 a)
def Be1 (a : Int32) : UInt64 := Core.dmul (Brad a) 4636737291354636288
def Be2 (a : Int32) : UInt64 := Core.dmul (Be1 a) 4614256656552045848
def Bex (a : Int32) : UInt64 := Core.ddiv (Be2 a) 4609672909393953292
def Bdf (a : Int32) : UInt64 := Core.dsub (Bres a) (Bex a)
set_option maxRecDepth 100000 in
set_option maxHeartbeats 4000000 in
theorem num (a : Int32) (h1 : -32768 ≤ a.toInt) (h2 : a.toInt ≤ 32767) : Jvm.Free.Fl.NoNaN64 (Br a) ∧ Jvm.Free.Fl.NoNaN64 (Bt1 a) ∧ Jvm.Free.Fl.NoNaN64 (Bt2 a) ∧ Jvm.Free.Fl.NoNaN64 (Bu a) ∧ Jvm.Free.Fl.NoNaN64 (Bmr3 a) ∧ Jvm.Free.Fl.NoNaN64 (Bar3 a) ∧ Jvm.Free.Fl.NoNaN64 (Bmr2 a) ∧ Jvm.Free.Fl.NoNaN64 (Bar2 a) ∧ Jvm.Free.Fl.NoNaN64 (Bmr1 a) ∧ Jvm.Free.Fl.NoNaN64 (Bar1 a) ∧ Jvm.Free.Fl.NoNaN64 (Bmr0 a) ∧ Jvm.Free.Fl.NoNaN64 (Bar0 a) ∧ Jvm.Free.Fl.NoNaN64 (Bq1 a) ∧ Jvm.Free.Fl.NoNaN64 (Bres a) ∧ Jvm.Free.Fl.NoNaN64 (Bd1 a) ∧ Jvm.Free.Fl.NoNaN64 (Buu a) ∧ Jvm.Free.Fl.NoNaN64 (Bm1 a) ∧ Jvm.Free.Fl.NoNaN64 (Bs1 a) ∧ Jvm.Free.Fl.NoNaN64 (Bm2a a) ∧ Jvm.Free.Fl.NoNaN64 (Bm2 a) ∧ Jvm.Free.Fl.NoNaN64 (Bs2 a) ∧ Jvm.Free.Fl.NoNaN64 (Bm3a a) ∧ Jvm.Free.Fl.NoNaN64 (Bm3b a) ∧ Jvm.Free.Fl.NoNaN64 (Bm3 a) ∧ Jvm.Free.Fl.NoNaN64 (Brad a) ∧ Jvm.Free.Fl.NoNaN64 (Be1 a) ∧ Jvm.Free.Fl.NoNaN64 (Be2 a) ∧ Jvm.Free.Fl.NoNaN64 (Bex a) ∧ Jvm.Free.Fl.NoNaN64 (Bdf a) ∧ Core.dcmp (Bdf a) 4472406533629990549 = some .lt ∧ Core.dcmp (FP.dneg (Bdf a)) 4472406533629990549 = some .lt ∧ (1 ≤ a.toInt → Core.dcmp 0 (Bres a) = some .lt ∧ Core.dcmp (Bres a) 4641466070963375309 = some .lt) := by
  obtain ⟨t, ht⟩ : ∃ t : Rat, t = ((a.toInt : Int) : Rat) := ⟨_, rfl⟩
  have hu : a.toInt ≤ 32768 := by omega
  have tu : t ≤ 32768 := by rw [ht]; exact_mod_cast hu
  have tl : -32768 ≤ t := by have h := (Rat.intCast_le_intCast (a := -32768) (b := a.toInt)).mpr h1; have e : ((-32768 : Int) : Rat) = -32768 := (by decide +kernel); rw [ht, ← e]; exact h
  have b1 : Bd t 32768 := ⟨tl, tu⟩
  obtain ⟨z1, i1, n1⟩ : ∃ z, Is (Bc a) z ∧ Nr z t ((1 : Rat) / 274877906944) := by
    obtain ⟨z, hz, y1, y2⟩ := i2dE 32768 (a := a) (ht ▸ tu) (ht ▸ tl)
    have hq : (32768 : Rat) * eps ≤ ((1 : Rat) / 274877906944) := by decide +kernel
    rw [← ht] at y1 y2
    exact ⟨z, hz, by grind, by grind⟩
  obtain ⟨z3, i3, n3⟩ := opDiv ((193428131138340689427825 : Rat) / 590295810358705651712) ((45035996273705 : Rat) / 618970019642690137449562112) (100 : Rat) i1 is_k100 (by decide +kernel) n1 b1 (by decide +kernel) (by decide +kernel) (by decide +kernel) (by decide +kernel)
  have b3 : Bd (t / (100 : Rat)) ((386856262276681335905977 : Rat) / 1180591620717411303424) := (Bd.div (by decide +kernel) b1).le (by decide +kernel)
  obtain ⟨X3, hX3⟩ : ∃ X, X = t / (100 : Rat) := ⟨_, rfl⟩
  rw [← hX3] at n3 b3
  change Is (Br a) z3 at i3
  obtain ⟨z5, i5, n5⟩ := opDiv ((1934281311383407109027 : Rat) / 590295810358705651712) ((337769972053 : Rat) / 309485009821345068724781056) (100 : Rat) i3 is_k100 (by decide +kernel) n3 b3 (by decide +kernel) (by decide +kernel) (by decide +kernel) (by decide +kernel)
  have b5 : Bd (X3 / (100 : Rat)) ((967140655691703339765 : Rat) / 295147905179352825856) := (Bd.div (by decide +kernel) b3).le (by decide +kernel)
  obtain ⟨X5, hX5⟩ : ∃ X, X = X3 / (100 : Rat) := ⟨_, rfl⟩
  rw [← hX5] at n5 b5
  change Is (Bt1 a) z5 at i5
  obtain ⟨z7, i7, n7⟩ := opMul ((3156747100177720549679 : Rat) / 1180591620717411303424) ((1469974918375 : Rat) / 1237940039285380274899124224) is_kn816 i5 (nr0 ((-7349874591868649 : Rat) / 9007199254740992)) n5 (⟨by decide +kernel, by decide +kernel⟩ : Bd ((-7349874591868649 : Rat) / 9007199254740992) ((7349874591868649 : Rat) / 9007199254740992)) b5 (by decide +kernel) (by decide +kernel) (by decide +kernel) (by decide +kernel)
  have b7 : Bd (((-7349874591868649 : Rat) / 9007199254740992) * X5) ((3156747100177719498271 : Rat) / 1180591620717411303424) := (prodB (⟨by decide +kernel, by decide +kernel⟩ : Bd ((-7349874591868649 : Rat) / 9007199254740992) ((7349874591868649 : Rat) / 9007199254740992)) b5).le (by decide +kernel)
  obtain ⟨X7, hX7⟩ : ∃ X, X = ((-7349874591868649 : Rat) / 9007199254740992) * X5 := ⟨_, rfl⟩
  rw [← hX7] at n7 b7
  change Is (Bt2 a) z7 at i7
  obtain ⟨z9, i9, n9⟩ := opDiv ((16441391146758962679351 : Rat) / 1180591620717411303424) ((9570149208169 : Rat) / 1237940039285380274899124224) ((3458764513820541 : Rat) / 18014398509481984) i7 is_k0192 (by decide +kernel) n7 b7 (by decide +kernel) (by decide +kernel) (by decide +kernel) (by decide +kernel)
  have b9 : Bd (X7 / ((3458764513820541 : Rat) / 18014398509481984)) ((16441391146758955377907 : Rat) / 1180591620717411303424) := (Bd.div (by decide +kernel) b7).le (by decide +kernel)
  obtain ⟨X9, hX9⟩ : ∃ X, X = X7 / ((3458764513820541 : Rat) / 18014398509481984) := ⟨_, rfl⟩
  rw [← hX9] at n9 b9
  change Is (Bu a) z9 at i9
  obtain ⟨z11, i11, n11⟩ := opMul ((1 : Rat) / 1152921504606846976) ((1 : Rat) / 1237940039285380274899124224) is_kz i9 (nr0 (0 : Rat)) n9 (⟨by decide +kernel, by decide +kernel⟩ : Bd (0 : Rat) (0 : Rat)) b9 (by decide +kernel) (by decide +kernel) (by decide +kernel) (by decide +kernel)
  have b11 : Bd ((0 : Rat) * X9) (0 : Rat) := (prodB (⟨by decide +kernel, by decide +kernel⟩ : Bd (0 : Rat) (0 : Rat)) b9).le (by decide +kernel)
  obtain ⟨X11, hX11⟩ : ∃ X, X = (0 : Rat) * X9 := ⟨_, rfl⟩
  rw [← hX11] at n11 b11
  change Is (Bmr3 a) z11 at i11
  obtain ⟨z13, i13, n13⟩ := opAdd ((1195939311786737665 : Rat) / 1180591620717411303424) ((139225661 : Rat) / 1237940039285380274899124224) i11 is_r3 n11 (nr0 ((72994342760421 : Rat) / 72057594037927936)) (A := ((72994342760421 : Rat) / 72057594037927936)) ((Bd.add b11 (⟨by decide +kernel, by decide +kernel⟩ : Bd ((72994342760421 : Rat) / 72057594037927936) ((72994342760421 : Rat) / 72057594037927936))).le (by decide +kernel)) (by decide +kernel) (by decide +kernel) (by decide +kernel) (by decide +kernel)
  have b13 : Bd (X11 + ((72994342760421 : Rat) / 72057594037927936)) ((72994342760421 : Rat) / 72057594037927936) := (Bd.add b11 (⟨by decide +kernel, by decide +kernel⟩ : Bd ((72994342760421 : Rat) / 72057594037927936) ((72994342760421 : Rat) / 72057594037927936))).le (by decide +kernel)
  obtain ⟨X13, hX13⟩ : ∃ X, X = X11 + ((72994342760421 : Rat) / 72057594037927936) := ⟨_, rfl⟩
  rw [← hX13] at n13 b13
  change Is (Bar3 a) z13 at i13
  obtain ⟨z14, i14, n14⟩ := opMul ((16655129231666833083 : Rat) / 1180591620717411303424) ((13572385623 : Rat) / 1237940039285380274899124224) i13 i9 n13 n9 b13 b9 (by decide +kernel) (by decide +kernel) (by decide +kernel) (by decide +kernel)
  have b14 : Bd (X13 * X9) ((4163782307916705497 : Rat) / 295147905179352825856) := (prodB b13 b9).le (by decide +kernel)
  obtain ⟨X14, hX14⟩ : ∃ X, X = X13 * X9 := ⟨_, rfl⟩
  rw [← hX14] at n14 b14
  change Is (Bmr2 a) z14 at i14
  obtain ⟨z16, i16, n16⟩ := opAdd ((6936106581266369917 : Rat) / 295147905179352825856) ((16802261943 : Rat) / 1237940039285380274899124224) i14 is_r2 n14 (nr0 ((5414695846386057 : Rat) / 576460752303423488)) (A := ((6936106581266366681 : Rat) / 295147905179352825856)) ((Bd.add b14 (⟨by decide +kernel, by decide +kernel⟩ : Bd ((5414695846386057 : Rat) / 576460752303423488) ((5414695846386057 : Rat) / 576460752303423488))).le (by decide +kernel)) (by decide +kernel) (by decide +kernel) (by decide +kernel) (by decide +kernel)
  have b16 : Bd (X14 + ((5414695846386057 : Rat) / 576460752303423488)) ((6936106581266366681 : Rat) / 295147905179352825856) := (Bd.add b14 (⟨by decide +kernel, by decide +kernel⟩ : Bd ((5414695846386057 : Rat) / 576460752303423488) ((5414695846386057 : Rat) / 576460752303423488))).le (by decide +kernel)
  obtain ⟨X16, hX16⟩ : ∃ X, X = X14 + ((5414695846386057 : Rat) / 576460752303423488) := ⟨_, rfl⟩
  rw [← hX16] at n16 b16
  change Is (Bar2 a) z16 at i16
  obtain ⟨z17, i17, n17⟩ := opMul ((386379978773392120569 : Rat) / 1180591620717411303424) ((251939159091 : Rat) / 618970019642690137449562112) i16 i9 n16 n9 b16 b9 (by decide +kernel) (by decide +kernel) (by decide +kernel) (by decide +kernel)
  have b17 : Bd (X16 * X9) ((193189989386695841465 : Rat) / 590295810358705651712) := (prodB b16 b9).le (by decide +kernel)
  obtain ⟨X17, hX17⟩ : ∃ X, X = X16 * X9 := ⟨_, rfl⟩
  rw [← hX17] at n17 b17
  change Is (Bmr1 a) z17 at i17
  obtain ⟨z19, i19, n19⟩ := opAdd ((257709321458902606149 : Rat) / 590295810358705651712) ((563880945373 : Rat) / 1237940039285380274899124224) i17 is_r1 n17 (nr0 ((-7875895028345523 : Rat) / 72057594037927936)) (A := ((257709321458902365881 : Rat) / 590295810358705651712)) ((Bd.add b17 (⟨by decide +kernel, by decide +kernel⟩ : Bd ((-7875895028345523 : Rat) / 72057594037927936) ((7875895028345523 : Rat) / 72057594037927936))).le (by decide +kernel)) (by decide +kernel) (by decide +kernel) (by decide +kernel) (by decide +kernel)
  have b19 : Bd (X17 + ((-7875895028345523 : Rat) / 72057594037927936)) ((257709321458902365881 : Rat) / 590295810358705651712) := (Bd.add b17 (⟨by decide +kernel, by decide +kernel⟩ : Bd ((-7875895028345523 : Rat) / 72057594037927936) ((7875895028345523 : Rat) / 72057594037927936))).le (by decide +kernel)
  obtain ⟨X19, hX19⟩ : ∃ X, X = X17 + ((-7875895028345523 : Rat) / 72057594037927936) := ⟨_, rfl⟩
  rw [← hX19] at n19 b19
  change Is (Bar1 a) z19 at i19
  obtain ⟨z20, i20, n20⟩ := opMul ((1794481547182631669907 : Rat) / 295147905179352825856) ((1608319390189 : Rat) / 154742504910672534362390528) i19 i9 n19 n9 b19 b9 (by decide +kernel) (by decide +kernel) (by decide +kernel) (by decide +kernel)
  have b20 : Bd (X19 * X9) ((3588963094365257603017 : Rat) / 590295810358705651712) := (prodB b19 b9).le (by decide +kernel)
  obtain ⟨X20, hX20⟩ : ∃ X, X = X19 * X9 := ⟨_, rfl⟩
  rw [← hX20] at n20 b20
  change Is (Bmr0 a) z20 at i20
  obtain ⟨z22, i22, n22⟩ := opAdd ((3588979032352143423321 : Rat) / 590295810358705651712) ((13702179419675 : Rat) / 1237940039285380274899124224) i20 is_r0 n20 (nr0 ((-3984496719921263 : Rat) / 147573952589676412928)) (A := ((3588979032352137288069 : Rat) / 590295810358705651712)) ((Bd.add b20 (⟨by decide +kernel, by decide +kernel⟩ : Bd ((-3984496719921263 : Rat) / 147573952589676412928) ((3984496719921263 : Rat) / 147573952589676412928))).le (by decide +kernel)) (by decide +kernel) (by decide +kernel) (by decide +kernel) (by decide +kernel)
  have b22 : Bd (X20 + ((-3984496719921263 : Rat) / 147573952589676412928)) ((3588979032352137288069 : Rat) / 590295810358705651712) := (Bd.add b20 (⟨by decide +kernel, by decide +kernel⟩ : Bd ((-3984496719921263 : Rat) / 147573952589676412928) ((3984496719921263 : Rat) / 147573952589676412928))).le (by decide +kernel)
  obtain ⟨X22, hX22⟩ : ∃ X, X = X20 + ((-3984496719921263 : Rat) / 147573952589676412928) := ⟨_, rfl⟩
  rw [← hX22] at n22 b22
  change Is (Bar0 a) z22 at i22
  obtain ⟨z24, i24, n24⟩ := opMul ((563755508096264998803091 : Rat) / 295147905179352825856) ((35681138561945 : Rat) / 9671406556917033397649408) is_k314 i22 (nr0 ((5526748243772219 : Rat) / 17592186044416)) n22 (⟨by decide +kernel, by decide +kernel⟩ : Bd ((5526748243772219 : Rat) / 17592186044416) ((5526748243772219 : Rat) / 17592186044416)) b22 (by decide +kernel) (by decide +kernel) (by decide +kernel) (by decide +kernel)
  have b24 : Bd (((5526748243772219 : Rat) / 17592186044416) * X22) ((2255022032385055889962367 : Rat) / 1180591620717411303424) := (prodB (⟨by decide +kernel, by decide +kernel⟩ : Bd ((5526748243772219 : Rat) / 17592186044416) ((5526748243772219 : Rat) / 17592186044416)) b22).le (by decide +kernel)
  obtain ⟨X24, hX24⟩ : ∃ X, X = ((5526748243772219 : Rat) / 17592186044416) * X22 := ⟨_, rfl⟩
  rw [← hX24] at n24 b24
  change Is (Bq1 a) z24 at i24
  obtain ⟨z26, i26, n26⟩ := opDiv ((1452042519243438724035123 : Rat) / 1180591620717411303424) ((777479853759803 : Rat) / 309485009821345068724781056) ((1748522555326595 : Rat) / 1125899906842624) i24 is_k1553 (by decide +kernel) n24 b24 (by decide +kernel) (by decide +kernel) (by decide +kernel) (by decide +kernel)
  have b26 : Bd (X24 / ((1748522555326595 : Rat) / 1125899906842624)) ((1452042519243435919393955 : Rat) / 1180591620717411303424) := (Bd.div (by decide +kernel) b24).le (by decide +kernel)
  obtain ⟨X26, hX26⟩ : ∃ X, X = X24 / ((1748522555326595 : Rat) / 1125899906842624) := ⟨_, rfl⟩
  rw [← hX26] at n26 b26
  change Is (Bres a) z26 at i26
  obtain ⟨z28, i28, n28⟩ := opDiv ((3868562622766813788557 : Rat) / 1180591620717411303424) ((900719925475 : Rat) / 1237940039285380274899124224) (10000 : Rat) i1 is_k1e4 (by decide +kernel) n1 b1 (by decide +kernel) (by decide +kernel) (by decide +kernel) (by decide +kernel)
  have b28 : Bd (t / (10000 : Rat)) ((967140655691703339765 : Rat) / 295147905179352825856) := (Bd.div (by decide +kernel) b1).le (by decide +kernel)
  obtain ⟨X28, hX28⟩ : ∃ X, X = t / (10000 : Rat) := ⟨_, rfl⟩
  rw [← hX28] at n28 b28
  change Is (Bd1 a) z28 at i28
  obtain ⟨z30, i30, n30⟩ := opMul ((2055173893344870053341 : Rat) / 147573952589676412928) ((2871044762451 : Rat) / 618970019642690137449562112) is_k425 i28 (nr0 ((17 : Rat) / 4)) n28 (⟨by decide +kernel, by decide +kernel⟩ : Bd ((17 : Rat) / 4) ((17 : Rat) / 4)) b28 (by decide +kernel) (by decide +kernel) (by decide +kernel) (by decide +kernel)
  have b30 : Bd (((17 : Rat) / 4) * X28) ((16441391146758956776005 : Rat) / 1180591620717411303424) := (prodB (⟨by decide +kernel, by decide +kernel⟩ : Bd ((17 : Rat) / 4) ((17 : Rat) / 4)) b28).le (by decide +kernel)
  obtain ⟨X30, hX30⟩ : ∃ X, X = ((17 : Rat) / 4) * X28 := ⟨_, rfl⟩
  rw [← hX30] at n30 b30
  change Is (Buu a) z30 at i30
  obtain ⟨z32, i32, n32⟩ := opMul ((898522026170377240895 : Rat) / 590295810358705651712) ((836813846763 : Rat) / 1237940039285380274899124224) is_k1093 i30 (nr0 ((7875895028345523 : Rat) / 72057594037927936)) n30 (⟨by decide +kernel, by decide +kernel⟩ : Bd ((7875895028345523 : Rat) / 72057594037927936) ((7875895028345523 : Rat) / 72057594037927936)) b30 (by decide +kernel) (by decide +kernel) (by decide +kernel) (by decide +kernel)
  have b32 : Bd (((7875895028345523 : Rat) / 72057594037927936) * X30) ((1797044052340753883255 : Rat) / 1180591620717411303424) := (prodB (⟨by decide +kernel, by decide +kernel⟩ : Bd ((7875895028345523 : Rat) / 72057594037927936) ((7875895028345523 : Rat) / 72057594037927936)) b30).le (by decide +kernel)
  obtain ⟨X32, hX32⟩ : ∃ X, X = ((7875895028345523 : Rat) / 72057594037927936) * X30 := ⟨_, rfl⟩
  rw [← hX32] at n32 b32
  change Is (Bm1 a) z32 at i32
  obtain ⟨z34, i34, n34⟩ := opAdd ((1797075928314514051407 : Rat) / 1180591620717411303424) ((523010509653 : Rat) / 618970019642690137449562112) is_km27 i32 (nr0 ((-3984496719921263 : Rat) / 147573952589676412928)) n32 (A := ((1797075928314513253359 : Rat) / 1180591620717411303424)) ((Bd.add (⟨by decide +kernel, by decide +kernel⟩ : Bd ((-3984496719921263 : Rat) / 147573952589676412928) ((3984496719921263 : Rat) / 147573952589676412928)) b32).le (by decide +kernel)) (by decide +kernel) (by decide +kernel) (by decide +kernel) (by decide +kernel)
  have b34 : Bd (((-3984496719921263 : Rat) / 147573952589676412928) + X32) ((1797075928314513253359 : Rat) / 1180591620717411303424) := (Bd.add (⟨by decide +kernel, by decide +kernel⟩ : Bd ((-3984496719921263 : Rat) / 147573952589676412928) ((3984496719921263 : Rat) / 147573952589676412928)) b32).le (by decide +kernel)
  obtain ⟨X34, hX34⟩ : ∃ X, X = ((-3984496719921263 : Rat) / 147573952589676412928) + X32 := ⟨_, rfl⟩
  rw [← hX34] at n34 b34
  change Is (Bs1 a) z34 at i34
  obtain ⟨z36, i36, n36⟩ := opMul ((154433987041506937489 : Rat) / 1180591620717411303424) ((35956964605 : Rat) / 618970019642690137449562112) is_k9393 i30 (nr0 ((5414695846386057 : Rat) / 576460752303423488)) n30 (⟨by decide +kernel, by decide +kernel⟩ : Bd ((5414695846386057 : Rat) / 576460752303423488) ((5414695846386057 : Rat) / 576460752303423488)) b30 (by decide +kernel) (by decide +kernel) (by decide +kernel) (by decide +kernel)
  have b36 : Bd (((5414695846386057 : Rat) / 576460752303423488) * X30) ((38608496760376721513 : Rat) / 295147905179352825856) := (prodB (⟨by decide +kernel, by decide +kernel⟩ : Bd ((5414695846386057 : Rat) / 576460752303423488) ((5414695846386057 : Rat) / 576460752303423488)) b30).le (by decide +kernel)
  obtain ⟨X36, hX36⟩ : ∃ X, X = ((5414695846386057 : Rat) / 576460752303423488) * X30 := ⟨_, rfl⟩
  rw [← hX36] at n36 b36
  change Is (Bm2a a) z36 at i36
  obtain ⟨z37, i37, n37⟩ := opMul ((268838684641855396169 : Rat) / 147573952589676412928) ((2003004287499 : Rat) / 1237940039285380274899124224) i36 i30 n36 n30 b36 b30 (by decide +kernel) (by decide +kernel) (by decide +kernel) (by decide +kernel)
  have b37 : Bd (X36 * X30) ((2150709477134841497915 : Rat) / 1180591620717411303424) := (prodB b36 b30).le (by decide +kernel)
  obtain ⟨X37, hX37⟩ : ∃ X, X = X36 * X30 := ⟨_, rfl⟩
  rw [← hX37] at n37 b37
  change Is (Bm2 a) z37 at i37
  obtain ⟨z38, i38, n38⟩ := opAdd ((986946351362339414763 : Rat) / 295147905179352825856) ((3508608015285 : Rat) / 1237940039285380274899124224) i34 i37 n34 n37 (A := ((1973892702724677375637 : Rat) / 590295810358705651712)) ((Bd.add b34 b37).le (by decide +kernel)) (by decide +kernel) (by decide +kernel) (by decide +kernel) (by decide +kernel)
  have b38 : Bd (X34 + X37) ((1973892702724677375637 : Rat) / 590295810358705651712) := (Bd.add b34 b37).le (by decide +kernel)
  obtain ⟨X38, hX38⟩ : ∃ X, X = X34 + X37 := ⟨_, rfl⟩
  rw [← hX38] at n38 b38
  change Is (Bs2 a) z38 at i38
  obtain ⟨z40, i40, n40⟩ := opMul ((2081891153958353619 : Rat) / 147573952589676412928) ((7755648919 : Rat) / 1237940039285380274899124224) is_k1013 i30 (nr0 ((72994342760421 : Rat) / 72057594037927936)) n30 (⟨by decide +kernel, by decide +kernel⟩ : Bd ((72994342760421 : Rat) / 72057594037927936) ((72994342760421 : Rat) / 72057594037927936)) b30 (by decide +kernel) (by decide +kernel) (by decide +kernel) (by decide +kernel)
  have b40 : Bd (((72994342760421 : Rat) / 72057594037927936) * X30) ((4163782307916705851 : Rat) / 295147905179352825856) := (prodB (⟨by decide +kernel, by decide +kernel⟩ : Bd ((72994342760421 : Rat) / 72057594037927936) ((72994342760421 : Rat) / 72057594037927936)) b30).le (by decide +kernel)
  obtain ⟨X40, hX40⟩ : ∃ X, X = ((72994342760421 : Rat) / 72057594037927936) * X30 := ⟨_, rfl⟩
  rw [← hX40] at n40 b40
  change Is (Bm3a a) z40 at i40
  obtain ⟨z41, i41, n41⟩ := opMul ((14496624483242814357 : Rat) / 73786976294838206464) ((108008269101 : Rat) / 618970019642690137449562112) i40 i30 n40 n30 b40 b30 (by decide +kernel) (by decide +kernel) (by decide +kernel) (by decide +kernel)
  have b41 : Bd (X40 * X30) ((115972995865942424727 : Rat) / 590295810358705651712) := (prodB b40 b30).le (by decide +kernel)
  obtain ⟨X41, hX41⟩ : ∃ X, X = X40 * X30 := ⟨_, rfl⟩
  rw [← hX41] at n41 b41
  change Is (Bm3b a) z41 at i41
  obtain ⟨z42, i42, n42⟩ := opMul ((1615086329627462556135 : Rat) / 590295810358705651712) ((4512499076353 : Rat) / 1237940039285380274899124224) i41 i30 n41 n30 b41 b30 (by decide +kernel) (by decide +kernel) (by decide +kernel) (by decide +kernel)
  have b42 : Bd (X41 * X30) ((3230172659254921167437 : Rat) / 1180591620717411303424) := (prodB b41 b30).le (by decide +kernel)
  obtain ⟨X42, hX42⟩ : ∃ X, X = X41 * X30 := ⟨_, rfl⟩
  rw [← hX42] at n42 b42
  change Is (Bm3 a) z42 at i42
  obtain ⟨z43, i43, n43⟩ := opSub ((7177958064704283568235 : Rat) / 1180591620717411303424) ((8856731389801 : Rat) / 1237940039285380274899124224) i38 i42 n38 n42 (A := ((7177958064704275918711 : Rat) / 1180591620717411303424)) ((Bd.sub b38 b42).le (by decide +kernel)) (by decide +kernel) (by decide +kernel) (by decide +kernel) (by decide +kernel)
  have b43 : Bd (X38 - X42) ((7177958064704275918711 : Rat) / 1180591620717411303424) := (Bd.sub b38 b42).le (by decide +kernel)
  obtain ⟨X43, hX43⟩ : ∃ X, X = X38 - X42 := ⟨_, rfl⟩
  rw [← hX43] at n43 b43
  change Is (Brad a) z43 at i43
  obtain ⟨z45, i45, n45⟩ := opMul ((358897903235214218257413 : Rat) / 590295810358705651712) ((242308892199095 : Rat) / 309485009821345068724781056) i43 is_k100 n43 (nr0 (100 : Rat)) b43 (⟨by decide +kernel, by decide +kernel⟩ : Bd (100 : Rat) (100 : Rat)) (by decide +kernel) (by decide +kernel) (by decide +kernel) (by decide +kernel)
  have b45 : Bd (X43 * (100 : Rat)) ((179448951617606897967775 : Rat) / 295147905179352825856) := (prodB b43 (⟨by decide +kernel, by decide +kernel⟩ : Bd (100 : Rat) (100 : Rat))).le (by decide +kernel)
  obtain ⟨X45, hX45⟩ : ∃ X, X = X43 * (100 : Rat) := ⟨_, rfl⟩
  rw [← hX45] at n45 b45
  change Is (Be1 a) z45 at i45
  obtain ⟨z47, i47, n47⟩ := opMul ((70469438512033097300733 : Rat) / 36893488147419103232) ((206716403634723 : Rat) / 77371252455336267181195264) i45 is_kpi n45 (nr0 ((884279719003555 : Rat) / 281474976710656)) b45 (⟨by decide +kernel, by decide +kernel⟩ : Bd ((884279719003555 : Rat) / 281474976710656) ((884279719003555 : Rat) / 281474976710656)) (by decide +kernel) (by decide +kernel) (by decide +kernel) (by decide +kernel)
  have b47 : Bd (X45 * ((884279719003555 : Rat) / 281474976710656)) ((2255022032385056209739195 : Rat) / 1180591620717411303424) := (prodB b45 (⟨by decide +kernel, by decide +kernel⟩ : Bd ((884279719003555 : Rat) / 281474976710656) ((884279719003555 : Rat) / 281474976710656))).le (by decide +kernel)
  obtain ⟨X47, hX47⟩ : ∃ X, X = X45 * ((884279719003555 : Rat) / 281474976710656) := ⟨_, rfl⟩
  rw [← hX47] at n47 b47
  change Is (Be2 a) z47 at i47
  obtain ⟨z49, i49, n49⟩ := opDiv ((1452042519243438156366799 : Rat) / 1180591620717411303424) ((2298764696575985 : Rat) / 1237940039285380274899124224) ((1748522555326595 : Rat) / 1125899906842624) i47 is_k1553 (by decide +kernel) n47 b47 (by decide +kernel) (by decide +kernel) (by decide +kernel) (by decide +kernel)
  have b49 : Bd (X47 / ((1748522555326595 : Rat) / 1125899906842624)) ((363010629810859031325763 : Rat) / 295147905179352825856) := (Bd.div (by decide +kernel) b47).le (by decide +kernel)
  obtain ⟨X49, hX49⟩ : ∃ X, X = X47 / ((1748522555326595 : Rat) / 1125899906842624) := ⟨_, rfl⟩
  rw [← hX49] at n49 b49
  change Is (Bex a) z49 at i49
  have fr : X26 = ((-22021310249141007456151786792597 : Rat) / 4031818510652293487533233736253440) + ((106641998497203683060095226552257385961989763171 : Rat) / 11348560213874460928784261316440272615034060800000) * t + ((179622648990356586169419388393011057233701446380048045474855787 : Rat) / 523359964676061795252490497589171266263716500175160715771904000000000) * t ^ 2 + ((-53392150878695360821501261777338854342802165468560275109013389965708558394117 : Rat) / 3394085388329876975230587055255146439152249206793188191038314074730523525120000000000000) * t ^ 3 := by subst hX26 hX24 hX22 hX20 hX19 hX17 hX16 hX14 hX13 hX11 hX9 hX7 hX5 hX3; grind
  have fe : X49 = ((-17617048199312805168022085449825 : Rat) / 3225454808521834790026586989002752) + ((23679280424727374728590938136501 : Rat) / 2519886569157683429708271085158400) * t + ((276752510704548380027646978006303 : Rat) / 806363702130458697506646747250688000000) * t ^ 2 + ((-63424291850886664947242602693203 : Rat) / 4031818510652293487533233736253440000000000) * t ^ 3 := by subst hX49 hX47 hX45 hX43 hX42 hX41 hX40 hX38 hX37 hX36 hX34 hX32 hX30 hX28; grind
  have tt := prodB b1 b1
  have ttt := prodB tt b1
  have ft2 : t * t = t ^ 2 := by grind
  have ft3 : t * t * t = t ^ 3 := by grind
  rw [ft3] at ttt
  rw [ft2] at tt
  obtain ⟨t21, t22⟩ := tt
  obtain ⟨t31, t32⟩ := ttt
  obtain ⟨t11, t12⟩ := b1
  obtain ⟨nr1, nr2⟩ := n26
  obtain ⟨ne1, ne2⟩ := n49
  have hd : Bd (z26 - z49) ((1373195004233 : Rat) / 302231454903657293676544) := by rw [fr] at nr1 nr2; rw [fe] at ne1 ne2; constructor <;> grind
  obtain ⟨zd, id_, nd⟩ := opSub (1 : Rat) ((1 : Rat) / 4503599627370496) i26 i49 (nr0 _) (nr0 _) (A := ((1373195004233 : Rat) / 302231454903657293676544)) hd (by decide +kernel) (by decide +kernel) (by decide +kernel) (by decide +kernel)
  change Is (Bdf a) zd at id_
  have hzd : Bd zd ((1373262113097 : Rat) / 302231454903657293676544) := (nd.bd hd).le (by decide +kernel)
  have c1 : Core.dcmp (Bdf a) 4472406533629990549 = some .lt := ltE id_ is_k1e9 (by have := hzd.2; have : ((1373262113097 : Rat) / 302231454903657293676544) < ((4835703278458517 : Rat) / 4835703278458516698824704) := (by decide +kernel); grind)
  have c2 : Core.dcmp (FP.dneg (Bdf a)) 4472406533629990549 = some .lt := ltE (negE id_) is_k1e9 (by have := hzd.1; have : ((1373262113097 : Rat) / 302231454903657293676544) < ((4835703278458517 : Rat) / 4835703278458516698824704) := (by decide +kernel); grind)
  refine ⟨i3.nn, i5.nn, i7.nn, i9.nn, i11.nn, i13.nn, i14.nn, i16.nn, i17.nn, i19.nn, i20.nn, i22.nn, i24.nn, i26.nn, i28.nn, i30.nn, i32.nn, i34.nn, i36.nn, i37.nn, i38.nn, i40.nn, i41.nn, i42.nn, i43.nn, i45.nn, i47.nn, i49.nn, id_.nn, c1, c2, fun hpos => ?_⟩
  have tp : 1 ≤ t := by rw [ht]; exact_mod_cast hpos
  have wt : 0 ≤ t * t := Rat.mul_nonneg (by grind) (by grind)
  have w1 : 0 ≤ (32768 - t) * (t * t) := Rat.mul_nonneg (by grind) wt
  have w2 : 0 ≤ (t - 1) * (32768 - t) := Rat.mul_nonneg (by grind) (by grind)
  have ws : 0 ≤ (t - (23147 : Rat)) * (t - (23147 : Rat)) := sq_nn _
  have w3 : 0 ≤ ((t - (23147 : Rat)) * (t - (23147 : Rat))) * (t + (24476 : Rat)) := Rat.mul_nonneg ws (by grind)
  have lo : ((3 : Rat) / 1000) ≤ X26 := by rw [fr]; grind
  have hi : X26 ≤ ((20639 : Rat) / 100) := by rw [fr]; grind
  exact ⟨ltE is_kz i26 (by have : ((777479853759803 : Rat) / 309485009821345068724781056) < ((3 : Rat) / 1000) := (by decide +kernel); grind), ltE i26 is_k2064 (by have : ((1596865279425704655349033048771 : Rat) / 7737125245533626718119526400) < ((7262054399134925 : Rat) / 35184372088832) := (by decide +kernel); grind)⟩
end Jvm.FPR

namespace Jvm.Road
open Jvm Jvm.ClassFile Sem Op Lib Jvm.Free Jvm.Stand Jvm.LawKit Jvm.RoadKit Bundle
section Facts
variable {Z : State} {h h' : Heap} {a b : Addr} {ty : FieldType} {vs : List Value} {ws : List Addr}
/-- the array at a holds just these values -/
def Ary (Z : State) (h : Heap) (a : Addr) (ty : FieldType) (vs : List Value) : Prop := ∃ c : Cell, Arr Z h a c ty ∧ c.slots.toList = vs ∧ vs.length < 2147483648 ∧ ∀ v ∈ vs, fits ty v = true
theorem Ary.keep (F : Ary Z h a ty vs) (K : Keep h h' ws) (q : a ∉ ws) : Ary Z h' a ty vs := by
  obtain ⟨c, A, r⟩ := F; exact ⟨c, ⟨K.2.1 a c A.1 q, A.2⟩, r⟩
theorem Ary.lt (F : Ary Z h a ty vs) : a < h.size := by obtain ⟨c, A, -⟩ := F; exact A.lt
theorem Ary.small (F : Ary Z h a ty vs) : vs.length < 2147483648 := by obtain ⟨c, A, -, q, -⟩ := F; exact q
theorem Ary.fit (F : Ary Z h a ty vs) : ∀ v ∈ vs, fits ty v = true := by obtain ⟨c, A, -, -, q⟩ := F; exact q
theorem Ary.wr {i : Nat} {v : Value} (F : Ary Z h a ty vs) (W : Wr h h' a i v) (hv : fits ty v = true) : Ary Z h' a ty (vs.set i v) := by
  obtain ⟨c, A, e, q, f⟩ := F
  refine ⟨_, Arr.same W A, ?_, by rw [List.length_set]; exact q, fun u hu => ?_⟩
  · show (c.slots.setIfInBounds i v).toList = _
    rw [Array.toList_setIfInBounds, e]
  · rcases List.mem_or_eq_of_mem_set hu with r | r
    · exact f u r
    · exact r ▸ hv
theorem ix_of {j : Int32} {i : Nat} (hj : j.toInt = (i : Int)) : ¬ j < 0 ∧ j.toNatClampNeg = i := by
  refine ⟨?_, ?_⟩
  · simp only [Int32.lt_iff_toInt_lt, hj, Int32.reduceToInt]; omega
  · simp only [Int32.toNatClampNeg, hj]; omega
theorem Ary.inb {c : Cell} {j : Int32} {i : Nat} (e : c.slots.toList = vs) (hj : j.toInt = (i : Int)) (hi : i < vs.length) : ¬ (j < 0 ∨ c.slots.size ≤ j.toNatClampNeg) := by
  obtain ⟨q1, q2⟩ := ix_of hj
  rw [q2, ← Array.length_toList, e]
  intro q; rcases q with q | q
  · exact q1 q
  · omega
theorem Ary.of_arv {k : ClassId} {z : Int32} {d : Value} (F : Arv Z h a k ty z vs d) (hz : z.toNatClampNeg = vs.length) : Ary Z h a ty vs := by
  obtain ⟨c, A, -, S, hn, H, G⟩ := F
  have hsz : c.slots.size = vs.length := S.trans hz
  have e : c.slots.toList = vs := by
    apply List.ext_getElem?
    intro i
    by_cases hi : i < vs.length
    · have := H i (by rw [hsz]; exact hi)
      rw [Array.getElem?_toList, this, List.getD_eq_getElem?_getD, List.getElem?_eq_getElem hi]; rfl
    · rw [List.getElem?_eq_none (Nat.le_of_not_lt hi), List.getElem?_eq_none (by rw [Array.length_toList, hsz]; exact Nat.le_of_not_lt hi)]
  refine ⟨c, A, e, by have := Int32.toInt_lt z; simp only [Int32.toNatClampNeg] at hz; omega, fun v hv => ?_⟩
  obtain ⟨i, hi, rfl⟩ := List.getElem_of_mem hv
  have := G i (by rw [hsz]; exact hi)
  rwa [List.getD_eq_getElem?_getD, List.getElem?_eq_getElem hi] at this
def byt (c : Int32) : Value := .int c.toInt8.toInt32
abbrev SN : String := "java/lang/String"
/-- the object at a is a compact String of these chars, its bytes at b -/
def Str (Z : State) (h : Heap) (a b : Addr) (cs : List Int32) : Prop := Exa Z h a SN ∧ Fld Z h a SN "coder" "B" (.int 0) ∧ Fld Z h a SN "value" "[B" (.ref b) ∧ Ary Z h b .byte (cs.map byt) ∧ ∀ c ∈ cs, 0 ≤ c.toInt ∧ c.toInt < 256
theorem Str.keep {cs : List Int32} (F : Str Z h a b cs) (K : Keep h h' ws) (q : a ∉ ws) (q' : b ∉ ws) : Str Z h' a b cs := ⟨F.1.keep K, F.2.1.keep K q, F.2.2.1.keep K q, F.2.2.2.1.keep K q', F.2.2.2.2⟩
theorem Str.lt {cs : List Int32} (F : Str Z h a b cs) : a < h.size := F.1.lt
theorem Str.ltb {cs : List Int32} (F : Str Z h a b cs) : b < h.size := F.2.2.2.1.lt
theorem keep_ext (E : Ext h h') : Keep h h' [] := (Keep.refl h []).ext E
end Facts
end Jvm.Road
namespace Jvm.Road
open Jvm Jvm.ClassFile Sem Op Lib Jvm.Free Jvm.Stand Jvm.LawKit Jvm.RoadKit Bundle
section Start
variable {Z : State} {a : Addr} {args : Array Value} {t b : Term} {ty : FieldType}
theorem eq_int_of {n : Int32} (h : (Cond.eq t (Term.int n)).value args Z none Z [] = some true) : t.eval args Z none [] Z = some (.int n) := by
  obtain ⟨x, y, q1, q2, -, k2⟩ := cmp_v (Or.inl h)
  cases q2
  obtain ⟨z, rfl⟩ := k2
  have := gotT (Cond.eq_ints q1 (Term.int_eval n)) h
  rw [← this]; exact q1
theorem eq_ref_of {q : Addr} (h : (Cond.eq t b).value args Z none Z [] = some true) (hb : b.eval args Z none [] Z = some (.ref q)) : t.eval args Z none [] Z = some (.ref q) := by
  obtain ⟨x, y, q1, q2, -, k2⟩ := cmp_v (Or.inl h)
  cases hb.symm.trans q2
  have := gotT (eq_R q1 hb k2.2 rfl) h
  rw [← this]; exact q1
theorem len_lt {v : Value} (h : (Term.length t).eval args Z none [] Z = some v) (ev : t.eval args Z none [] Z = some (.ref a)) : ∃ c, Z.arrayAt? a = some c ∧ c.slots.size < 2 ^ 31 ∧ v = .int c.slots.size.toInt32 := by
  obtain ⟨x, c, e1, e2, e3⟩ := Term.length_spec h
  cases ev.symm.trans e1
  refine ⟨c, e2, ?_, e3⟩
  by_cases q : c.slots.size < 2 ^ 31
  · exact q
  · simp [Term.eval, ev, e2, q] at h
theorem Ary.start {n : Int32} {vs : List Value} (ev : t.eval args Z none [] Z = some (.ref a)) (hx : (Cond.arrayOf t ty).value args Z none Z [] = some true)
    (hl : (Cond.eq (Term.length t) (Term.int n)).value args Z none Z [] = some true) (hn : n.toInt = vs.length)
    (he : ∀ i, i < vs.length → ∃ j : Int32, j.toInt = (i : Int) ∧ (Term.elem t (Term.int j)).eval args Z none [] Z = vs[i]?) (hf : ∀ v ∈ vs, fits ty v = true) : Ary Z Z.heap a ty vs := by
  obtain ⟨c, A⟩ := Arr.start ev hx
  obtain ⟨c', e1, e2, e3⟩ := len_lt (eq_int_of hl) ev
  have e4 : Z.heap[a]? = some c' := (arrayAt_spec e1).1
  cases A.1.symm.trans e4
  have e5 : c.slots.size = vs.length := by
    have : n.toInt = (c.slots.size : Int) := by
      injection e3 with q; rw [q]; exact len_toInt e2
    omega
  refine ⟨c, A, ?_, by omega, hf⟩
  apply List.ext_getElem?
  intro i
  by_cases hi : i < vs.length
  · obtain ⟨j, j1, j2⟩ := he i hi
    rw [List.getElem?_eq_getElem hi] at j2 ⊢
    have := (elem_in j2 ev (Term.int_eval j) A.1).2
    rw [(ix_of j1).2] at this
    rw [Array.getElem?_toList]; exact this
  · rw [List.getElem?_eq_none (Nat.le_of_not_lt hi), List.getElem?_eq_none (by rw [Array.length_toList, e5]; exact Nat.le_of_not_lt hi)]
end Start
end Jvm.Road
namespace Jvm.Nar
open Jvm Jvm.ClassFile Sem Op Lib Jvm.Free Jvm.Stand Jvm.LawKit Jvm.RoadKit Bundle
/-- what stands all along a walk: the code's bytes, its class, the tables, its shape -/
def Ok (p : Program) (s : State) (m : MethodId) (meth : Method) (c : Code) (Z : State) (bs : ByteArray) (own : String) (ml : Nat) (rt : Option FieldType) : Prop :=
  p.tables.exec = Jvm.exec ∧ c.code = bs ∧ s.vm.findClass own = some m.cls ∧ Z.Warmed39 s.vm ∧ c.maxLocals = ml ∧ meth.sig.returnType = rt ∧ meth.locks = false
/-- how the walk ends: returned with w, the heap as it was -/
def End (s : State) (below : List Frame) (h : Heap) (w : Option Value) (t : State) : Prop :=
  t.status = .running ∧ Ended t below (.returned w) ∧ t.heap = h ∧ s.WarmedH t.vm ∧ s.sameButNew ({ t with vm := s.vm } : State) [] 0 0
/-- from this frame the walk comes to its end -/
def Go (p : Program) (l : Launch) (e : Env) (R : Room) (s : State) (m : MethodId) (args : Array Value) (below : List Frame) (meth : Method) (c : Code) (h : Heap) (w : Option Value) (Z : State) (bs : ByteArray) (own : String) (ml : Nat) (rt : Option FieldType) (pc : Nat) (Ls : Array Slot) (st : List Value) : Prop :=
  Ok p s m meth c Z bs own ml rt → ∀ T, Stand p l e R s m args below meth c T [] 0 0 → T.heap = h → ∃ t, Steps p.tables e below (T.setTop (mkF m pc Ls st)) t ∧ End s below h w t
section N
variable {p : Program} {l : Launch} {e : Env} {R : Room} {s : State} {m : MethodId} {args : Array Value} {below : List Frame} {meth : Method} {c : Code} {h : Heap} {w : Option Value} {Z : State} {a0 : Array Value} {bs : ByteArray} {own : String} {ml : Nat} {rt : Option FieldType} {Ls : Array Slot} {st : List Value}
theorem Go.step {pc pc' : Nat} {Ls' : Array Slot} {st' : List Value} (f : ∀ T, Stand p l e R s m args below meth c T [] 0 0 → p.tables.exec = Jvm.exec → c.code = bs → ∀ t, Steps p.tables e below (T.setTop (mkF m pc' Ls' st')) t → Steps p.tables e below (T.setTop (mkF m pc Ls st)) t) (r : Go p l e R s m args below meth c h w Z bs own ml rt pc' Ls' st') : Go p l e R s m args below meth c h w Z bs own ml rt pc Ls st := fun ok T X hT => by
  obtain ⟨t, a, b⟩ := r ok T X hT
  exact ⟨t, f T X ok.1 ok.2.1 t a, b⟩

theorem iload (pc : Nat) {k : Nat} {v : Int32} (hd : decode bs pc = .ok (.iload k, 2)) (hl : Ls[k]? = some (.val (.int v))) (r : Go p l e R s m args below meth c h w Z bs own ml rt (pc + 2) Ls (.int v :: st)) : Go p l e R s m args below meth c h w Z bs own ml rt pc Ls st :=
  Go.step (fun T X hx hb t q => XS.iload X.here hx rfl (Jvm.hb hb hd) hl q) r
theorem iloadN (pc : Nat) {k : Fin 4} {v : Int32} (hd : decode bs pc = .ok (.iload_n k, 1)) (hl : Ls[k.val]? = some (.val (.int v))) (r : Go p l e R s m args below meth c h w Z bs own ml rt (pc + 1) Ls (.int v :: st)) : Go p l e R s m args below meth c h w Z bs own ml rt pc Ls st :=
  Go.step (fun T X hx hb t q => XS.iloadN X.here hx rfl (Jvm.hb hb hd) hl q) r
theorem dload (pc : Nat) {k : Nat} {v : UInt64} (hd : decode bs pc = .ok (.dload k, 2)) (hl : Ls[k]? = some (.val (.double v))) (r : Go p l e R s m args below meth c h w Z bs own ml rt (pc + 2) Ls (.double v :: st)) : Go p l e R s m args below meth c h w Z bs own ml rt pc Ls st :=
  Go.step (fun T X hx hb t q => XS.dload X.here hx rfl (Jvm.hb hb hd) hl q) r
theorem dloadN (pc : Nat) {k : Fin 4} {v : UInt64} (hd : decode bs pc = .ok (.dload_n k, 1)) (hl : Ls[k.val]? = some (.val (.double v))) (r : Go p l e R s m args below meth c h w Z bs own ml rt (pc + 1) Ls (.double v :: st)) : Go p l e R s m args below meth c h w Z bs own ml rt pc Ls st :=
  Go.step (fun T X hx hb t q => XS.dloadN X.here hx rfl (Jvm.hb hb hd) hl q) r
theorem iconst (pc : Nat) {i : Int} (v : Int32) (hd : decode bs pc = .ok (.iconst i, 1)) (hv : Int32.ofInt i = v) (r : Go p l e R s m args below meth c h w Z bs own ml rt (pc + 1) Ls (.int v :: st)) : Go p l e R s m args below meth c h w Z bs own ml rt pc Ls st :=
  Go.step (fun T X hx hb t q => XT.iconstV X.here hx rfl v (Jvm.hb hb hd) hv q) r
theorem bipush (pc : Nat) {i : Int} (v : Int32) (hd : decode bs pc = .ok (.bipush i, 2)) (hv : (Int8.ofInt i).toInt32 = v) (r : Go p l e R s m args below meth c h w Z bs own ml rt (pc + 2) Ls (.int v :: st)) : Go p l e R s m args below meth c h w Z bs own ml rt pc Ls st :=
  Go.step (fun T X hx hb t q => XT.bipushV X.here hx rfl v (Jvm.hb hb hd) hv q) r
theorem isub (pc : Nat) {x y : Int32} (v : Int32) (hd : decode bs pc = .ok (.isub, 1)) (hv : x - y = v) (r : Go p l e R s m args below meth c h w Z bs own ml rt (pc + 1) Ls (.int v :: st)) : Go p l e R s m args below meth c h w Z bs own ml rt pc Ls (.int y :: .int x :: st) :=
  Go.step (fun T X hx hb t q => XS.isub X.here hx rfl (Jvm.hb hb hd) rfl (hv ▸ q)) r
theorem ishl (pc : Nat) {x y : Int32} (v : Int32) (hd : decode bs pc = .ok (.ishl, 1)) (hv : x <<< (y &&& 31) = v) (r : Go p l e R s m args below meth c h w Z bs own ml rt (pc + 1) Ls (.int v :: st)) : Go p l e R s m args below meth c h w Z bs own ml rt pc Ls (.int y :: .int x :: st) :=
  Go.step (fun T X hx hb t q => XT.ishl X.here hx rfl (Jvm.hb hb hd) rfl (hv ▸ q)) r
theorem ishr (pc : Nat) {x y : Int32} (v : Int32) (hd : decode bs pc = .ok (.ishr, 1)) (hv : x >>> (y &&& 31) = v) (r : Go p l e R s m args below meth c h w Z bs own ml rt (pc + 1) Ls (.int v :: st)) : Go p l e R s m args below meth c h w Z bs own ml rt pc Ls (.int y :: .int x :: st) :=
  Go.step (fun T X hx hb t q => XT.ishr X.here hx rfl (Jvm.hb hb hd) rfl (hv ▸ q)) r
theorem i2d (pc : Nat) {x : Int32} (v : UInt64) (hd : decode bs pc = .ok (.i2d, 1)) (hv : FP.i2d x = v) (r : Go p l e R s m args below meth c h w Z bs own ml rt (pc + 1) Ls (.double v :: st)) : Go p l e R s m args below meth c h w Z bs own ml rt pc Ls (.int x :: st) :=
  Go.step (fun T X hx hb t q => XS.i2dS X.here hx rfl (Jvm.hb hb hd) rfl hv q) r
theorem dconst0 (pc : Nat)  (hd : decode bs pc = .ok (.dconst 0, 1))  (r : Go p l e R s m args below meth c h w Z bs own ml rt (pc + 1) Ls (.double 0 :: st)) : Go p l e R s m args below meth c h w Z bs own ml rt pc Ls st :=
  Go.step (fun T X hx hb t q => XS.dconst0 X.here hx rfl (Jvm.hb hb hd) (by decide +kernel) q) r
theorem dneg (pc : Nat) {x : UInt64} (v : UInt64) (hd : decode bs pc = .ok (.dneg, 1)) (hv : FP.dneg x = v) (r : Go p l e R s m args below meth c h w Z bs own ml rt (pc + 1) Ls (.double v :: st)) : Go p l e R s m args below meth c h w Z bs own ml rt pc Ls (.double x :: st) :=
  Go.step (fun T X hx hb t q => XS.dnegS X.here hx rfl (Jvm.hb hb hd) rfl hv q) r
theorem dcmpLt (pc : Nat) {x y : UInt64} (hd : decode bs pc = .ok (.dcmp .g, 1)) (hv : FP.Core.dcmp x y = some .lt) (r : Go p l e R s m args below meth c h w Z bs own ml rt (pc + 1) Ls (.int (-1) :: st)) : Go p l e R s m args below meth c h w Z bs own ml rt pc Ls (.double y :: .double x :: st) :=
  Go.step (fun T X hx hb t q => XS.dcmpS X.here hx rfl (Jvm.hb hb hd) rfl (by rw [cmpV_g, show FP.dcmp x y = some .lt from hv]; rfl) q) r
theorem dadd (pc : Nat) {x y : UInt64} (v : UInt64) (hd : decode bs pc = .ok (.dadd, 1)) (hn : Jvm.Free.Fl.NoNaN64 v) (hv : FP.dadd x y = v) (r : Go p l e R s m args below meth c h w Z bs own ml rt (pc + 1) Ls (.double v :: st)) : Go p l e R s m args below meth c h w Z bs own ml rt pc Ls (.double y :: .double x :: st) :=
  Go.step (fun T X hx hb t q => XS.daddS X.here hx rfl (Jvm.hb hb hd) rfl (hv.symm ▸ hn) hv q) r
theorem dsub (pc : Nat) {x y : UInt64} (v : UInt64) (hd : decode bs pc = .ok (.dsub, 1)) (hn : Jvm.Free.Fl.NoNaN64 v) (hv : FP.dsub x y = v) (r : Go p l e R s m args below meth c h w Z bs own ml rt (pc + 1) Ls (.double v :: st)) : Go p l e R s m args below meth c h w Z bs own ml rt pc Ls (.double y :: .double x :: st) :=
  Go.step (fun T X hx hb t q => XS.dsubS X.here hx rfl (Jvm.hb hb hd) rfl (hv.symm ▸ hn) hv q) r
theorem dmul (pc : Nat) {x y : UInt64} (v : UInt64) (hd : decode bs pc = .ok (.dmul, 1)) (hn : Jvm.Free.Fl.NoNaN64 v) (hv : FP.dmul x y = v) (r : Go p l e R s m args below meth c h w Z bs own ml rt (pc + 1) Ls (.double v :: st)) : Go p l e R s m args below meth c h w Z bs own ml rt pc Ls (.double y :: .double x :: st) :=
  Go.step (fun T X hx hb t q => XS.dmulS X.here hx rfl (Jvm.hb hb hd) rfl (hv.symm ▸ hn) hv q) r
theorem ddiv (pc : Nat) {x y : UInt64} (v : UInt64) (hd : decode bs pc = .ok (.ddiv, 1)) (hn : Jvm.Free.Fl.NoNaN64 v) (hv : FP.ddiv x y = v) (r : Go p l e R s m args below meth c h w Z bs own ml rt (pc + 1) Ls (.double v :: st)) : Go p l e R s m args below meth c h w Z bs own ml rt pc Ls (.double y :: .double x :: st) :=
  Go.step (fun T X hx hb t q => XS.ddivS X.here hx rfl (Jvm.hb hb hd) rfl (hv.symm ▸ hn) hv q) r
theorem istore (pc : Nat) {k : Nat} {x : Int32} (l' : Array Slot) (hd : decode bs pc = .ok (.istore k, 2)) (hl : storeLocals Ls k (.int x) = some l') (r : Go p l e R s m args below meth c h w Z bs own ml rt (pc + 2) l' st) : Go p l e R s m args below meth c h w Z bs own ml rt pc Ls (.int x :: st) :=
  Go.step (fun T X hx hb t q => XS.istore X.here hx rfl (Jvm.hb hb hd) rfl hl q) r
theorem istoreN (pc : Nat) {k : Fin 4} {x : Int32} (l' : Array Slot) (hd : decode bs pc = .ok (.istore_n k, 1)) (hl : storeLocals Ls k.val (.int x) = some l') (r : Go p l e R s m args below meth c h w Z bs own ml rt (pc + 1) l' st) : Go p l e R s m args below meth c h w Z bs own ml rt pc Ls (.int x :: st) :=
  Go.step (fun T X hx hb t q => XS.istoreN X.here hx rfl (Jvm.hb hb hd) rfl hl q) r
theorem dstore (pc : Nat) {k : Nat} {x : UInt64} (l' : Array Slot) (hd : decode bs pc = .ok (.dstore k, 2)) (hl : storeLocals Ls k (.double x) = some l') (r : Go p l e R s m args below meth c h w Z bs own ml rt (pc + 2) l' st) : Go p l e R s m args below meth c h w Z bs own ml rt pc Ls (.double x :: st) :=
  Go.step (fun T X hx hb t q => XS.dstore X.here hx rfl (Jvm.hb hb hd) rfl hl q) r
theorem dstoreN (pc : Nat) {k : Fin 4} {x : UInt64} (l' : Array Slot) (hd : decode bs pc = .ok (.dstore_n k, 1)) (hl : storeLocals Ls k.val (.double x) = some l') (r : Go p l e R s m args below meth c h w Z bs own ml rt (pc + 1) l' st) : Go p l e R s m args below meth c h w Z bs own ml rt pc Ls (.double x :: st) :=
  Go.step (fun T X hx hb t q => XS.dstoreN X.here hx rfl (Jvm.hb hb hd) rfl hl q) r
theorem iinc (pc : Nat) {k : Nat} {cc : Int} {x : Int32} (v z : Int32) (l' : Array Slot) (hd : decode bs pc = .ok (.iinc k cc, 3)) (hv : Int32.ofInt cc = v) (hl : Ls[k]? = some (.val (.int x))) (hz : x + v = z) (hl' : storeLocals Ls k (.int z) = some l') (r : Go p l e R s m args below meth c h w Z bs own ml rt (pc + 3) l' st) : Go p l e R s m args below meth c h w Z bs own ml rt pc Ls st :=
  Go.step (fun T X hx hb t q => XT.iincV X.here hx rfl v (Jvm.hb hb hd) hv hl (by rw [hz]; exact hl') q) r
theorem goto (pc : Nat) (tgt : Nat) {o : Int} (hd : decode bs pc = .ok (.goto o, 3)) (ht : (pc : Int) + o = (tgt : Int)) (r : Go p l e R s m args below meth c h w Z bs own ml rt tgt Ls st) : Go p l e R s m args below meth c h w Z bs own ml rt pc Ls st :=
  Go.step (fun T X hx hb t q => XS.goto X.here hx rfl (pc0 := pc) (pc' := tgt) rfl (Jvm.hb hb hd) (by rw [ht]; exact Int.natCast_nonneg _) (by rw [ht]; rfl) q) r
theorem ifNo (pc : Nat) {cd : ClassFile.Cond} {o : Int} {x : Int32} (hd : decode bs pc = .ok (.ifCond cd o, 3)) (hc : ifCond.holds cd x = false) (r : Go p l e R s m args below meth c h w Z bs own ml rt (pc + 3) Ls st) : Go p l e R s m args below meth c h w Z bs own ml rt pc Ls (.int x :: st) :=
  Go.step (fun T X hx hb t q => XS.ifNo X.here hx rfl (Jvm.hb hb hd) rfl hc q) r
theorem ifYes (pc : Nat) (tgt : Nat) {cd : ClassFile.Cond} {o : Int} {x : Int32} (hd : decode bs pc = .ok (.ifCond cd o, 3)) (ht : (pc : Int) + o = (tgt : Int)) (hc : ifCond.holds cd x = true) (r : Go p l e R s m args below meth c h w Z bs own ml rt tgt Ls st) : Go p l e R s m args below meth c h w Z bs own ml rt pc Ls (.int x :: st) :=
  Go.step (fun T X hx hb t q => XS.ifYes X.here hx rfl (pc0 := pc) (pc' := tgt) rfl (Jvm.hb hb hd) rfl hc (by rw [ht]; exact Int.natCast_nonneg _) (by rw [ht]; rfl) q) r
theorem icmpLt (pc : Nat) (tgt : Nat) {o : Int} {x y : Int32} (hd : decode bs pc = .ok (.if_icmp .lt o, 3)) (ht : (pc : Int) + o = (tgt : Int)) (yes : x < y → Go p l e R s m args below meth c h w Z bs own ml rt tgt Ls st) (no : ¬ x < y → Go p l e R s m args below meth c h w Z bs own ml rt (pc + 3) Ls st) : Go p l e R s m args below meth c h w Z bs own ml rt pc Ls (.int y :: .int x :: st) := by
  by_cases cc : x < y
  · exact Go.step (fun T X hx hb t q => XS.icmpYes X.here hx rfl (pc0 := pc) (pc' := tgt) rfl (Jvm.hb hb hd) rfl (XT.ii_lt_t cc) (by rw [ht]; exact Int.natCast_nonneg _) (by rw [ht]; rfl) q) (yes cc)
  · exact Go.step (fun T X hx hb t q => XS.icmpNo X.here hx rfl (Jvm.hb hb hd) rfl (XT.ii_lt_f cc) q) (no cc)
theorem ldc2 (pc : Nat) {ix : Nat} {b : UInt64} (hd : decode bs pc = .ok (.ldc2_w ix, 3)) (wd : (Cond.constantDouble own ix b).before a0 Z = true) (r : Go p l e R s m args below meth c h w Z bs own ml rt (pc + 3) Ls (.double b :: st)) : Go p l e R s m args below meth c h w Z bs own ml rt pc Ls st := fun ok T X hT => by
  obtain ⟨t, a, q⟩ := r ok T X hT
  exact ⟨t, X.ldc2DoubleC ok.1 ok.2.2.1 (mv ok.2.2.2.1 wd) (g := mkF m pc Ls st) rfl (Jvm.hb ok.2.1 hd) t a, q⟩
theorem getstatic (pc : Nat) {ix : Nat} {O n d : String} {v : Value} (hd : decode bs pc = .ok (.getstatic ix, 3)) (wd : (Cond.fieldLink own ix O n d).before a0 Z = true) (F : Sta Z h O n d v) (r : Go p l e R s m args below meth c h w Z bs own ml rt (pc + 3) Ls (v :: st)) : Go p l e R s m args below meth c h w Z bs own ml rt pc Ls st := fun ok T X hT => by
  obtain ⟨T', X', hT', k⟩ := getS (host := "") X ok.1 ok.2.2.2.1 ok.2.2.1 wd Via.refl hT F (g := mkF m pc Ls st) rfl (Jvm.hb ok.2.1 hd)
  obtain ⟨t, a, q⟩ := r ok T' X' hT'
  exact ⟨t, k t a, q⟩
theorem arrAt {A : Cell} {a : Addr} {vs : List Value} {T : State} (hZ : Z.Warmed39 s.vm) (X : Stand p l e R s m args below meth c T [] 0 0) (hT : T.heap = h) (F : RoadKit.Arr Z h a A .double) (e1 : A.slots.toList = vs) (e2 : vs.length < 2147483648) : XT.Arr .double a A T :=
  ⟨by rw [hT]; exact F.1, State.isArrayOf_alike X.warmed.alike (State.isArrayOf_alike hZ.alike F.2.1), F.2.2, by rw [← Array.length_toList, e1]; exact e2⟩
theorem alen (pc : Nat) {a : Addr} {vs : List Value} (v : Int32) (hd : decode bs pc = .ok (.arraylength, 1)) (F : Road.Ary Z h a .double vs) (hv : Int32.ofNat vs.length = v) (r : Go p l e R s m args below meth c h w Z bs own ml rt (pc + 1) Ls (.int v :: st)) : Go p l e R s m args below meth c h w Z bs own ml rt pc Ls (.ref a :: st) := fun ok T X hT => by
  obtain ⟨A, F1, e1, e2, -⟩ := F
  obtain ⟨t, b, q⟩ := r ok T X hT
  refine ⟨t, X.alen ok.1 (arrAt ok.2.2.2.1 X hT F1 e1 e2) (g := mkF m pc Ls (.ref a :: st)) rfl rfl (Jvm.hb ok.2.1 hd) ?_, q⟩
  rw [← Array.length_toList, e1, hv]
  exact b
theorem daload (pc : Nat) {a : Addr} {vs : List Value} {j : Int32} (k : Nat) {v : Value} (hd : decode bs pc = .ok (.daload, 1)) (F : Road.Ary Z h a .double vs) (hj : j = Int32.ofNat k) (hv : vs[k]? = some v) (r : Go p l e R s m args below meth c h w Z bs own ml rt (pc + 1) Ls (v :: st)) : Go p l e R s m args below meth c h w Z bs own ml rt pc Ls (.int j :: .ref a :: st) := fun ok T X hT => by
  obtain ⟨A, F1, e1, e2, -⟩ := F
  obtain ⟨t, b, q⟩ := r ok T X hT
  exact ⟨t, X.aget ok.1 (arrAt ok.2.2.2.1 X hT F1 e1 e2) hj (by rw [← Array.getElem?_toList, e1]; exact hv) (g := mkF m pc Ls (.int j :: .ref a :: st)) rfl rfl (Jvm.hb ok.2.1 hd) b, q⟩
theorem ret (pc : Nat) {i : Instr} {ft : FieldType} {v : Value} (hd : decode bs pc = .ok (i, 1)) (hr : rt = some ft) (hn : narrow ft v = v) (hw : w = some v)
    (hi : (i = .ireturn ∧ (ft = .int ∨ ft = .boolean ∨ ft = .byte ∨ ft = .char ∨ ft = .short) ∧ ∃ z, v = .int z) ∨ (i = .lreturn ∧ ft = .long ∧ ∃ z, v = .long z) ∨ (i = .dreturn ∧ ft = .double ∧ ∃ z, v = .double z) ∨ (i = .freturn ∧ ft = .float ∧ ∃ z, v = .float z) ∨ (i = .areturn ∧ ft.isReference = true ∧ v.isRef = true)) : Go p l e R s m args below meth c h w Z bs own ml rt pc Ls (v :: st) := fun ok T X hT => by
  subst hw
  have hrt : meth.sig.returnType = some ft := ok.2.2.2.2.2.1.trans hr
  obtain ⟨fs, hl, h1, h2, h3, h4⟩ := X.leave (v := some v) (fun q => by rw [hrt] at q; cases q) ok.2.2.2.2.2.2
  exact ⟨_, retOut X ok.1 hrt hn hi (Jvm.hb ok.2.1 hd) hl, h1, h2, hT, h3, h4⟩
def rm0 : Room := { frames := 0, cells := 0, slots := 0, locals := 0 }
/-- the contract of a callee that makes and writes nothing: with these arguments over this heap it returns v -/
def Con (l : Launch) (Z : State) (h : Heap) (y : MethodName) (bytes : ByteArray) (mL : Nat) (ret : Option FieldType) (rm : Room) (as' : Array Value) (v : Option Value) : Prop :=
  MetFree l y (head1 [Cond.code y bytes mL ret] rm) (fun a U => a = as' ∧ Z.Warmed39 U.vm ∧ U.heap = h) (fun _ _ _ _ _ => True) (fun _ U o U' => ∃ v' L, o = .returned v' ∧ (v' = v ∧ L = [] ∧ U'.heap = h) ∧ FrameEnd U o U' L rm.cells rm.slots)
theorem callS (pc : Nat) {ix : Nat} {y : MethodName} {bytes : ByteArray} {mL : Nat} {ret : Option FieldType} {argsL : List Value} {v : Option Value} {ps : List FieldType} {rr : Option FieldType} (hd : decode bs pc = .ok (.invokestatic ix, 3)) (hM : Con l Z h y bytes mL ret rm0 argsL.toArray v)
    (w1 : (Cond.methodLink own ix y).before a0 Z = true) (w2 : (Cond.static y).before a0 Z = true) (w3 : (Cond.initialized y.cls).before a0 Z = true) (w4 : (Cond.code y bytes mL ret).before a0 Z = true) (hy : y.cls ≠ "java/lang/invoke/MethodHandle" ∧ y.cls ≠ "java/lang/invoke/VarHandle")
    (hp : parseMethodDescriptor y.desc = some ⟨ps, rr⟩) (hlen : argsL.length = ps.length) (hf : 1 ≤ R.frames) (hl : 8 + (mL + 11) ≤ R.locals) (hsz : Ls.size = ml) (hcat : (st.map fun v => v.category).sum ≤ 8) (r : Go p l e R s m args below meth c h w Z bs own ml rt (pc + 3) Ls (v.toList ++ st)) : Go p l e R s m args below meth c h w Z bs own ml rt pc Ls (argsL.reverse ++ st) := fun ok T X hT => by
  have hK := backOf (p := p) (e := e) (below := below) (args := args) (R := R) (s := s) (len := 3) (W := 8) (Q := fun v' h' L => v' = v ∧ L = [] ∧ h' = h) hM ok.2.2.2.1 w4 w3 (by simpa [rm0] using hf) (by simpa [rm0] using hl)
  obtain ⟨v', vm₁, B, hW, X', ⟨L, ⟨q1, q2, q3⟩, q4, q5, q6⟩, k⟩ := Jvm.LawKit.callS X ok.1 ok.2.2.1 (mv ok.2.2.2.1 w1) (mv ok.2.2.2.1 w2) (mv ok.2.2.2.1 w3) (mv ok.2.2.2.1 w4) hy hK (g := mkF m pc Ls (argsL.reverse ++ st)) rfl (hsz.trans ok.2.2.2.2.1.symm) (lenOf hp hlen) rfl (by show 2 * 0 + _ ≤ _; omega) (Jvm.hb ok.2.1 hd) (fun vm₁ _ => ⟨rfl, hT, Nat.zero_le _, Nat.zero_le _⟩)
  obtain ⟨U, ls, cc, sl⟩ := B
  subst q1 q2
  dsimp only at X' q3 q4 q5 q6 k
  have e4 : ls = [] := q4
  have e5 : cc = 0 := q5
  have e6 : sl = 0 := q6
  subst e4 e5 e6
  obtain ⟨t, a, q⟩ := r ok U X' q3
  exact ⟨t, k t a, q⟩
end N
end Jvm.Nar

namespace Jvm.Pilot.@@N@@
open Jvm Jvm.ClassFile Sem Op Lib Jvm.Free Jvm.Stand Jvm.LawKit Jvm.RoadKit Bundle Jvm.Pilot.@@N@@.Jvm.D Jvm.FPR
theorem dc_0 : decode prog_61_method_2_code 0 = .ok (.ldc2_w 9, 3) := by decide +kernel
theorem dc_3 : decode prog_61_method_2_code 3 = .ok (.dload_n 0, 1) := by decide +kernel
theorem dc_4 : decode prog_61_method_2_code 4 = .ok (.ldc2_w 11, 3) := by decide +kernel
theorem dc_7 : decode prog_61_method_2_code 7 = .ok (.ddiv, 1) := by decide +kernel
theorem dc_8 : decode prog_61_method_2_code 8 = .ok (.dmul, 1) := by decide +kernel
theorem dc_9 : decode prog_61_method_2_code 9 = .ok (.ldc2_w 13, 3) := by decide +kernel
theorem dc_12 : decode prog_61_method_2_code 12 = .ok (.ddiv, 1) := by decide +kernel
theorem dc_13 : decode prog_61_method_2_code 13 = .ok (.dstore_n 2, 1) := by decide +kernel
theorem dc_14 : decode prog_61_method_2_code 14 = .ok (.dconst 0, 1) := by decide +kernel
theorem dc_15 : decode prog_61_method_2_code 15 = .ok (.dstore 4, 2) := by decide +kernel
theorem dc_17 : decode prog_61_method_2_code 17 = .ok (.getstatic 15, 3) := by decide +kernel
theorem dc_20 : decode prog_61_method_2_code 20 = .ok (.arraylength, 1) := by decide +kernel
theorem dc_21 : decode prog_61_method_2_code 21 = .ok (.iconst 1, 1) := by decide +kernel
theorem dc_22 : decode prog_61_method_2_code 22 = .ok (.isub, 1) := by decide +kernel
theorem dc_23 : decode prog_61_method_2_code 23 = .ok (.istore 6, 2) := by decide +kernel
theorem dc_25 : decode prog_61_method_2_code 25 = .ok (.iload 6, 2) := by decide +kernel
theorem dc_27 : decode prog_61_method_2_code 27 = .ok (.ifCond .lt 22, 3) := by decide +kernel
theorem dc_30 : decode prog_61_method_2_code 30 = .ok (.dload 4, 2) := by decide +kernel
theorem dc_32 : decode prog_61_method_2_code 32 = .ok (.dload_n 2, 1) := by decide +kernel
theorem dc_33 : decode prog_61_method_2_code 33 = .ok (.dmul, 1) := by decide +kernel
theorem dc_34 : decode prog_61_method_2_code 34 = .ok (.getstatic 15, 3) := by decide +kernel
theorem dc_37 : decode prog_61_method_2_code 37 = .ok (.iload 6, 2) := by decide +kernel
theorem dc_39 : decode prog_61_method_2_code 39 = .ok (.daload, 1) := by decide +kernel
theorem dc_40 : decode prog_61_method_2_code 40 = .ok (.dadd, 1) := by decide +kernel
theorem dc_41 : decode prog_61_method_2_code 41 = .ok (.dstore 4, 2) := by decide +kernel
theorem dc_43 : decode prog_61_method_2_code 43 = .ok (.iinc 6 (-1), 3) := by decide +kernel
theorem dc_46 : decode prog_61_method_2_code 46 = .ok (.goto (-21), 3) := by decide +kernel
theorem dc_49 : decode prog_61_method_2_code 49 = .ok (.ldc2_w 21, 3) := by decide +kernel
theorem dc_52 : decode prog_61_method_2_code 52 = .ok (.dload 4, 2) := by decide +kernel
theorem dc_54 : decode prog_61_method_2_code 54 = .ok (.dmul, 1) := by decide +kernel
theorem dc_55 : decode prog_61_method_2_code 55 = .ok (.ldc2_w 23, 3) := by decide +kernel
theorem dc_58 : decode prog_61_method_2_code 58 = .ok (.ddiv, 1) := by decide +kernel
theorem dc_59 : decode prog_61_method_2_code 59 = .ok (.dreturn, 1) := by decide +kernel
set_option maxRecDepth 65536 in
set_option maxHeartbeats 40000000 in
theorem cor_walk {p : Program} {l : Launch} {e : Env} {R : Room} {s : State} {m : MethodId} {args : Array Value} {below : List Frame} {meth : Method} {c : Code} {Z : State} {a0 : Array Value} (hw : ∀ d ∈ tables_1, d.before a0 Z = true) (a : Int32) (h1 : -32768 ≤ a.toInt) (h2 : a.toInt ≤ 32767) (ra : Addr) (HR : Sta Z Z.heap "com/example/thinfilm/thinfilm/recalibration/NonlinearityCorrection" "RESPONSE" "[D" (.ref ra)) (AR : Road.Ary Z Z.heap ra .double [.double 13761962255429337310, .double 13815912352546286259, .double 4576568317627439497, .double 4562314460835608896]) : Nar.Go p l e R s m args below meth c Z.heap (some (.double (Bres a))) Z prog_61_method_2_code "com/example/thinfilm/thinfilm/recalibration/NonlinearityCorrection" 7 (some .double) 0 #[.val (.double (Br a)), .second, .unset, .unset, .unset, .unset, .unset] [] := by
  obtain ⟨n_Br, n_Bt1, n_Bt2, n_Bu, n_Bmr3, n_Bar3, n_Bmr2, n_Bar2, n_Bmr1, n_Bar1, n_Bmr0, n_Bar0, n_Bq1, n_Bres, n_Bd1, n_Buu, n_Bm1, n_Bs1, n_Bm2a, n_Bm2, n_Bs2, n_Bm3a, n_Bm3b, n_Bm3, n_Brad, n_Be1, n_Be2, n_Bex, n_Bdf, c_df, c_nf, c_pos⟩ := num a h1 h2
  refine Nar.ldc2 0 dc_0 (hw _ (List.mem_of_getElem? (i := 5) rfl)) ?_
  refine Nar.dloadN 3 dc_3 rfl ?_
  refine Nar.ldc2 4 dc_4 (hw _ (List.mem_of_getElem? (i := 6) rfl)) ?_
  refine Nar.ddiv 7 (Bt1 a) dc_7 n_Bt1 rfl ?_
  refine Nar.dmul 8 (Bt2 a) dc_8 n_Bt2 rfl ?_
  refine Nar.ldc2 9 dc_9 (hw _ (List.mem_of_getElem? (i := 7) rfl)) ?_
  refine Nar.ddiv 12 (Bu a) dc_12 n_Bu rfl ?_
  refine Nar.dstoreN 13 #[.val (.double (Br a)), .second, .val (.double (Bu a)), .second, .unset, .unset, .unset] dc_13 rfl ?_
  refine Nar.dconst0 14 dc_14 ?_
  refine Nar.dstore 15 #[.val (.double (Br a)), .second, .val (.double (Bu a)), .second, .val (.double 0), .second, .unset] dc_15 rfl ?_
  refine Nar.getstatic 17 dc_17 (hw _ (List.mem_of_getElem? (i := 8) rfl)) HR ?_
  refine Nar.alen 20 4 dc_20 AR (by decide) ?_
  refine Nar.iconst 21 1 dc_21 rfl ?_
  refine Nar.isub 22 3 dc_22 (by decide) ?_
  refine Nar.istore 23 #[.val (.double (Br a)), .second, .val (.double (Bu a)), .second, .val (.double 0), .second, .val (.int 3)] dc_23 rfl ?_
  refine Nar.iload 25 dc_25 rfl ?_
  refine Nar.ifNo 27 dc_27 (by decide) ?_
  refine Nar.dload 30 dc_30 rfl ?_
  refine Nar.dloadN 32 dc_32 rfl ?_
  refine Nar.dmul 33 (Bmr3 a) dc_33 n_Bmr3 rfl ?_
  refine Nar.getstatic 34 dc_34 (hw _ (List.mem_of_getElem? (i := 8) rfl)) HR ?_
  refine Nar.iload 37 dc_37 rfl ?_
  refine Nar.daload 39 3 dc_39 AR (by decide) rfl ?_
  refine Nar.dadd 40 (Bar3 a) dc_40 n_Bar3 rfl ?_
  refine Nar.dstore 41 #[.val (.double (Br a)), .second, .val (.double (Bu a)), .second, .val (.double (Bar3 a)), .second, .val (.int 3)] dc_41 rfl ?_
  refine Nar.iinc 43 (-1) 2 #[.val (.double (Br a)), .second, .val (.double (Bu a)), .second, .val (.double (Bar3 a)), .second, .val (.int 2)] dc_43 rfl rfl (by decide) rfl ?_
  refine Nar.goto 46 25 dc_46 (by decide) ?_
  refine Nar.iload 25 dc_25 rfl ?_
  refine Nar.ifNo 27 dc_27 (by decide) ?_
  refine Nar.dload 30 dc_30 rfl ?_
  refine Nar.dloadN 32 dc_32 rfl ?_
  refine Nar.dmul 33 (Bmr2 a) dc_33 n_Bmr2 rfl ?_
  refine Nar.getstatic 34 dc_34 (hw _ (List.mem_of_getElem? (i := 8) rfl)) HR ?_
  refine Nar.iload 37 dc_37 rfl ?_
  refine Nar.daload 39 2 dc_39 AR (by decide) rfl ?_
  refine Nar.dadd 40 (Bar2 a) dc_40 n_Bar2 rfl ?_
  refine Nar.dstore 41 #[.val (.double (Br a)), .second, .val (.double (Bu a)), .second, .val (.double (Bar2 a)), .second, .val (.int 2)] dc_41 rfl ?_
  refine Nar.iinc 43 (-1) 1 #[.val (.double (Br a)), .second, .val (.double (Bu a)), .second, .val (.double (Bar2 a)), .second, .val (.int 1)] dc_43 rfl rfl (by decide) rfl ?_
  refine Nar.goto 46 25 dc_46 (by decide) ?_
  refine Nar.iload 25 dc_25 rfl ?_
  refine Nar.ifNo 27 dc_27 (by decide) ?_
  refine Nar.dload 30 dc_30 rfl ?_
  refine Nar.dloadN 32 dc_32 rfl ?_
  refine Nar.dmul 33 (Bmr1 a) dc_33 n_Bmr1 rfl ?_
  refine Nar.getstatic 34 dc_34 (hw _ (List.mem_of_getElem? (i := 8) rfl)) HR ?_
  refine Nar.iload 37 dc_37 rfl ?_
  refine Nar.daload 39 1 dc_39 AR (by decide) rfl ?_
  refine Nar.dadd 40 (Bar1 a) dc_40 n_Bar1 rfl ?_
  refine Nar.dstore 41 #[.val (.double (Br a)), .second, .val (.double (Bu a)), .second, .val (.double (Bar1 a)), .second, .val (.int 1)] dc_41 rfl ?_
  refine Nar.iinc 43 (-1) 0 #[.val (.double (Br a)), .second, .val (.double (Bu a)), .second, .val (.double (Bar1 a)), .second, .val (.int 0)] dc_43 rfl rfl (by decide) rfl ?_
  refine Nar.goto 46 25 dc_46 (by decide) ?_
  refine Nar.iload 25 dc_25 rfl ?_
  refine Nar.ifNo 27 dc_27 (by decide) ?_
  refine Nar.dload 30 dc_30 rfl ?_
  refine Nar.dloadN 32 dc_32 rfl ?_
  refine Nar.dmul 33 (Bmr0 a) dc_33 n_Bmr0 rfl ?_
  refine Nar.getstatic 34 dc_34 (hw _ (List.mem_of_getElem? (i := 8) rfl)) HR ?_
  refine Nar.iload 37 dc_37 rfl ?_
  refine Nar.daload 39 0 dc_39 AR (by decide) rfl ?_
  refine Nar.dadd 40 (Bar0 a) dc_40 n_Bar0 rfl ?_
  refine Nar.dstore 41 #[.val (.double (Br a)), .second, .val (.double (Bu a)), .second, .val (.double (Bar0 a)), .second, .val (.int 0)] dc_41 rfl ?_
  refine Nar.iinc 43 (-1) (-1) #[.val (.double (Br a)), .second, .val (.double (Bu a)), .second, .val (.double (Bar0 a)), .second, .val (.int (-1))] dc_43 rfl rfl (by decide) rfl ?_
  refine Nar.goto 46 25 dc_46 (by decide) ?_
  refine Nar.iload 25 dc_25 rfl ?_
  refine Nar.ifYes 27 49 dc_27 (by decide) (by decide) ?_
  refine Nar.ldc2 49 dc_49 (hw _ (List.mem_of_getElem? (i := 10) rfl)) ?_
  refine Nar.dload 52 dc_52 rfl ?_
  refine Nar.dmul 54 (Bq1 a) dc_54 n_Bq1 rfl ?_
  refine Nar.ldc2 55 dc_55 (hw _ (List.mem_of_getElem? (i := 11) rfl)) ?_
  refine Nar.ddiv 58 (Bres a) dc_58 n_Bres rfl ?_
  exact Nar.ret 59 dc_59 rfl rfl rfl (by simp)
theorem pn_1 : plainName "com/example/thinfilm/thinfilm/recalibration/NonlinearityCorrection" = true := by first | (simp [plainName, overriddenIn]; done) | decide +kernel
theorem pn_0 : plainName "com/example/thinfilm/thinfilm/recalibration/NonlinearityCorrectionCorrectedPinLaw" = true := by first | (simp [plainName, overriddenIn]; done) | decide +kernel
theorem ef_1 (m : MethodId) (x0 : UInt64) : entryFrame m #[(.double x0)] 7 = mkF m 0 #[.val (.double x0), .second, .unset, .unset, .unset, .unset, .unset] [] := by first | (simp [entryFrame, mkF, argsToLocals, Value.category]; done) | rfl
theorem ef_0 (m : MethodId) (x0 : Int32) : entryFrame m #[(.int x0)] maxLocals = mkF m 0 #[.val (.int x0), .unset, .unset, .unset, .unset, .unset, .unset, .unset, .unset, .unset, .unset, .unset, .unset, .unset, .unset, .unset] [] := by first | (simp [entryFrame, mkF, argsToLocals, Value.category, maxLocals]; done) | rfl
set_option maxRecDepth 65536 in
set_option maxHeartbeats 40000000 in
theorem cor_con (l : Launch) {Z : State} {a0 : Array Value} (hw : ∀ d ∈ tables_1, d.before a0 Z = true) (a : Int32) (h1 : -32768 ≤ a.toInt) (h2 : a.toInt ≤ 32767) (ra : Addr) (HR : Sta Z Z.heap "com/example/thinfilm/thinfilm/recalibration/NonlinearityCorrection" "RESPONSE" "[D" (.ref ra)) (AR : Road.Ary Z Z.heap ra .double [.double 13761962255429337310, .double 13815912352546286259, .double 4576568317627439497, .double 4562314460835608896]) : Nar.Con l Z Z.heap (⟨"com/example/thinfilm/thinfilm/recalibration/NonlinearityCorrection", "corrected", "(D)D"⟩ : MethodName) prog_61_method_2_code 7 (some .double) Nar.rm0 #[.double (Br a)] (some (.double (Bres a))) := by
  refine MetFree.of_bodySF (plainFor_of_name pn_1) hisR ?_
  intro p e s m args below meth c s₁ Bd hml0 hP hK
  obtain ⟨rfl, hZ, hh⟩ := hP
  have hown : s.vm.findClass "com/example/thinfilm/thinfilm/recalibration/NonlinearityCorrection" = some m.cls := findClass_of_methodNamed Bd.named
  have X0 : Stand p l e _ s m #[.double (Br a)] below meth c s₁ [] 0 0 := Stand.of_body Bd
  have e0 : s₁.heap = Z.heap := by rw [← hh, Bd.state]; rfl
  have hlk : meth.locks = false := by first | assumption | exact BodyLoose.notSynchronized (by assumption) | exact Body.notSynchronized (by assumption)
  obtain ⟨t, st, q1, q2, q3, q4, q5⟩ := cor_walk hw a h1 h2 ra HR AR ⟨Bd.exec, Bd.bytes, hown, hZ, hml0, Bd.returns, hlk⟩ s₁ X0 e0
  exact ⟨t, _, castTop (ef_1 m (Br a)) st, q1, q2, _, [], rfl, ⟨rfl, rfl, q3⟩, ⟨_, rfl⟩, q4, q5⟩
set_option maxRecDepth 65536 in
set_option maxHeartbeats 40000000 in
theorem law_138 {p : Program} {l : Launch} {e : Env} {R : Room} {s : State} {m : MethodId} {args : Array Value} {below : List Frame} {meth : Method} {c : Code} {Z : State} {a0 : Array Value} (hw : ∀ d ∈ tables_1, d.before a0 Z = true) (a x0 : Int32) : Nar.Go p l e R s m args below meth c Z.heap (some (.int 1)) Z code "com/example/thinfilm/thinfilm/recalibration/NonlinearityCorrectionCorrectedPinLaw" maxLocals ret 138 #[.val (.int x0), .val (.int a), .val (.double (Br a)), .second, .val (.double (Bres a)), .second, .val (.double (Buu a)), .second, .val (.double (Brad a)), .second, .val (.double (Bex a)), .second, .val (.double (Bdf a)), .second, .val (.int 1), .unset] [] := by
  refine Nar.iconst 138 1 at_138 rfl ?_
  refine Nar.goto 139 143 at_139 (by decide) ?_
  refine Nar.istore 143 #[.val (.int x0), .val (.int a), .val (.double (Br a)), .second, .val (.double (Bres a)), .second, .val (.double (Buu a)), .second, .val (.double (Brad a)), .second, .val (.double (Bex a)), .second, .val (.double (Bdf a)), .second, .val (.int 1), .val (.int 1)] at_143 rfl ?_
  refine Nar.iload 145 at_145 rfl ?_
  refine Nar.ifNo 147 at_147 (by decide) ?_
  refine Nar.iload 150 at_150 rfl ?_
  refine Nar.ifNo 152 at_152 (by decide) ?_
  refine Nar.iconst 155 1 at_155 rfl ?_
  refine Nar.goto 156 160 at_156 (by decide) ?_
  exact Nar.ret 160 at_160 rfl (by decide) rfl (by simp)
set_option maxRecDepth 65536 in
set_option maxHeartbeats 40000000 in
theorem law_7 {p : Program} {l : Launch} {e : Env} {s : State} {m : MethodId} {args : Array Value} {below : List Frame} {meth : Method} {c : Code} {Z : State} {a0 : Array Value} (hw : ∀ d ∈ tables_1, d.before a0 Z = true) (a x0 : Int32) (h1 : -32768 ≤ a.toInt) (h2 : a.toInt ≤ 32767) (ra : Addr) (HR : Sta Z Z.heap "com/example/thinfilm/thinfilm/recalibration/NonlinearityCorrection" "RESPONSE" "[D" (.ref ra)) (AR : Road.Ary Z Z.heap ra .double [.double 13761962255429337310, .double 13815912352546286259, .double 4576568317627439497, .double 4562314460835608896]) : Nar.Go p l e room_1 s m args below meth c Z.heap (some (.int 1)) Z code "com/example/thinfilm/thinfilm/recalibration/NonlinearityCorrectionCorrectedPinLaw" maxLocals ret 7 #[.val (.int x0), .unset, .unset, .unset, .unset, .unset, .unset, .unset, .unset, .unset, .unset, .unset, .unset, .unset, .unset, .unset] [.int a] := by
  obtain ⟨n_Br, n_Bt1, n_Bt2, n_Bu, n_Bmr3, n_Bar3, n_Bmr2, n_Bar2, n_Bmr1, n_Bar1, n_Bmr0, n_Bar0, n_Bq1, n_Bres, n_Bd1, n_Buu, n_Bm1, n_Bs1, n_Bm2a, n_Bm2, n_Bs2, n_Bm3a, n_Bm3b, n_Bm3, n_Brad, n_Be1, n_Be2, n_Bex, n_Bdf, c_df, c_nf, c_pos⟩ := num a h1 h2
  refine Nar.istoreN 7 #[.val (.int x0), .val (.int a), .unset, .unset, .unset, .unset, .unset, .unset, .unset, .unset, .unset, .unset, .unset, .unset, .unset, .unset] at_7 rfl ?_
  refine Nar.iloadN 8 at_8 rfl ?_
  refine Nar.i2d 9 (Bc a) at_9 rfl ?_
  refine Nar.ldc2 10 at_10 (hw _ (List.mem_of_getElem? (i := 0) rfl)) ?_
  refine Nar.ddiv 13 (Br a) at_13 n_Br rfl ?_
  refine Nar.dstoreN 14 #[.val (.int x0), .val (.int a), .val (.double (Br a)), .second, .unset, .unset, .unset, .unset, .unset, .unset, .unset, .unset, .unset, .unset, .unset, .unset] at_14 rfl ?_
  refine Nar.dloadN 15 at_15 rfl ?_
  refine Nar.callS 16 (argsL := [.double (Br a)]) (st := []) (v := some (.double (Bres a))) at_16 (cor_con l hw a h1 h2 ra HR AR) (hw _ (List.mem_of_getElem? (i := 1) rfl)) (hw _ (List.mem_of_getElem? (i := 2) rfl)) (hw _ (List.mem_of_getElem? (i := 3) rfl)) (hw _ (List.mem_of_getElem? (i := 4) rfl)) (by decide) (ps := [.double]) (rr := some .double) (by decide +kernel) rfl (by decide) (by decide) rfl (by decide) ?_
  refine Nar.dstore 19 #[.val (.int x0), .val (.int a), .val (.double (Br a)), .second, .val (.double (Bres a)), .second, .unset, .unset, .unset, .unset, .unset, .unset, .unset, .unset, .unset, .unset] at_19 rfl ?_
  refine Nar.ldc2 21 at_21 (hw _ (List.mem_of_getElem? (i := 12) rfl)) ?_
  refine Nar.iloadN 24 at_24 rfl ?_
  refine Nar.i2d 25 (Bc a) at_25 rfl ?_
  refine Nar.ldc2 26 at_26 (hw _ (List.mem_of_getElem? (i := 13) rfl)) ?_
  refine Nar.ddiv 29 (Bd1 a) at_29 n_Bd1 rfl ?_
  refine Nar.dmul 30 (Buu a) at_30 n_Buu rfl ?_
  refine Nar.dstore 31 #[.val (.int x0), .val (.int a), .val (.double (Br a)), .second, .val (.double (Bres a)), .second, .val (.double (Buu a)), .second, .unset, .unset, .unset, .unset, .unset, .unset, .unset, .unset] at_31 rfl ?_
  refine Nar.ldc2 33 at_33 (hw _ (List.mem_of_getElem? (i := 14) rfl)) ?_
  refine Nar.ldc2 36 at_36 (hw _ (List.mem_of_getElem? (i := 15) rfl)) ?_
  refine Nar.dload 39 at_39 rfl ?_
  refine Nar.dmul 41 (Bm1 a) at_41 n_Bm1 rfl ?_
  refine Nar.dadd 42 (Bs1 a) at_42 n_Bs1 rfl ?_
  refine Nar.ldc2 43 at_43 (hw _ (List.mem_of_getElem? (i := 16) rfl)) ?_
  refine Nar.dload 46 at_46 rfl ?_
  refine Nar.dmul 48 (Bm2a a) at_48 n_Bm2a rfl ?_
  refine Nar.dload 49 at_49 rfl ?_
  refine Nar.dmul 51 (Bm2 a) at_51 n_Bm2 rfl ?_
  refine Nar.dadd 52 (Bs2 a) at_52 n_Bs2 rfl ?_
  refine Nar.ldc2 53 at_53 (hw _ (List.mem_of_getElem? (i := 17) rfl)) ?_
  refine Nar.dload 56 at_56 rfl ?_
  refine Nar.dmul 58 (Bm3a a) at_58 n_Bm3a rfl ?_
  refine Nar.dload 59 at_59 rfl ?_
  refine Nar.dmul 61 (Bm3b a) at_61 n_Bm3b rfl ?_
  refine Nar.dload 62 at_62 rfl ?_
  refine Nar.dmul 64 (Bm3 a) at_64 n_Bm3 rfl ?_
  refine Nar.dsub 65 (Brad a) at_65 n_Brad rfl ?_
  refine Nar.dstore 66 #[.val (.int x0), .val (.int a), .val (.double (Br a)), .second, .val (.double (Bres a)), .second, .val (.double (Buu a)), .second, .val (.double (Brad a)), .second, .unset, .unset, .unset, .unset, .unset, .unset] at_66 rfl ?_
  refine Nar.dload 68 at_68 rfl ?_
  refine Nar.ldc2 70 at_70 (hw _ (List.mem_of_getElem? (i := 0) rfl)) ?_
  refine Nar.dmul 73 (Be1 a) at_73 n_Be1 rfl ?_
  refine Nar.ldc2 74 at_74 (hw _ (List.mem_of_getElem? (i := 18) rfl)) ?_
  refine Nar.dmul 77 (Be2 a) at_77 n_Be2 rfl ?_
  refine Nar.ldc2 78 at_78 (hw _ (List.mem_of_getElem? (i := 19) rfl)) ?_
  refine Nar.ddiv 81 (Bex a) at_81 n_Bex rfl ?_
  refine Nar.dstore 82 #[.val (.int x0), .val (.int a), .val (.double (Br a)), .second, .val (.double (Bres a)), .second, .val (.double (Buu a)), .second, .val (.double (Brad a)), .second, .val (.double (Bex a)), .second, .unset, .unset, .unset, .unset] at_82 rfl ?_
  refine Nar.dload 84 at_84 rfl ?_
  refine Nar.dload 86 at_86 rfl ?_
  refine Nar.dsub 88 (Bdf a) at_88 n_Bdf rfl ?_
  refine Nar.dstore 89 #[.val (.int x0), .val (.int a), .val (.double (Br a)), .second, .val (.double (Bres a)), .second, .val (.double (Buu a)), .second, .val (.double (Brad a)), .second, .val (.double (Bex a)), .second, .val (.double (Bdf a)), .second, .unset, .unset] at_89 rfl ?_
  refine Nar.dload 91 at_91 rfl ?_
  refine Nar.ldc2 93 at_93 (hw _ (List.mem_of_getElem? (i := 20) rfl)) ?_
  refine Nar.dcmpLt 96 at_96 c_df ?_
  refine Nar.ifNo 97 at_97 (by decide) ?_
  refine Nar.dload 100 at_100 rfl ?_
  refine Nar.dneg 102 (FP.dneg (Bdf a)) at_102 rfl ?_
  refine Nar.ldc2 103 at_103 (hw _ (List.mem_of_getElem? (i := 20) rfl)) ?_
  refine Nar.dcmpLt 106 at_106 c_nf ?_
  refine Nar.ifNo 107 at_107 (by decide) ?_
  refine Nar.iconst 110 1 at_110 rfl ?_
  refine Nar.goto 111 115 at_111 (by decide) ?_
  refine Nar.istore 115 #[.val (.int x0), .val (.int a), .val (.double (Br a)), .second, .val (.double (Bres a)), .second, .val (.double (Buu a)), .second, .val (.double (Brad a)), .second, .val (.double (Bex a)), .second, .val (.double (Bdf a)), .second, .val (.int 1), .unset] at_115 rfl ?_
  refine Nar.iloadN 117 at_117 rfl ?_
  refine Nar.iconst 118 1 at_118 rfl ?_
  refine Nar.icmpLt 119 138 at_119 (by decide) (fun hc => law_138 hw a x0) (fun hc => ?_)
  obtain ⟨c_lo, c_hi⟩ := c_pos (by rw [Int32.lt_iff_toInt_lt] at hc; simp only [Int32.reduceToInt] at hc; omega)
  refine Nar.dconst0 122 at_122 ?_
  refine Nar.dload 123 at_123 rfl ?_
  refine Nar.dcmpLt 125 at_125 c_lo ?_
  refine Nar.ifNo 126 at_126 (by decide) ?_
  refine Nar.dload 129 at_129 rfl ?_
  refine Nar.ldc2 131 at_131 (hw _ (List.mem_of_getElem? (i := 21) rfl)) ?_
  refine Nar.dcmpLt 134 at_134 c_hi ?_
  refine Nar.ifNo 135 at_135 (by decide) ?_
  exact law_138 hw a x0
theorem cnt (x : Int32) : -32768 ≤ ((x <<< ((16 : Int32) &&& 31)) >>> ((16 : Int32) &&& 31)).toInt ∧ ((x <<< ((16 : Int32) &&& 31)) >>> ((16 : Int32) &&& 31)).toInt ≤ 32767 := by
  have e : ((16 : Int32) &&& 31) = 16 := by decide
  rw [e]
  generalize x <<< (16 : Int32) = y
  have h : (y >>> (16 : Int32)).toInt = y.toInt / 65536 := by
    rw [← Int32.toInt_toBitVec, Int32.toBitVec_shiftRight, BitVec.toInt_sshiftRight']
    simp [Int.shiftRight_eq_div_pow]
  have h1 := Int32.le_toInt y
  have h2 := Int32.toInt_lt y
  omega
set_option maxRecDepth 65536 in
set_option maxHeartbeats 40000000 in
theorem law_con (l : Launch) {Z : State} {a0 : Array Value} (hw : ∀ d ∈ tables_1, d.before a0 Z = true) (x0 : Int32) (ra : Addr) (HR : Sta Z Z.heap "com/example/thinfilm/thinfilm/recalibration/NonlinearityCorrection" "RESPONSE" "[D" (.ref ra)) (AR : Road.Ary Z Z.heap ra .double [.double 13761962255429337310, .double 13815912352546286259, .double 4576568317627439497, .double 4562314460835608896]) : MetFree l x (head1 (Jvm.Cond.code x code maxLocals ret :: tables_1) room_1) (fun a U => a = #[.int x0] ∧ Z.Warmed39 U.vm ∧ U.heap = Z.heap) (fun _ _ _ _ _ => True) (fun _ U o U' => ∃ v' L, o = .returned v' ∧ (v' = some (.int 1) ∧ L = [] ∧ U'.heap = Z.heap) ∧ FrameEnd U o U' L room_1.cells room_1.slots) := by
  have wk : ∀ {p : Program} {e : Env} {s : State} {m : MethodId} {args : Array Value} {below : List Frame} {meth : Method} {c : Code}, Nar.Go p l e room_1 s m args below meth c Z.heap (some (.int 1)) Z code "com/example/thinfilm/thinfilm/recalibration/NonlinearityCorrectionCorrectedPinLaw" maxLocals ret 0 #[.val (.int x0), .unset, .unset, .unset, .unset, .unset, .unset, .unset, .unset, .unset, .unset, .unset, .unset, .unset, .unset, .unset] [] := by
    intro p e s m args below meth c
    obtain ⟨h1, h2⟩ := cnt x0
    refine Nar.iloadN 0 at_0 rfl ?_
    refine Nar.bipush 1 16 at_1 rfl ?_
    refine Nar.ishl 3 _ at_3 rfl ?_
    refine Nar.bipush 4 16 at_4 rfl ?_
    refine Nar.ishr 6 _ at_6 rfl ?_
    exact law_7 hw _ x0 h1 h2 ra HR AR
  refine MetFree.of_bodySF (plainFor_of_name pn_0) hisR ?_
  intro p e s m args below meth c s₁ Bd hml0 hP hK
  obtain ⟨rfl, hZ, hh⟩ := hP
  have hown : s.vm.findClass "com/example/thinfilm/thinfilm/recalibration/NonlinearityCorrectionCorrectedPinLaw" = some m.cls := findClass_of_methodNamed Bd.named
  have X0 : Stand p l e _ s m #[.int x0] below meth c s₁ [] 0 0 := Stand.of_body Bd
  have e0 : s₁.heap = Z.heap := by rw [← hh, Bd.state]; rfl
  have hlk : meth.locks = false := by first | assumption | exact BodyLoose.notSynchronized (by assumption) | exact Body.notSynchronized (by assumption)
  obtain ⟨t, st, q1, q2, q3, q4, q5⟩ := wk ⟨Bd.exec, Bd.bytes, hown, hZ, hml0, Bd.returns, hlk⟩ s₁ X0 e0
  exact ⟨t, _, castTop (ef_0 m x0) st, q1, q2, _, [], rfl, ⟨rfl, rfl, q3⟩, ⟨_, rfl⟩, q4, q5⟩
theorem dbl_of {t : Term} {args : Array Value} {Z : State} {n : Int64} {b : UInt64} (hb : n.toUInt64 = b) (h : (Jvm.Cond.eq t (Jvm.Term.op1 Jvm.Unary.bitsD (Jvm.Term.long n))).value args Z none Z [] = some true) : t.eval args Z none [] Z = some (.double b) := by
  obtain ⟨y, q1, q2⟩ := Jvm.Cond.eq_one (first := Z) (o := none) (s := Z) (idx := []) (args := args) (a := t) (b := Jvm.Term.op1 Jvm.Unary.bitsD (Jvm.Term.long n)) (by simp [Jvm.Cond.holds, h])
  have e : (Jvm.Term.op1 Jvm.Unary.bitsD (Jvm.Term.long n)).eval args Z none [] Z = some (.double n.toUInt64) := rfl
  rw [q1, ← q2, e, hb]
set_option maxHeartbeats 40000000 in
theorem comes_1 {Post : Tables → Env → Array Value → State → Outcome → State → Prop} (hpost : ∀ tb e args s v u, (limb_1_1.after args s (.returned v) u = true ∧ limb_1_2.after args s (.returned v) u = true ∧ True) → FrameEnd s (.returned v) u (Jvm.fieldLocs frame_1_writes args s ++ Jvm.arrayLocs frame_1_arrays args s ++ Jvm.staticLocs frame_1_statics s) 0 0 → Post tb e args s (.returned v) u) :
    ArmFor flags0 classFile x code maxLocals ret World_1 tables_1 room_1 Calls_1 rest_1 Pre_1 Post := by
  intro l hfl _ _ p e ha hc hk s m args below hf hA hF happ hP
  obtain ⟨hcalls, hrest, hpre⟩ := hP
  obtain ⟨-, -, -, hnamed, -, -, -, hat⟩ := (Spec.applies_iff hf).mp happ
  obtain ⟨hg, hn⟩ := and_e (Cond.before_iff.mp (show (Jvm.Cond.and given_1 narrow_1).before args s = true from hpre))
  obtain ⟨g7, g8⟩ := and_e hg
  obtain ⟨w0, rfl⟩ : ∃ w0 : Value, args = #[w0] := by
    have hs : args.size = 1 := by simpa [Cond.value, given_1] using g7
    obtain ⟨L⟩ := args
    match L, hs with
    | [w0], _ => exact ⟨w0, rfl⟩
  have hw := fun d (hd : d ∈ tables_1) => atoms_spec (ws := Jvm.Cond.code x code maxLocals ret :: tables_1) hat d (List.mem_cons_of_mem _ hd)
  obtain ⟨i0, ei0⟩ := is_v g8
  obtain rfl : w0 = (.int i0) := Option.some.inj ei0
  obtain ⟨n1, m1⟩ := and_e hn
  obtain ⟨n2, m2⟩ := and_e m1
  obtain ⟨n3, m3⟩ := and_e m2
  obtain ⟨n4, m4⟩ := and_e m3
  obtain ⟨n5, n6⟩ := and_e m4
  obtain ⟨ra, era⟩ := arr_v n1
  have HR := Sta.start era (Or.inr ⟨(hw _ (List.mem_of_getElem? (i := 3) rfl)), (hw _ (List.mem_of_getElem? (i := 9) rfl))⟩)
  have AR : Road.Ary s s.heap ra .double [.double 13761962255429337310, .double 13815912352546286259, .double 4576568317627439497, .double 4562314460835608896] := Road.Ary.start era n1 n2 rfl (fun i hi => match i, hi with | 0, _ => ⟨0, rfl, dbl_of (by decide) n6⟩ | 1, _ => ⟨1, rfl, dbl_of (by decide) n5⟩ | 2, _ => ⟨2, rfl, dbl_of (by decide) n4⟩ | 3, _ => ⟨3, rfl, dbl_of (by decide) n3⟩) (by intro v hv; simp only [List.mem_cons, List.not_mem_nil, or_false] at hv; rcases hv with rfl | rfl | rfl | rfl <;> rfl)
  obtain ⟨n, o, k1, k2, k3, _, L, rfl, ⟨rfl, rfl, -⟩, hq⟩ := law_con l hw i0 ra HR AR p e ha hc hk s m _ below hf ((Spec.applies_iff_loose hf).mp happ).1 ⟨rfl, State.Warmed39.refl s, rfl⟩ trivial
  exact ⟨n, _, k1, k2, k3, hpost _ _ _ _ _ _ ⟨Cond.after_iff.mpr rfl, Cond.after_iff.mpr (eq_i res_at (Term.int_eval (1)) rfl), trivial⟩ hq⟩
theorem main_1_1 : Claimed_1_1 := comes_1 fun _ _ _ _ _ _ h hF => ⟨h.1, hF⟩
theorem main_1_2 : Claimed_1_2 := comes_1 fun _ _ _ _ _ _ h hF => ⟨h.2.1, hF⟩
end Jvm.Pilot.@@N@@
namespace Jvm.Pilot.@@N@@
open Jvm Jvm.ClassFile Sem Op Lib Jvm.Free Jvm.Stand Jvm.Pilot.@@N@@.Jvm.D
/-! MADE BY PROGRAM (witnessworld.py) out of the Statement's table words and the real class files: 11 classes; the members and pool entries that the words name. The judged class is class 1, her method 1. -/
namespace start1
open Jvm.ClassFile
def u (s : String) : CpInfo := .utf8 (stringToUtf16 s)
/-- a pool by its gaps: so many unusable entries, then the entry; so many at the end -/
def gap : Nat → List CpInfo → List CpInfo
  | 0, r => r
  | n + 1, r => .unusable :: gap n r
def poolList (es : List (Nat × CpInfo)) (last : Nat) : List CpInfo := es.foldr (fun e r => gap e.1 (e.2 :: r)) (gap last [])
def pool (es : List (Nat × CpInfo)) (last : Nat) : Array CpInfo := ⟨poolList es last⟩
def fileOf (pool : Array CpInfo) (this : Nat) (attrs : Array Attribute := #[]) (ms : Array MethodInfo := #[]) (fl : Nat := 33) (sup : Nat := 0) (ifs : Array Nat := #[]) (fds : Array FieldInfo := #[]) : ClassFile where
  minorVersion := 0
  majorVersion := 65
  constantPool := pool
  accessFlags := fl
  thisClass := this
  superClass := sup
  interfaces := ifs
  fields := fds
  methods := ms
  attributes := attrs
def plain (name : String) (sup : Option ClassId) : Class where
  name := name
  kind := .ordinary
  loader := none
  accessFlags := 33
  super := sup
  interfaces := #[]
  cf := none
  fields := #[]
  methods := #[]
  instanceTypes := #[]
  staticTypes := #[]
  resolved := #[]
  callSites := []
  init := .initialized
  statics := none
  mirror := none

def pool0 : Array CpInfo := pool [(5, u "<init>"), (0, u "()V"), (1, .class_ 10), (1, u "java/lang/Object")] 113

def k0m0 : Method := { name := "<init>", desc := "()V", sig := { parameters := [], returnType := none }, accessFlags := 1, code := none }
/-- java/lang/Object -/
def k0 : Class := { plain "java/lang/Object" none with
  accessFlags := 33
  interfaces := #[]
  cf := some (fileOf pool0 8 #[] #[{ accessFlags := 1, nameIndex := 5, descriptorIndex := 6, attributes := #[] }] 33 0 #[] #[])
  fields := #[]
  methods := #[k0m0]
  instanceTypes := #[]
  staticTypes := #[]
  resolved := Array.replicate 124 none
  statics := none }

def pool1 : Array CpInfo := pool [(2, .class_ 4), (1, u "java/lang/Object"), (0, u "<init>"), (0, u "()V"), (0, .double 4636737291354636288), (1, .methodref 10 11), (0, .class_ 12), (0, .nameAndType 13 14), (0, u "com/example/thinfilm/thinfilm/recalibration/NonlinearityCorrection"), (0, u "corrected"), (0, u "(D)D"), (0, .double 4616471093031469056), (1, .double 4666723172467343360), (1, .double 13761962255429337310), (1, .double 4592540315691510451), (1, .double 4576568317627439497), (1, .double 4562314460835608896), (1, .double 4614256656552045848), (1, .double 4609672909393953292), (1, .double 4472406533629990549), (1, .double 4641466070963375309), (1, .class_ 36), (0, u "com/example/thinfilm/thinfilm/recalibration/NonlinearityCorrectionCorrectedPinLaw"), (2, u "law"), (0, u "(I)Z")] 3

def k1m0 : Method := { name := "<init>", desc := "()V", sig := { parameters := [], returnType := none }, accessFlags := 2, code := none }
def k1c1 : Code := { maxStack := 6, maxLocals := 16, code := code, exceptionTable := #[], attributes := #[] }
def k1m1 : Method := { name := "law", desc := "(I)Z", sig := { parameters := [.int], returnType := some .boolean }, accessFlags := 9, code := some k1c1 }
/-- com/example/thinfilm/thinfilm/recalibration/NonlinearityCorrectionCorrectedPinLaw -/
def k1 : Class := { plain "com/example/thinfilm/thinfilm/recalibration/NonlinearityCorrectionCorrectedPinLaw" (some 0) with
  accessFlags := 49
  interfaces := #[]
  cf := some (fileOf pool1 35 #[] #[{ accessFlags := 2, nameIndex := 5, descriptorIndex := 6, attributes := #[] }, { accessFlags := 9, nameIndex := 39, descriptorIndex := 40, attributes := #[] }] 49 2 #[] #[])
  fields := #[]
  methods := #[k1m0, k1m1]
  instanceTypes := #[]
  staticTypes := #[]
  resolved := Array.replicate 44 none
  statics := none }

def pool2 : Array CpInfo := pool [(2, .class_ 4), (1, u "java/lang/Object"), (0, u "<init>"), (0, u "()V"), (0, .class_ 8), (0, u "com/example/thinfilm/thinfilm/recalibration/NonlinearityCorrection"), (0, .double 13828897130991920873), (1, .double 4636737291354636288), (1, .double 4596085549318176506), (1, .fieldref 7 16), (0, .nameAndType 17 18), (0, u "RESPONSE"), (0, u "[D"), (2, .double 4644234364435383099), (1, .double 4609672909393953292), (6, u "Lcom/example/thinfilm/thinfilm/aatsr/Channel;"), (2, u "CHANNEL"), (8, u "SIGNAL_SCALE"), (0, u "D"), (1, u "SIGNAL_GAIN"), (0, u "SOLAR_IRRADIANCE"), (0, u "PERCENT"), (2, u "corrected"), (0, u "(D)D")] 4

def k2m0 : Method := { name := "<init>", desc := "()V", sig := { parameters := [], returnType := none }, accessFlags := 2, code := none }
def k2c1 : Code := { maxStack := 6, maxLocals := 7, code := prog_61_method_2_code, exceptionTable := #[], attributes := #[] }
def k2m1 : Method := { name := "corrected", desc := "(D)D", sig := { parameters := [.double], returnType := some .double }, accessFlags := 9, code := some k2c1 }
/-- com/example/thinfilm/thinfilm/recalibration/NonlinearityCorrection -/
def k2 : Class := { plain "com/example/thinfilm/thinfilm/recalibration/NonlinearityCorrection" (some 0) with
  accessFlags := 49
  interfaces := #[]
  cf := some (fileOf pool2 7 #[] #[{ accessFlags := 2, nameIndex := 5, descriptorIndex := 6, attributes := #[] }, { accessFlags := 9, nameIndex := 50, descriptorIndex := 51, attributes := #[] }] 49 2 #[] #[{ accessFlags := 25, nameIndex := 33, descriptorIndex := 30, attributes := #[] }, { accessFlags := 26, nameIndex := 42, descriptorIndex := 43, attributes := #[] }, { accessFlags := 26, nameIndex := 45, descriptorIndex := 43, attributes := #[] }, { accessFlags := 26, nameIndex := 17, descriptorIndex := 18, attributes := #[] }, { accessFlags := 26, nameIndex := 46, descriptorIndex := 43, attributes := #[] }, { accessFlags := 26, nameIndex := 47, descriptorIndex := 43, attributes := #[] }])
  fields := #[{ name := "CHANNEL", type := (.object "com/example/thinfilm/thinfilm/aatsr/Channel"), accessFlags := 25, slot := 0, constantValue := 0 }, { name := "SIGNAL_SCALE", type := .double, accessFlags := 26, slot := 1, constantValue := 0 }, { name := "SIGNAL_GAIN", type := .double, accessFlags := 26, slot := 2, constantValue := 0 }, { name := "RESPONSE", type := (.array .double), accessFlags := 26, slot := 3, constantValue := 0 }, { name := "SOLAR_IRRADIANCE", type := .double, accessFlags := 26, slot := 4, constantValue := 0 }, { name := "PERCENT", type := .double, accessFlags := 26, slot := 5, constantValue := 0 }]
  methods := #[k2m0, k2m1]
  instanceTypes := #[]
  staticTypes := #[(.object "com/example/thinfilm/thinfilm/aatsr/Channel"), .double, .double, (.array .double), .double, .double]
  resolved := Array.replicate 56 none
  statics := some 0 }

def pool3 : Array CpInfo := pool [(1, u "java/lang/Cloneable"), (0, .class_ 1), (0, u "java/lang/Object"), (0, .class_ 3)] 3

/-- java/lang/Cloneable -/
def k3 : Class := { plain "java/lang/Cloneable" (some 0) with
  accessFlags := 1537
  interfaces := #[]
  cf := some (fileOf pool3 2 #[] #[] 1537 4 #[] #[])
  fields := #[]
  methods := #[]
  instanceTypes := #[]
  staticTypes := #[]
  resolved := Array.replicate 8 none
  statics := none }

def pool4 : Array CpInfo := pool [(1, u "java/io/Serializable"), (0, .class_ 1), (0, u "java/lang/Object"), (0, .class_ 3)] 3

/-- java/io/Serializable -/
def k4 : Class := { plain "java/io/Serializable" (some 0) with
  accessFlags := 1537
  interfaces := #[]
  cf := some (fileOf pool4 2 #[] #[] 1537 4 #[] #[])
  fields := #[]
  methods := #[]
  instanceTypes := #[]
  staticTypes := #[]
  resolved := Array.replicate 8 none
  statics := none }

/-- the primitive byte -/
def k5 : Class := { plain "byte" none with kind := .primitive 'B', accessFlags := 0x411 }
/-- [B -/
def k6 : Class := { plain "[B" (some 0) with kind := .array 5 .byte, interfaces := #[3, 4], accessFlags := 1041 }

/-- the primitive double -/
def k7 : Class := { plain "double" none with kind := .primitive 'D', accessFlags := 0x411 }
/-- [D -/
def k8 : Class := { plain "[D" (some 0) with kind := .array 7 .double, interfaces := #[3, 4], accessFlags := 1041 }

/-- the primitive int -/
def k9 : Class := { plain "int" none with kind := .primitive 'I', accessFlags := 0x411 }
/-- [I -/
def k10 : Class := { plain "[I" (some 0) with kind := .array 9 .int, interfaces := #[3, 4], accessFlags := 1041 }

def heap : Heap := #[{ cls := 2, slots := #[.null, .double 0, .double 0, .ref 1, .double 0, .double 0], vm := .statics 2 },
  { cls := 8, slots := #[.double 13761962255429337310, .double 13815912352546286259, .double 4576568317627439497, .double 4562314460835608896], vm := .none }]
def classes : Array Class := #[k0, k1, k2, k3, k4, k5, k6, k7, k8, k9, k10]
def interned : List (Array UInt16 × Addr) := []
def slotsUsed : Nat := 10
def theMethod : MethodId := ⟨1, 1⟩
def args0 : Array Value := #[.int 5]
def aboutOver (below : List Frame) : State where
  vm := { classes := classes, interned := interned.toArray }
  heap := heap
  slotsUsed := slotsUsed
  threads := #[{ frames := .invoking theMethod args0 :: below }]
def below0 : List Frame := [.native { method := ⟨0, 0⟩, args := #[] }]
def about1 : State := aboutOver below0
def p0 : Program := .bare "" "" ""
def e0 : Env := launch0.env 0 0 0
theorem w_frames : about1.frames = Frame.invoking theMethod args0 :: below0 := rfl
set_option maxRecDepth 65536 in
theorem w_args : argsFit about1.vm theMethod args0 = true := by decide +kernel
set_option maxRecDepth 65536 in
theorem w_heap : heapFits about1 = true := by decide +kernel
set_option maxRecDepth 65536 in
theorem w_runnable : about1.curStatus? = some .runnable := by decide +kernel
set_option maxRecDepth 65536 in
theorem w_alone : about1.alone = true := by decide +kernel
set_option maxRecDepth 65536 in
theorem w_named : about1.methodNamed? x = some theMethod := by decide +kernel
set_option maxRecDepth 65536 in
theorem w_hears : about1.hears theMethod below0 = true := by decide +kernel
set_option maxRecDepth 65536 in
theorem w_ripe : about1.ripe theMethod args0 below0 = true := by decide +kernel
theorem w_running : about1.status = .running := rfl
set_option maxRecDepth 65536 in
theorem w_room : about1.hasRoom e0.platform room_1 = true :=
  launch0.hasRoom_least _ room_1 (by decide +kernel) (by decide +kernel) (by decide +kernel) (by decide +kernel) (by decide +kernel) (by decide +kernel)
theorem allAtoms_all (ts : List Jvm.Cond) (a : Array Jvm.Value) (st : Jvm.State) : (allAtoms ts).before a st = ts.all (fun c => c.before a st) := by
  induction ts with
  | nil => rfl
  | cons c t ih =>
    show (Jvm.Cond.and c (allAtoms t)).before a st = _
    rw [Jvm.Cond.before_and, ih, List.all_cons]
def words1 : List Jvm.Cond := Jvm.Cond.code x code maxLocals ret :: tables_1
/-- a 'code' word, met by the world's own term for the bytes: nothing is compared byte by byte -/
theorem code_word {y : MethodName} {bytes : ByteArray} {mx : Nat} {rt : Option FieldType} {a : Array Value} {s : State} {m : MethodId} {meth : Method} {c : Code} (h1 : s.methodNamed? y = some m) (h2 : s.vm.method? m = some meth) (h3 : meth.code = some c) (h4 : c.code = bytes)
    (h5 : (c.maxLocals == mx && c.exceptionTable.isEmpty && decide (c.maxStack ≤ mostOperands) && decide (meth.sig.returnType = rt) && !meth.locks && decide (parseMethodDescriptor y.desc = some meth.sig)) = true) : (Jvm.Cond.code y bytes mx rt).before a s = true := by
  simp only [Bool.and_eq_true, beq_iff_eq, Bool.not_eq_true', decide_eq_true_eq] at h5
  obtain ⟨⟨⟨⟨⟨g1, g2⟩, g3⟩, g4⟩, g5⟩, g6⟩ := h5
  simp [Cond.before, Cond.holds, Cond.value, h1, h2, h3, h4, g1, g2, g3, g4, g5, g6]
def isCode : Jvm.Cond → Bool
  | .code _ _ _ _ => true
  | _ => false
theorem all_split {L : List Jvm.Cond} {P : Jvm.Cond → Bool} (h1 : L.all (fun c => isCode c || P c) = true) (h2 : ∀ c ∈ L.filter isCode, P c = true) : L.all P = true := by
  refine List.all_eq_true.mpr fun c hc => ?_
  have h := List.all_eq_true.mp h1 c hc
  rcases Bool.eq_false_or_eq_true (isCode c) with hi | hi
  · exact h2 c (List.mem_filter.mpr ⟨hc, hi⟩)
  · simpa [hi] using h
set_option maxRecDepth 65536 in
theorem w_c0 : (Jvm.Cond.code x code maxLocals ret).before args0 about1 = true := code_word (m := ⟨1, 1⟩) (meth := k1m1) (c := k1c1) (by decide +kernel) rfl rfl rfl (by decide +kernel)
set_option maxRecDepth 65536 in
theorem w_c1 : (Jvm.Cond.code ({ cls := "com/example/thinfilm/thinfilm/recalibration/NonlinearityCorrection", name := "corrected", desc := "(D)D" } : Jvm.MethodName) prog_61_method_2_code (7 : Nat) (Option.some Jvm.ClassFile.FieldType.double)).before args0 about1 = true := code_word (m := ⟨2, 1⟩) (meth := k2m1) (c := k2c1) (by decide +kernel) rfl rfl rfl (by decide +kernel)
def codes1 : List Jvm.Cond := [Jvm.Cond.code x code maxLocals ret, Jvm.Cond.code ({ cls := "com/example/thinfilm/thinfilm/recalibration/NonlinearityCorrection", name := "corrected", desc := "(D)D" } : Jvm.MethodName) prog_61_method_2_code (7 : Nat) (Option.some Jvm.ClassFile.FieldType.double)]
set_option maxRecDepth 65536 in
theorem codes_eq : words1.filter isCode = codes1 := rfl
theorem w_codes : ∀ c ∈ words1.filter isCode, c.before args0 about1 = true := by
  rw [codes_eq]
  intro c hc
  simp only [codes1, List.mem_cons, List.not_mem_nil, or_false] at hc
  rcases hc with rfl | rfl
  · exact w_c0
  · exact w_c1
set_option maxRecDepth 65536 in
theorem w_t1 : words1.all (fun c => isCode c || c.before args0 about1) = true := by decide +kernel
theorem w_tables : (allAtoms (Jvm.Cond.code x code maxLocals ret :: tables_1)).before args0 about1 = true := by
  rw [allAtoms_all]
  show words1.all (fun c => c.before args0 about1) = true
  refine all_split ?_ w_codes
  rw [w_t1]
set_option maxRecDepth 65536 in
theorem w_case : (Jvm.Cond.and given_1 narrow_1).before args0 about1 = true := by decide +kernel
theorem w_applies : (headSpec (Jvm.Cond.code x code maxLocals ret :: tables_1) room_1).applies x e0.platform about1 = true :=
  (Spec.applies_iff w_frames).mpr ⟨w_running, w_runnable, w_alone, w_named, w_hears, w_ripe, w_room, w_tables⟩
theorem atStart : AtStart classFile x code maxLocals ret World_1 tables_1 room_1 Calls_1 rest_1 Pre_1 launch0 p0 e0 about1 theMethod args0 below0 :=
  ⟨lists_1, trivial, launch0.admits_env _ _ _, launch0.least_env, fairChoices_fair.cas, fairChoices_fair.clock, w_frames, w_args, w_heap, w_applies, trivial, trivial, w_case⟩
end start1
theorem witness_1 : WitnessClaimed_1 := ⟨start1.p0, start1.e0, start1.about1, start1.theMethod, start1.args0, start1.below0, start1.atStart⟩
end Jvm.Pilot.@@N@@
