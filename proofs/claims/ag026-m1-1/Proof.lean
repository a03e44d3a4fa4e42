import JvmDerived
import JvmDerived.Pilot.@@N@@Statement
import JvmDerived.Pilot.@@N@@Code
set_option linter.unusedVariables false
set_option linter.unusedSimpArgs false
namespace Jvm.Pilot.@@N@@
section Mono
open Jvm.FP.Core
theorem own_mono {f : Fmt} (hf : Good f) {s : Bool} {A B A' B' : Nat} {e e' e0 : Int} (hB : 0 < B) (hB' : 0 < B') (h0 : e0 < f.qmin) (h0e : e0 ≤ e) (h0e' : e0 ≤ e') (h : inUnits A e e0 * B' ≤ inUnits A' e' e0 * B) : zmag f (roundRatio f s A B e) ≤ zmag f (roundRatio f s A' B' e') := by
  have fit' := roundRatio_fits hf s A' hB' e'
  have fit := roundRatio_fits hf s A hB e
  rcases roundRatio_cases f s A' B' e' with ⟨c', q', hV⟩ | hV
  · rcases roundRatio_cases f s A B e with ⟨c, q, hW⟩ | hW
    · by_cases heq : inUnits A e e0 * B' = inUnits A' e' e0 * B
      · have : roundRatio f s A B e = roundRatio f s A' B' e' := by
          refine roundRatio_congr hB hB' ?_
          unfold inUnits at heq
          rcases Int.le_total e' e with hle | hle
          · rw [show (e' - e).toNat = 0 by omega, Nat.pow_zero, Nat.mul_one]
            rw [show (e - e0).toNat = (e - e').toNat + (e' - e0).toNat by omega, Nat.pow_add] at heq
            refine Nat.eq_of_mul_eq_mul_right (Nat.two_pow_pos (e' - e0).toNat) ?_
            calc A * B' * 2 ^ (e - e').toNat * 2 ^ (e' - e0).toNat = A * (2 ^ (e - e').toNat * 2 ^ (e' - e0).toNat) * B' := by ac_rfl
              _ = A' * 2 ^ (e' - e0).toNat * B := heq
              _ = A' * B * 2 ^ (e' - e0).toNat := by ac_rfl
          · rw [show (e - e').toNat = 0 by omega, Nat.pow_zero, Nat.mul_one]
            rw [show (e' - e0).toNat = (e' - e).toNat + (e - e0).toNat by omega, Nat.pow_add] at heq
            refine Nat.eq_of_mul_eq_mul_right (Nat.two_pow_pos (e - e0).toNat) ?_
            calc A * B' * 2 ^ (e - e0).toNat = A * 2 ^ (e - e0).toNat * B' := by ac_rfl
              _ = A' * (2 ^ (e' - e).toNat * 2 ^ (e - e0).toNat) * B := heq
              _ = A' * B * 2 ^ (e' - e).toNat * 2 ^ (e - e0).toNat := by ac_rfl
        rw [this]
        exact Nat.le_refl _
      · have hlt : inUnits A e e0 * B' < inUnits A' e' e0 * B := Nat.lt_of_le_of_ne h heq
        rw [hV] at fit' ⊢
        rw [hW] at fit ⊢
        have n1 := roundRatio_nearest hf hB hW fit'.1 fit'.2.1 (Int.le_of_lt h0) h0e
        have n2 := roundRatio_nearest hf hB' hV fit.1 fit.2.1 (Int.le_of_lt h0) h0e'
        unfold distance at n1 n2
        rw [units_fin fit (Int.le_of_lt h0), units_fin fit' (Int.le_of_lt h0)] at n1 n2
        refine Nat.le_of_not_lt fun hvw => ?_
        generalize zmag f (.fin s c q) = w at *
        generalize zmag f (.fin s c' q') = v at *
        generalize inUnits A e e0 = X at *
        generalize inUnits A' e' e0 = Y at *
        have hab : v * 2 ^ (f.qmin - e0).toNat < w * 2 ^ (f.qmin - e0).toNat := Nat.mul_lt_mul_of_pos_right hvw (Nat.two_pow_pos _)
        generalize w * 2 ^ (f.qmin - e0).toNat = a at *
        generalize v * 2 ^ (f.qmin - e0).toNat = b at *
        have p1 : b * B < a * B := Nat.mul_lt_mul_of_pos_right hab hB
        have p2 : b * B' < a * B' := Nat.mul_lt_mul_of_pos_right hab hB'
        rw [← Int.natCast_mul, ← Int.natCast_mul] at n1 n2
        have m1 : a * B + b * B ≤ 2 * X := by omega
        have m2 : 2 * Y ≤ a * B' + b * B' := by omega
        have k1 := Nat.mul_le_mul_right B' m1
        have k2 := Nat.mul_le_mul_right B m2
        have e1 : (a * B + b * B) * B' = (a * B' + b * B') * B := by rw [Nat.add_mul, Nat.add_mul]; ac_rfl
        have e2 : 2 * X * B' = 2 * (X * B') := Nat.mul_assoc ..
        have e3 : 2 * Y * B = 2 * (Y * B) := Nat.mul_assoc ..
        omega
    · exfalso
      have h1 := (roundRatio_inf hf hB h0 h0e).mp hW
      have h2 : roundRatio f s A' B' e' = .inf s := by
        refine (roundRatio_inf hf hB' h0 h0e').mpr ?_
        generalize (2 ^ (f.p + 1) - 1) * 2 ^ (f.qmax - 1 - e0).toNat = t at *
        refine Nat.le_of_mul_le_mul_right ?_ hB
        calc t * B' * B = t * B * B' := by ac_rfl
          _ ≤ inUnits A e e0 * B' := Nat.mul_le_mul_right _ h1
          _ ≤ inUnits A' e' e0 * B := h
      rw [hV] at h2
      cases h2
  · rw [hV]
    exact zmag_le_top hf fit
theorem own_congr {f : Fmt} {s : Bool} {A B A' B' : Nat} {e e' : Int} (e0 : Int) (hB : 0 < B) (hB' : 0 < B') (h0e : e0 ≤ e) (h0e' : e0 ≤ e') (heq : inUnits A e e0 * B' = inUnits A' e' e0 * B) : roundRatio f s A B e = roundRatio f s A' B' e' := by
  refine roundRatio_congr hB hB' ?_
  unfold inUnits at heq
  rcases Int.le_total e' e with hle | hle
  · rw [show (e' - e).toNat = 0 by omega, Nat.pow_zero, Nat.mul_one]
    rw [show (e - e0).toNat = (e - e').toNat + (e' - e0).toNat by omega, Nat.pow_add] at heq
    refine Nat.eq_of_mul_eq_mul_right (Nat.two_pow_pos (e' - e0).toNat) ?_
    calc A * B' * 2 ^ (e - e').toNat * 2 ^ (e' - e0).toNat = A * (2 ^ (e - e').toNat * 2 ^ (e' - e0).toNat) * B' := by ac_rfl
      _ = A' * 2 ^ (e' - e0).toNat * B := heq
      _ = A' * B * 2 ^ (e' - e0).toNat := by ac_rfl
  · rw [show (e - e').toNat = 0 by omega, Nat.pow_zero, Nat.mul_one]
    rw [show (e' - e0).toNat = (e' - e).toNat + (e - e0).toNat by omega, Nat.pow_add] at heq
    refine Nat.eq_of_mul_eq_mul_right (Nat.two_pow_pos (e - e0).toNat) ?_
    calc A * B' * 2 ^ (e - e0).toNat = A * 2 ^ (e - e0).toNat * B' := by ac_rfl
      _ = A' * (2 ^ (e' - e).toNat * 2 ^ (e - e0).toNat) * B := heq
      _ = A' * B * 2 ^ (e' - e).toNat * 2 ^ (e - e0).toNat := by ac_rfl
/-- the datum is the non-negative whole number P, with the sign + -/
def own_W (P : Nat) (d : Datum) : Prop := ∃ c q, d = .fin false c q ∧ ∀ a, a ≤ q → a ≤ 0 → inUnits c q a = P * 2 ^ (-a).toNat
theorem own_W_of {P : Nat} {d : Datum} (h : Whole (P : Int) d) (hs : sgn d = false) : own_W P d := by
  cases d with
  | nan => cases h
  | inf => cases h
  | fin s c q =>
    have hs' : s = false := hs
    subst hs'
    refine ⟨c, q, rfl, fun a h1 h2 => ?_⟩
    have h3 := whole_natAbs h
    rw [Int.natAbs_natCast] at h3
    unfold inUnits
    rcases Int.le_total 0 q with hq | hq
    · rw [show (-q).toNat = 0 by omega, Nat.pow_zero, Nat.mul_one] at h3
      rw [show (q - a).toNat = q.toNat + (-a).toNat by omega, Nat.pow_add, ← Nat.mul_assoc, h3]
    · rw [show q.toNat = 0 by omega, Nat.pow_zero, Nat.mul_one] at h3
      rw [h3, Nat.mul_assoc, ← Nat.pow_add, show (-q).toNat + (q - a).toNat = (-a).toNat by omega]
theorem own_i2d_W {x : Int32} (h : 0 ≤ x.toInt) : own_W x.toInt.toNat (val64 (i2d x)) := by
  refine own_W_of (by rw [Int.toNat_of_nonneg h]; exact i2d_int x) ?_
  rw [val64_i2d]
  show sgn (roundRatio b64 (decide (x.toInt < 0)) _ 1 0) = false
  rw [sgn_roundRatio]
  simp; omega
theorem own_i2f_W {x : Int32} (h : 0 ≤ x.toInt) (h2 : x.toInt ≤ 2 ^ 24) : own_W x.toInt.toNat (val32 (i2f x)) := by
  refine own_W_of (by rw [Int.toNat_of_nonneg h]; exact i2f_int (by omega)) ?_
  rw [val32_i2f]
  show sgn (roundRatio b32 (decide (x.toInt < 0)) _ 1 0) = false
  rw [sgn_roundRatio]
  simp; omega
/-- a ratio of whole numbers, rounded -/
theorem own_div {P S : Nat} {p s : UInt64} (hp : own_W P (val64 p)) (hs : own_W S (val64 s)) (hS : 0 < S) : val64 (ddiv p s) = roundRatio b64 false P S 0 := by
  obtain ⟨cp, qp, ep, wp⟩ := hp
  obtain ⟨cs, qs, es, ws⟩ := hs
  rw [val64_ddiv, ep, es]
  have hcs : 0 < cs := by
    rcases Nat.eq_zero_or_pos cs with h | h
    · have := ws (min qs 0) (Int.min_le_left ..) (Int.min_le_right ..)
      rw [h] at this
      unfold inUnits at this
      rw [Nat.zero_mul] at this
      have := Nat.mul_pos hS (Nat.two_pow_pos (-(min qs 0)).toNat)
      omega
    · exact h
  show (if cs = 0 then _ else roundRatio b64 (false != false) cp cs (qp - qs)) = _
  rw [if_neg (by omega)]
  have g1 := wp (min qp 0) (Int.min_le_left ..) (Int.min_le_right ..)
  have g2 := ws (min qs 0) (Int.min_le_left ..) (Int.min_le_right ..)
  have a1 : min qp 0 ≤ qp := Int.min_le_left ..
  have a2 : min qp 0 ≤ 0 := Int.min_le_right ..
  have b1 : min qs 0 ≤ qs := Int.min_le_left ..
  have b2 : min qs 0 ≤ 0 := Int.min_le_right ..
  generalize min qp 0 = a at *
  generalize min qs 0 = b at *
  refine own_congr (a + -(qs - b) + b) (by omega) hS (by omega) (by omega) ?_
  unfold inUnits at *
  rw [show (qp - qs - (a + -(qs - b) + b)).toNat = (qp - a).toNat + (-b).toNat + (-b).toNat by omega, Nat.pow_add, Nat.pow_add,
    show (0 - (a + -(qs - b) + b)).toNat = (-a).toNat + (qs - b).toNat + (-b).toNat by omega, Nat.pow_add, Nat.pow_add]
  calc cp * (2 ^ (qp - a).toNat * 2 ^ (-b).toNat * 2 ^ (-b).toNat) * S = (cp * 2 ^ (qp - a).toNat) * (S * 2 ^ (-b).toNat) * 2 ^ (-b).toNat := by ac_rfl
    _ = (P * 2 ^ (-a).toNat) * (cs * 2 ^ (qs - b).toNat) * 2 ^ (-b).toNat := by rw [g1, g2]
    _ = P * (2 ^ (-a).toNat * 2 ^ (qs - b).toNat * 2 ^ (-b).toNat) * cs := by ac_rfl
theorem own_mul {Bo : Nat} {b fr : UInt64} (hb : own_W Bo (val64 b)) {c : Nat} {q : Int} (hf : val64 fr = .fin false c q) : val64 (dmul b fr) = roundRatio b64 false (Bo * c) 1 q := by
  obtain ⟨cb, qb, eb, wb⟩ := hb
  rw [val64_dmul, eb, hf]
  show roundRatio b64 (false != false) (cb * c) 1 (qb + q) = _
  have g1 := wb (min qb 0) (Int.min_le_left ..) (Int.min_le_right ..)
  have a1 : min qb 0 ≤ qb := Int.min_le_left ..
  have a2 : min qb 0 ≤ 0 := Int.min_le_right ..
  generalize min qb 0 = a at *
  refine own_congr (a + q) (by decide) (by decide) (by omega) (by omega) ?_
  unfold inUnits at *
  rw [show (qb + q - (a + q)).toNat = (qb - a).toNat by omega, show (q - (a + q)).toNat = (-a).toNat by omega]
  calc cb * c * 2 ^ (qb - a).toNat * 1 = (cb * 2 ^ (qb - a).toNat) * c := by rw [Nat.mul_one]; ac_rfl
    _ = Bo * c * 2 ^ (-a).toNat * 1 := by rw [g1, Nat.mul_one]; ac_rfl
theorem own_d2f {x : UInt64} {c : Nat} {q : Int} (h : val64 x = .fin false c q) : val32 (d2f x) = roundRatio b32 false c 1 q := by
  rw [val32_d2f, h]; rfl
theorem own_f2d_W {Bo : Nat} {a : UInt32} (h : FInt (Bo : Int) a) (hs : sgn (val32 a) = false) (hb : Bo ≤ 2 ^ 53) : own_W Bo (val64 (f2d a)) := by
  refine own_W_of ?_ ?_
  · rw [val64_f2d]
    exact whole_round good_b64 wide_b64 (by rw [Int.natAbs_natCast]; exact hb) h
  · rw [val64_f2d]
    unfold FInt at h
    cases hd : val32 a with
    | nan => rw [hd] at h; cases h
    | inf => rw [hd] at h; cases h
    | fin s c q =>
      rw [hd] at hs
      show sgn (roundRatio b64 s c 1 q) = false
      rw [sgn_roundRatio]
      exact hs
/-- a rounded ratio at most 1 -/
theorem own_le1 {P S : Nat} (hS : 0 < S) (h : P ≤ S) : ∃ c q, roundRatio b64 false P S 0 = .fin false c q ∧ FP.Core.fits b64 (.fin false c q) ∧ inUnits c q b64.qmin ≤ 2 ^ 1074 := by
  have hf := roundRatio_fits good_b64 false P hS 0
  have one : val64 0x3ff0000000000000 = .fin false 4503599627370496 (-52) := by decide +kernel
  have ho : FP.Core.fits b64 (.fin false 4503599627370496 (-52)) := one ▸ val64_fits _
  have hz : zmag b64 (.fin false 4503599627370496 (-52)) = 2 ^ 1074 := by decide +kernel
  have hq : b64.qmin = -1074 := by decide
  have le := zmag_roundRatio_le good_b64 (s := false) (A := P) (B := S) (e := 0) (e0 := b64.qmin) hS ho (fun h => by cases h) (Int.le_refl _) (by rw [hq]; decide) (by
    rw [hz]
    unfold inUnits
    rw [show (0 - b64.qmin).toNat = 1074 by decide, show (b64.qmin - b64.qmin).toNat = 0 by decide]
    generalize 2 ^ 1074 = K
    rw [Nat.pow_zero, Nat.mul_one, Nat.mul_comm]
    exact Nat.mul_le_mul_left _ h)
  rw [hz] at le
  rcases roundRatio_cases b64 false P S 0 with ⟨c, q, hV⟩ | hV
  · rw [hV] at hf le
    exact ⟨c, q, hV, hf, le⟩
  · rw [hV] at le
    exfalso
    exact absurd le (by decide +kernel)
/-- the product, and the score, of whole numbers; P at most S -/
theorem own_score {Bo P S : Nat} {b p s : UInt64} (hb : own_W Bo (val64 b)) (hp : own_W P (val64 p)) (hs : own_W S (val64 s)) (hS : 0 < S) (h : P ≤ S) (hBo : Bo ≤ 2 ^ 30) :
    ∃ c q c2 q2, roundRatio b64 false P S 0 = .fin false c q ∧ FP.Core.fits b64 (.fin false c q) ∧ inUnits c q b64.qmin ≤ 2 ^ 1074 ∧
      roundRatio b64 false (Bo * c) 1 q = .fin false c2 q2 ∧ FP.Core.fits b64 (.fin false c2 q2) ∧ inUnits c2 q2 b64.qmin ≤ Bo * 2 ^ 1074 ∧
      val64 (ddiv p s) = .fin false c q ∧ val64 (dmul b (ddiv p s)) = .fin false c2 q2 ∧ val32 (d2f (dmul b (ddiv p s))) = roundRatio b32 false c2 1 q2 := by
  obtain ⟨c, q, e1, f1, l1⟩ := own_le1 hS h
  have d1 := own_div hp hs hS
  rw [e1] at d1
  have m1 := own_mul hb d1
  have hq : b64.qmin = -1074 := by decide
  have hf := roundRatio_fits good_b64 false (Bo * c) (show 0 < 1 by decide) q
  obtain ⟨cb, qb, eb, wb⟩ := id hb
  have fb := val64_fits b
  rw [eb] at fb
  have zb : zmag b64 (.fin false cb qb) = Bo * 2 ^ 1074 := by
    have := wb b64.qmin fb.2.1 (by rw [hq]; decide)
    rw [show (-b64.qmin).toNat = 1074 by decide] at this
    exact this
  have le := zmag_roundRatio_le good_b64 (s := false) (A := Bo * c) (B := 1) (e := q) (e0 := b64.qmin) (by decide) fb (fun h => by cases h) (Int.le_refl _) f1.2.1 (by
    rw [zb, show (b64.qmin - b64.qmin).toNat = 0 by decide, Nat.pow_zero, Nat.mul_one, Nat.mul_one]
    have : inUnits (Bo * c) q b64.qmin = Bo * inUnits c q b64.qmin := by unfold inUnits; rw [Nat.mul_assoc]
    rw [this]
    exact Nat.mul_le_mul_left _ l1)
  rw [zb] at le
  rcases roundRatio_cases b64 false (Bo * c) 1 q with ⟨c2, q2, hV⟩ | hV
  · rw [hV] at hf le
    rw [hV] at m1
    exact ⟨c, q, c2, q2, e1, f1, l1, hV, hf, le, d1, m1, own_d2f m1⟩
  · rw [hV] at le
    exfalso
    have t : zmag b64 (.inf false) ≤ 2 ^ 30 * 2 ^ 1074 := Nat.le_trans le (Nat.mul_le_mul_right _ hBo)
    exact absurd t (by decide +kernel)
/-- inUnits one place lower -/
theorem own_low {c : Nat} {q e0 : Int} (h : e0 ≤ q) : inUnits c q (e0 - 1) = 2 * inUnits c q e0 := by
  rw [inUnits_move c (r := e0) (by omega) h, show (e0 - (e0 - 1)).toNat = 1 by omega, Nat.pow_one, Nat.mul_comm]
/-- the score grows with P / S -/
theorem own_score_mono {Bo P S P' S' : Nat} {b p s p' s' : UInt64} (hb : own_W Bo (val64 b)) (hp : own_W P (val64 p)) (hs : own_W S (val64 s)) (hS : 0 < S) (h : P ≤ S) (hp' : own_W P' (val64 p')) (hs' : own_W S' (val64 s')) (hS' : 0 < S') (h' : P' ≤ S') (hBo : Bo ≤ 2 ^ 30) (hle : P * S' ≤ P' * S) :
    zmag b32 (val32 (d2f (dmul b (ddiv p s)))) ≤ zmag b32 (val32 (d2f (dmul b (ddiv p' s')))) := by
  obtain ⟨c, q, c2, q2, e1, f1, l1, e2, f2, l2, -, -, r⟩ := own_score hb hp hs hS h hBo
  obtain ⟨c', q', c2', q2', e1', f1', l1', e2', f2', l2', -, -, r'⟩ := own_score hb hp' hs' hS' h' hBo
  have hq : b64.qmin = -1074 := by decide
  have m1 := own_mono good_b64 (s := false) (A := P) (B := S) (A' := P') (B' := S') (e := 0) (e' := 0) (e0 := b64.qmin - 1) hS hS' (by omega) (by omega) (by omega) (by
    unfold inUnits
    generalize 2 ^ (0 - (b64.qmin - 1)).toNat = K
    calc P * K * S' = P * S' * K := by ac_rfl
      _ ≤ P' * S * K := Nat.mul_le_mul_right _ hle
      _ = P' * K * S := by ac_rfl)
  rw [e1, e1'] at m1
  have m1 : inUnits c q b64.qmin ≤ inUnits c' q' b64.qmin := m1
  have m2 := own_mono good_b64 (s := false) (A := Bo * c) (B := 1) (A' := Bo * c') (B' := 1) (e := q) (e' := q') (e0 := b64.qmin - 1) (by decide) (by decide) (by omega) (by have := f1.2.1; omega) (by have := f1'.2.1; omega) (by
    rw [own_low f1.2.1, own_low f1'.2.1, Nat.mul_one, Nat.mul_one]
    have a : ∀ x y : Nat, ∀ z : Int, inUnits (x * y) z b64.qmin = x * inUnits y z b64.qmin := fun x y z => by unfold inUnits; rw [Nat.mul_assoc]
    rw [a, a]
    exact Nat.mul_le_mul_left _ (Nat.mul_le_mul_left _ m1))
  rw [e2, e2'] at m2
  have m2 : inUnits c2 q2 b64.qmin ≤ inUnits c2' q2' b64.qmin := m2
  rw [r, r']
  have h32 : b32.qmin = -149 := by decide
  refine own_mono good_b32 (e0 := b64.qmin) (by decide) (by decide) (by rw [hq, h32]; decide) f2.2.1 f2'.2.1 ?_
  rw [Nat.mul_one, Nat.mul_one]
  exact m2
/-- the score is at most the boost -/
theorem own_score_top {Bo P S : Nat} {bf : UInt32} {b p s : UInt64} (hbf : own_W Bo (val32 bf)) (hb : own_W Bo (val64 b)) (hp : own_W P (val64 p)) (hs : own_W S (val64 s)) (hS : 0 < S) (h : P ≤ S) (hBo : Bo ≤ 2 ^ 30) :
    zmag b32 (val32 (d2f (dmul b (ddiv p s)))) ≤ zmag b32 (val32 bf) := by
  obtain ⟨c, q, c2, q2, e1, f1, l1, e2, f2, l2, -, -, r⟩ := own_score hb hp hs hS h hBo
  obtain ⟨cb, qb, eb, wb⟩ := hbf
  have fb := val32_fits bf
  have h32 : b32.qmin = -149 := by decide
  have hq : b64.qmin = -1074 := by decide
  rw [eb] at fb ⊢
  rw [r]
  have zb : zmag b32 (.fin false cb qb) = Bo * 2 ^ 149 := by
    have := wb b32.qmin fb.2.1 (by rw [h32]; decide)
    rw [show (-b32.qmin).toNat = 149 by decide] at this
    exact this
  refine zmag_roundRatio_le good_b32 (e0 := b64.qmin) (by decide) fb (fun h => by cases h) (by rw [hq, h32]; decide) f2.2.1 ?_
  rw [zb, Nat.mul_one, show (b32.qmin - b64.qmin).toNat = 925 by decide, Nat.mul_assoc, ← Nat.pow_add]
  exact l2
theorem own_ddiv_same {P S P' S' : Nat} {p s p' s' : UInt64} (hp : own_W P (val64 p)) (hs : own_W S (val64 s)) (hS : 0 < S) (h : P ≤ S) (hp' : own_W P' (val64 p')) (hs' : own_W S' (val64 s')) (hS' : 0 < S') (heq : P * S' = P' * S) : ddiv p s = ddiv p' s' := by
  have e : roundRatio b64 false P S 0 = roundRatio b64 false P' S' 0 := own_congr 0 hS hS' (Int.le_refl _) (Int.le_refl _) (by unfold inUnits; simpa using heq)
  obtain ⟨c, q, e1, -⟩ := own_le1 hS h
  refine val64_inj ?_ ?_
  · rw [own_div hp hs hS, e1]; exact Datum.noConfusion
  · rw [own_div hp hs hS, own_div hp' hs' hS', e]
/-- a fraction that is a power of two is exact -/
theorem own_ddiv_pow {P S : Nat} {p s k : UInt64} (hp : own_W P (val64 p)) (hs : own_W S (val64 s)) (hP : 0 < P) (n : Nat) (hn : 0 < n) (hS : S = n * P) (hk : roundRatio b64 false 1 n 0 = val64 k) (hk2 : val64 k ≠ .nan) : ddiv p s = k := by
  have hS0 : 0 < S := by rw [hS]; exact Nat.mul_pos hn hP
  have e : val64 (ddiv p s) = val64 k := by
    rw [own_div hp hs hS0, ← hk]
    exact own_congr 0 hS0 hn (Int.le_refl _) (Int.le_refl _) (by unfold inUnits; rw [hS]; simp [Nat.mul_comm])
  exact (val64_inj hk2 e.symm).symm
theorem own_scale {Bo : Nat} {b fr : UInt64} (hb : own_W Bo (val64 b)) (hBo : Bo < 2 ^ 53) (j : Nat) (hj : j ≤ 8) (hfr : val64 fr = .fin false (2 ^ 52) (-52 - (j : Int))) : val32 (d2f (dmul b fr)) = roundRatio b32 false Bo 1 (-(j : Int)) := by
  have m := own_mul hb hfr
  have hq : b64.qmin = -1074 := by decide
  have hM : b64.qmax = 971 := by decide
  have e : roundRatio b64 false (Bo * 2 ^ 52) 1 (-52 - (j : Int)) = round b64 (.fin false Bo (-(j : Int))) := by
    refine own_congr (-52 - (j : Int)) (by decide) (by decide) (Int.le_refl _) (by omega) ?_
    unfold inUnits
    rw [show (-52 - (j : Int) - (-52 - (j : Int))).toNat = 0 by omega, show (-(j : Int) - (-52 - (j : Int))).toNat = 52 by omega, Nat.pow_zero, Nat.mul_one]
  obtain ⟨c', q', r1, r2⟩ := round_exact good_b64 false (c := Bo) (q := -(j : Int)) hBo (by omega) (by omega)
  rw [e, r1] at m
  have hf := val64_fits (dmul b fr)
  rw [m] at hf
  rw [own_d2f m]
  exact own_congr b64.qmin (by decide) (by decide) hf.2.1 (by omega) (by rw [r2])
theorem own_fmulp {Bo : Nat} {bf k : UInt32} (hb : own_W Bo (val32 bf)) (j : Nat) (hk : val32 k = .fin false (2 ^ 23) (-23 - (j : Int))) : val32 (fmul bf k) = roundRatio b32 false Bo 1 (-(j : Int)) := by
  obtain ⟨cb, qb, eb, wb⟩ := hb
  rw [val32_fmul, eb, hk]
  show roundRatio b32 (false != false) (cb * 2 ^ 23) 1 (qb + (-23 - (j : Int))) = _
  have g1 := wb (min qb 0) (Int.min_le_left ..) (Int.min_le_right ..)
  have a1 : min qb 0 ≤ qb := Int.min_le_left ..
  have a2 : min qb 0 ≤ 0 := Int.min_le_right ..
  generalize min qb 0 = a at *
  refine own_congr (a + (-23 - (j : Int))) (by decide) (by decide) (by omega) (by omega) ?_
  unfold inUnits at *
  rw [show (qb + (-23 - (j : Int)) - (a + (-23 - (j : Int)))).toNat = (qb - a).toNat by omega, show (-(j : Int) - (a + (-23 - (j : Int)))).toNat = (-a).toNat + 23 by omega, Nat.pow_add]
  calc cb * 2 ^ 23 * 2 ^ (qb - a).toNat * 1 = (cb * 2 ^ (qb - a).toNat) * 2 ^ 23 := by rw [Nat.mul_one]; ac_rfl
    _ = Bo * (2 ^ (-a).toNat * 2 ^ 23) * 1 := by rw [g1, Nat.mul_one]; ac_rfl
theorem own_self32 {Bo : Nat} {bf : UInt32} (hb : own_W Bo (val32 bf)) : val32 bf = roundRatio b32 false Bo 1 0 := by
  have hf := val32_fits bf
  obtain ⟨cb, qb, eb, wb⟩ := hb
  rw [eb] at hf ⊢
  have r := round_of_fits good_b32 hf
  rw [← r]
  have g1 := wb (min qb 0) (Int.min_le_left ..) (Int.min_le_right ..)
  refine own_congr (min qb 0) (by decide) (by decide) (Int.min_le_left ..) (Int.min_le_right ..) ?_
  rw [g1]
  unfold inUnits
  rw [show (0 - min qb 0).toNat = (-(min qb 0)).toNat by omega]
/-- doubling commutes with rounding where the number is normal -/
theorem own_dbl {f : Fmt} (hf : Good f) {s : Bool} {A c : Nat} {e q : Int} (hA : 0 < A) (he : f.qmin + ((f.p : Int) - 1) ≤ e) (h : roundRatio f s A 1 e = .fin s c q) (hM : q + 1 ≤ f.qmax) : roundRatio f s A 1 (e + 1) = .fin s c (q + 1) := by
  have hL : 0 ≤ leading A 1 := by
    have h1 : ¬ Below A 1 0 := by unfold Below; simp; omega
    have := lt_of_below h1 (leading_spec hA (show 0 < 1 by decide)).2
    omega
  have q1 : quantum f A 1 e = leading A 1 + e - ((f.p : Int) - 1) := by unfold quantum; omega
  have q2 : quantum f A 1 (e + 1) = quantum f A 1 e + 1 := by rw [q1]; unfold quantum; omega
  unfold roundRatio at h ⊢
  rw [if_neg (by omega)] at h ⊢
  rw [q2]
  generalize quantum f A 1 e = r at *
  unfold roundAt unitsNum unitsDen at h ⊢
  rw [show (e + 1 - (r + 1)).toNat = (e - r).toNat by omega, show (r + 1 - (e + 1)).toNat = (r - e).toNat by omega]
  generalize nearest (A * 2 ^ (e - r).toNat) (1 * 2 ^ (r - e).toNat) = k at *
  unfold settle bound at h ⊢
  split at h
  · rename_i hk
    rw [if_pos hk]
    split at h
    · cases h
      rw [if_pos hM]
    · cases h
  · rename_i hk
    rw [if_neg hk]
    split at h
    · cases h
      rw [if_pos hM]
    · cases h
/-- a fraction of whole numbers is not tiny -/
theorem own_big {P S : Nat} (hP : 0 < P) (hS : 0 < S) (h : S ≤ 2 ^ 26 * P) {c : Nat} {q : Int} (e : roundRatio b64 false P S 0 = .fin false c q) : 2 ^ 1048 ≤ inUnits c q b64.qmin := by
  have small : val64 0x3e50000000000000 = .fin false 4503599627370496 (-78) := by decide +kernel
  have ho : FP.Core.fits b64 (.fin false 4503599627370496 (-78)) := small ▸ val64_fits _
  have hz : zmag b64 (.fin false 4503599627370496 (-78)) = 2 ^ 1048 := by decide +kernel
  have hq : b64.qmin = -1074 := by decide
  have ge := zmag_roundRatio_ge good_b64 (s := false) (A := P) (B := S) (e := 0) (e0 := b64.qmin) hS ho (Int.le_refl _) (by rw [hq]; decide) (by
    rw [hz]
    unfold inUnits
    rw [show (0 - b64.qmin).toNat = 1048 + 26 by decide, show (b64.qmin - b64.qmin).toNat = 0 by decide, Nat.pow_add]
    generalize 2 ^ 1048 = K
    rw [Nat.pow_zero, Nat.mul_one]
    calc K * S ≤ K * (2 ^ 26 * P) := Nat.mul_le_mul_left _ h
      _ = P * (K * 2 ^ 26) := by ac_rfl)
  rw [hz, e] at ge
  exact ge
theorem own_exp {c : Nat} {n k : Nat} (hc : c < 2 ^ 53) (h : 2 ^ k ≤ c * 2 ^ n) (hk : 53 ≤ k) : k - 53 < n := by
  refine Nat.lt_of_not_le fun hn => ?_
  have h1 : c * 2 ^ n < 2 ^ 53 * 2 ^ n := Nat.mul_lt_mul_of_pos_right hc (Nat.two_pow_pos _)
  rw [← Nat.pow_add] at h1
  have h2 : (2 : Nat) ^ (53 + n) ≤ 2 ^ k := Nat.pow_le_pow_right (by decide) (by omega)
  omega
theorem own_exp2 {c n k : Nat} (hc : 0 < c) (h : c * 2 ^ n ≤ 2 ^ k) : n ≤ k := by
  refine Nat.le_of_not_lt fun hn => ?_
  have h1 : (2 : Nat) ^ (k + 1) ≤ 2 ^ n := Nat.pow_le_pow_right (by decide) hn
  have h2 : 1 * 2 ^ n ≤ c * 2 ^ n := Nat.mul_le_mul_right _ hc
  rw [Nat.pow_succ] at h1
  have := Nat.two_pow_pos k
  omega
/-- the datum is the whole number P with the sign + -/
def own_V (P : Nat) (d : Datum) : Prop := Whole (P : Int) d ∧ sgn d = false
theorem own_V.W {P : Nat} {d : Datum} (h : own_V P d) : own_W P d := own_W_of h.1 h.2
theorem own_V.fin {P : Nat} {d : Datum} (h : own_V P d) : ∃ c q, d = .fin false c q := by
  obtain ⟨c, q, e, -⟩ := h.W
  exact ⟨c, q, e⟩
theorem own_i2d_V {x : Int32} (h : 0 ≤ x.toInt) : own_V x.toInt.toNat (val64 (i2d x)) := by
  refine ⟨by rw [Int.toNat_of_nonneg h]; exact i2d_int x, ?_⟩
  rw [val64_i2d]
  show sgn (roundRatio b64 (decide (x.toInt < 0)) _ 1 0) = false
  rw [sgn_roundRatio]
  simp; omega
theorem own_i2f_V {x : Int32} (h : 0 ≤ x.toInt) (h2 : x.toInt ≤ 2 ^ 24) : own_V x.toInt.toNat (val32 (i2f x)) := by
  refine ⟨by rw [Int.toNat_of_nonneg h]; exact i2f_int (by omega), ?_⟩
  rw [val32_i2f]
  show sgn (roundRatio b32 (decide (x.toInt < 0)) _ 1 0) = false
  rw [sgn_roundRatio]
  simp; omega
theorem own_dadd_V {P D : Nat} {p d : UInt64} (hp : own_V P (val64 p)) (hd : own_V D (val64 d)) (h : P + D ≤ 2 ^ 53) : own_V (P + D) (val64 (dadd p d)) := by
  refine ⟨dadd_int hp.1 hd.1 (by omega), ?_⟩
  obtain ⟨c, q, e⟩ := hp.fin
  obtain ⟨c', q', e'⟩ := hd.fin
  rw [val64_dadd, e, e']
  show sgn (roundRatio b64 (sumSign false false (sumUnits false c q false c' q' (min q q'))) _ 1 _) = false
  rw [sgn_roundRatio]
  unfold sumSign sumUnits signed
  simp; omega
theorem own_dmul_V {P D : Nat} {p d : UInt64} (hp : own_V P (val64 p)) (hd : own_V D (val64 d)) (h : P * D ≤ 2 ^ 53) : own_V (P * D) (val64 (dmul p d)) := by
  refine ⟨?_, ?_⟩
  · rw [Int.natCast_mul]
    exact dmul_int hp.1 hd.1 (by rw [← Int.natCast_mul, Int.natAbs_natCast]; exact h)
  · obtain ⟨c, q, e⟩ := hp.fin
    obtain ⟨c', q', e'⟩ := hd.fin
    rw [val64_dmul, e, e']
    show sgn (roundRatio b64 (false != false) _ 1 _) = false
    rw [sgn_roundRatio]; rfl
theorem own_fmul_V {P D : Nat} {p d : UInt32} (hp : own_V P (val32 p)) (hd : own_V D (val32 d)) (h : P * D ≤ 2 ^ 24) : own_V (P * D) (val32 (fmul p d)) := by
  refine ⟨?_, ?_⟩
  · rw [Int.natCast_mul]
    exact fmul_int hp.1 hd.1 (by rw [← Int.natCast_mul, Int.natAbs_natCast]; exact h)
  · obtain ⟨c, q, e⟩ := hp.fin
    obtain ⟨c', q', e'⟩ := hd.fin
    rw [val32_fmul, e, e']
    show sgn (roundRatio b32 (false != false) _ 1 _) = false
    rw [sgn_roundRatio]; rfl
theorem own_nn64 {a : UInt64} (h : val64 a ≠ .nan) : Jvm.Free.Fl.NoNaN64 a := Jvm.Free.Fl.noNaN64_no.mpr ((notNaN_iff a).mpr h)
theorem own_nn32 {a : UInt32} (h : val32 a ≠ .nan) : Jvm.Free.Fl.NoNaN32 a := Jvm.Free.Fl.noNaN32_no.mpr ((notNaN_iff32 a).mpr h)
theorem own_V.nn {P : Nat} {d : Datum} (h : own_V P d) : d ≠ .nan := h.1.ne_nan
/-- comparisons -/
theorem own_cmp_ge {r : Option Ordering} {op : Jvm.ClassFile.CmpOp} (h : r = some .gt ∨ r = some .eq) : ¬ Jvm.Op.cmpValue r op < (0 : Int32) := by
  rcases h with rfl | rfl <;> simp [Jvm.Op.cmpValue]
theorem own_cmp_le {r : Option Ordering} {op : Jvm.ClassFile.CmpOp} (h : r = some .lt ∨ r = some .eq) : ¬ (0 : Int32) < Jvm.Op.cmpValue r op := by
  rcases h with rfl | rfl <;> simp [Jvm.Op.cmpValue] <;> decide
theorem own_cmp_gt {r : Option Ordering} {op : Jvm.ClassFile.CmpOp} (h : r = some .gt) : (0 : Int32) < Jvm.Op.cmpValue r op := by
  subst h; simp [Jvm.Op.cmpValue]
theorem own_cmp_eq {r : Option Ordering} {op : Jvm.ClassFile.CmpOp} (h : r = some .eq) : Jvm.Op.cmpValue r op = (0 : Int32) := by
  subst h; rfl
theorem own_le32 {a b : UInt32} (na : val32 a ≠ .nan) (nb : val32 b ≠ .nan) (sa : sgn (val32 a) = false) (sb : sgn (val32 b) = false) (h : zmag b32 (val32 a) ≤ zmag b32 (val32 b)) : ¬ (0 : Int32) < Jvm.Op.cmpValue (FP.fcmp a b) .g := by
  refine own_cmp_le (fcmp_le.mpr ⟨na, nb, ?_⟩)
  unfold zval signed
  rw [sa, sb]
  simp
  exact h
/-- the score: own_ok says that its branches are taken as they should and that no step comes to a NaN -/
def own_sc (b : UInt32) (p d : UInt64) : UInt32 := FP.d2f (FP.dmul (FP.f2d b) (FP.ddiv p (FP.dadd p d)))
def own_ok (b : UInt32) (p d : UInt64) : Prop :=
  (¬ Jvm.Op.cmpValue (FP.fcmp b FP.fconst0) .l < (0 : Int32)) ∧ (¬ (0 : Int32) < Jvm.Op.cmpValue (FP.fcmp b 2139095039) .g) ∧
  ((0 : Int32) < Jvm.Op.cmpValue (FP.dcmp p FP.dconst0) .l) ∧ (¬ (0 : Int32) < Jvm.Op.cmpValue (FP.dcmp p 9218868437227405311) .g) ∧
  (¬ Jvm.Op.cmpValue (FP.dcmp d FP.dconst0) .l < (0 : Int32)) ∧
  Jvm.Free.Fl.NoNaN64 (FP.dadd p d) ∧ Jvm.Free.Fl.NoNaN64 (FP.ddiv p (FP.dadd p d)) ∧ Jvm.Free.Fl.NoNaN64 (FP.f2d b) ∧
  Jvm.Free.Fl.NoNaN64 (FP.dmul (FP.f2d b) (FP.ddiv p (FP.dadd p d))) ∧ Jvm.Free.Fl.NoNaN32 (own_sc b p d)
theorem own_f0 : FInt 0 fconst0 := by unfold FInt; rw [val32_fconst0]; unfold Whole; decide
theorem own_d0 : DInt 0 dconst0 := by unfold DInt; rw [val64_dconst0]; unfold Whole; decide +kernel
theorem own_fmax : FInt (((2 ^ 24 - 1) * 2 ^ 104 : Nat) : Int) 2139095039 := by
  have : val32 2139095039 = .fin false 16777215 104 := by decide +kernel
  unfold FInt; rw [this]; unfold Whole; decide +kernel
theorem own_dmax : DInt (((2 ^ 53 - 1) * 2 ^ 971 : Nat) : Int) 9218868437227405311 := by
  have : val64 9218868437227405311 = .fin false 9007199254740991 971 := by decide +kernel
  unfold DInt; rw [this]; unfold Whole; decide +kernel
theorem own_cge {i j : Int} (h : j ≤ i) : some (compare i j) = some Ordering.gt ∨ some (compare i j) = some Ordering.eq := by
  rw [Option.some.injEq, Option.some.injEq, compare_gt_iff, compare_eq_iff]; omega
theorem own_cle {i j : Int} (h : i ≤ j) : some (compare i j) = some Ordering.lt ∨ some (compare i j) = some Ordering.eq := by
  rw [Option.some.injEq, Option.some.injEq, compare_lt_iff, compare_eq_iff]; omega
theorem own_br_b {Bo : Nat} {b : UInt32} (hb : own_V Bo (val32 b)) (h : Bo ≤ 2 ^ 30) : (¬ Jvm.Op.cmpValue (FP.fcmp b FP.fconst0) .l < (0 : Int32)) ∧ (¬ (0 : Int32) < Jvm.Op.cmpValue (FP.fcmp b 2139095039) .g) := by
  have e1 : FP.fcmp b FP.fconst0 = some (compare (Bo : Int) 0) := fcmp_int hb.1 own_f0
  have e2 : FP.fcmp b 2139095039 = some (compare (Bo : Int) (((2 ^ 24 - 1) * 2 ^ 104 : Nat) : Int)) := fcmp_int hb.1 own_fmax
  rw [e1, e2]
  exact ⟨own_cmp_ge (own_cge (by omega)), own_cmp_le (own_cle (by
    have : Bo ≤ (2 ^ 24 - 1) * 2 ^ 104 := Nat.le_trans h (by decide)
    exact Int.ofNat_le.mpr this))⟩
theorem own_br_p {P : Nat} {p : UInt64} (hp : own_V P (val64 p)) (h0 : 0 < P) (h : P ≤ 2 ^ 53) : ((0 : Int32) < Jvm.Op.cmpValue (FP.dcmp p FP.dconst0) .l) ∧ (¬ (0 : Int32) < Jvm.Op.cmpValue (FP.dcmp p 9218868437227405311) .g) := by
  have e1 : FP.dcmp p FP.dconst0 = some (compare (P : Int) 0) := dcmp_int hp.1 own_d0
  have e2 : FP.dcmp p 9218868437227405311 = some (compare (P : Int) (((2 ^ 53 - 1) * 2 ^ 971 : Nat) : Int)) := dcmp_int hp.1 own_dmax
  rw [e1, e2]
  refine ⟨own_cmp_gt ?_, own_cmp_le (own_cle ?_)⟩
  · rw [Option.some.injEq, compare_gt_iff]; omega
  · have : P ≤ (2 ^ 53 - 1) * 2 ^ 971 := Nat.le_trans h (by decide +kernel)
    exact Int.ofNat_le.mpr this
theorem own_br_d {D : Nat} {d : UInt64} (hd : own_V D (val64 d)) : ¬ Jvm.Op.cmpValue (FP.dcmp d FP.dconst0) .l < (0 : Int32) := by
  have e1 : FP.dcmp d FP.dconst0 = some (compare (D : Int) 0) := dcmp_int hd.1 own_d0
  rw [e1]
  exact own_cmp_ge (own_cge (by omega))
theorem own_f2d_V {Bo : Nat} {b : UInt32} (hb : own_V Bo (val32 b)) (h : Bo ≤ 2 ^ 30) : own_W Bo (val64 (f2d b)) ∧ FP.f2d b = f2d b := by
  refine ⟨own_f2d_W hb.1 hb.2 (by omega), FP.f2d_core ?_⟩
  exact (notNaN_iff32 b).mpr hb.nn
theorem own_W.nn {P : Nat} {d : Datum} (h : own_W P d) : d ≠ .nan := by
  obtain ⟨c, q, e, -⟩ := h
  rw [e]; exact Datum.noConfusion
/-- where all are whole -/
theorem own_okV {Bo P D : Nat} {b : UInt32} {p d : UInt64} (hb : own_V Bo (val32 b)) (hBo : Bo ≤ 2 ^ 30) (hp : own_V P (val64 p)) (h0 : 0 < P) (hd : own_V D (val64 d)) (h : P + D ≤ 2 ^ 53) :
    own_ok b p d ∧ own_W (P + D) (val64 (dadd p d)) ∧ own_sc b p d = d2f (dmul (f2d b) (ddiv p (dadd p d))) ∧ val32 (own_sc b p d) ≠ .nan ∧ sgn (val32 (own_sc b p d)) = false := by
  have hs := own_dadd_V hp hd h
  obtain ⟨wb, eb⟩ := own_f2d_V hb hBo
  obtain ⟨c, q, c2, q2, e1, f1, l1, e2, f2, l2, v1, v2, r⟩ := own_score wb hp.W hs.W (by omega) (by omega) hBo
  have n2 : val64 (dmul (f2d b) (ddiv p (dadd p d))) ≠ .nan := by rw [v2]; exact Datum.noConfusion
  have es : own_sc b p d = d2f (dmul (f2d b) (ddiv p (dadd p d))) := by
    unfold own_sc
    rw [eb]
    exact FP.d2f_core ((notNaN_iff _).mpr n2)
  have n3 : val32 (own_sc b p d) ≠ .nan := by
    rw [es, r]
    rcases roundRatio_cases b32 false c2 1 q2 with ⟨c', q', hV⟩ | hV <;> rw [hV] <;> exact Datum.noConfusion
  refine ⟨⟨(own_br_b hb hBo).1, (own_br_b hb hBo).2, (own_br_p hp h0 (by omega)).1, (own_br_p hp h0 (by omega)).2, own_br_d hd, own_nn64 hs.nn, own_nn64 ?_, ?_, ?_, own_nn32 n3⟩, hs.W, es, n3, ?_⟩
  · show val64 (ddiv p (dadd p d)) ≠ .nan
    rw [v1]; exact Datum.noConfusion
  · rw [eb]; exact own_nn64 wb.nn
  · rw [eb]; exact own_nn64 n2
  · rw [es, r, sgn_roundRatio]
/-- the numbers of the law -/
theorem own_vb (x : Int32) : ∃ B, own_V B (val32 (FP.i2f (x &&& (1048575 : Int32)))) ∧ B ≤ 2 ^ 20 := by
  have h := Jvm.RoadKit.c_and x 1048575 (by decide)
  refine ⟨(x &&& (1048575 : Int32)).toInt.toNat, own_i2f_V h.1 (by have := h.2; simp at this; omega), ?_⟩
  have := h.2
  simp at this
  omega
theorem own_vp (x : Int32) : ∃ P, own_V P (val64 (FP.i2d ((x &&& (1048575 : Int32)) + (1 : Int32)))) ∧ 0 < P ∧ P ≤ 2 ^ 20 := by
  have h := Jvm.RoadKit.c_and x 1048575 (by decide)
  have h2 : (x &&& (1048575 : Int32)).toInt ≤ 1048575 := by have := h.2; simpa using this
  have e : ((x &&& (1048575 : Int32)) + (1 : Int32)).toInt = (x &&& (1048575 : Int32)).toInt + 1 := by
    rw [Int32.toInt_add]
    have : (1 : Int32).toInt = 1 := by decide
    rw [this]
    exact Int.bmod_eq_of_le (by have := h.1; omega) (by omega)
  refine ⟨((x &&& (1048575 : Int32)) + (1 : Int32)).toInt.toNat, own_i2d_V (by have := h.1; omega), ?_, ?_⟩ <;> (have := h.1; omega)
theorem own_vd (x : Int32) : ∃ D, own_V D (val64 (FP.i2d (x &&& (16777215 : Int32)))) ∧ D ≤ 2 ^ 24 := by
  have h := Jvm.RoadKit.c_and x 16777215 (by decide)
  have h2 : (x &&& (16777215 : Int32)).toInt ≤ 16777215 := by have := h.2; simpa using this
  exact ⟨(x &&& (16777215 : Int32)).toInt.toNat, own_i2d_V h.1, by have := h.1; omega⟩
theorem own_v0 : own_V 0 (val64 FP.dconst0) := ⟨own_d0, by show sgn (val64 dconst0) = false; rw [val64_dconst0]; rfl⟩
theorem own_c3 : own_V 3 (val64 4613937818241073152) := by
  have : val64 4613937818241073152 = .fin false 6755399441055744 (-51) := by decide +kernel
  rw [this]; exact ⟨by unfold Whole; decide +kernel, rfl⟩
theorem own_c1024 : own_V 1024 (val64 4652218415073722368) := by
  have : val64 4652218415073722368 = .fin false 4503599627370496 (-42) := by decide +kernel
  rw [this]; exact ⟨by unfold Whole; decide +kernel, rfl⟩
theorem own_c2 : own_V 2 (val32 FP.fconst2) := by
  have : val32 FP.fconst2 = .fin false 8388608 (-22) := by decide +kernel
  rw [this]; exact ⟨by unfold Whole; decide +kernel, rfl⟩
/-- the same float compares as equal -/
theorem own_same {a b : UInt32} (h : val32 a ≠ .nan) (e : val32 a = val32 b) : Jvm.Op.cmpValue (FP.fcmp a b) .l = (0 : Int32) :=
  own_cmp_eq (fcmp_eq.mpr ⟨h, e ▸ h, by rw [e]⟩)
section Modes
variable {Bo P D E : Nat} {b : UInt32} {p d x : UInt64}
theorem own_m0 (hb : own_V Bo (val32 b)) (hBo : Bo ≤ 2 ^ 20) (hp : own_V P (val64 p)) (h0 : 0 < P) (hP : P ≤ 2 ^ 20) : own_ok b p FP.dconst0 ∧ Jvm.Op.cmpValue (FP.fcmp (own_sc b p FP.dconst0) b) .l = (0 : Int32) := by
  obtain ⟨ok, ws, es, ns, sg⟩ := own_okV hb (by omega) hp h0 own_v0 (by omega)
  refine ⟨ok, own_same ns ?_⟩
  have k := own_ddiv_pow hp.W ws h0 1 (by decide) (by omega) (k := 4607182418800017408) (by decide +kernel) (by decide +kernel)
  rw [es, show FP.dconst0 = dconst0 from rfl] at *
  rw [k, own_scale (own_f2d_V hb (by omega)).1 (by omega) 0 (by decide) (by decide +kernel)]
  exact (own_self32 hb.W).symm
theorem own_m1 (hb : own_V Bo (val32 b)) (hBo : Bo ≤ 2 ^ 20) (hp : own_V P (val64 p)) (h0 : 0 < P) (hP : P ≤ 2 ^ 20) : own_ok b p p ∧ Jvm.Free.Fl.NoNaN32 (FP.fmul b 1056964608) ∧ Jvm.Op.cmpValue (FP.fcmp (own_sc b p p) (FP.fmul b 1056964608)) .l = (0 : Int32) := by
  obtain ⟨ok, ws, es, ns, sg⟩ := own_okV hb (by omega) hp h0 hp (by omega)
  have e : val32 (own_sc b p p) = val32 (FP.fmul b 1056964608) := by
    have k := own_ddiv_pow hp.W ws h0 2 (by decide) (by omega) (k := 4602678819172646912) (by decide +kernel) (by decide +kernel)
    rw [es, k, own_scale (own_f2d_V hb (by omega)).1 (by omega) 1 (by decide) (by decide +kernel)]
    exact (own_fmulp hb.W 1 (by decide +kernel)).symm
  exact ⟨ok, own_nn32 (e ▸ ns), own_same ns e⟩
theorem own_m2 (hb : own_V Bo (val32 b)) (hBo : Bo ≤ 2 ^ 20) (hp : own_V P (val64 p)) (h0 : 0 < P) (hP : P ≤ 2 ^ 20) : Jvm.Free.Fl.NoNaN64 (FP.dmul 4613937818241073152 p) ∧ own_ok b p (FP.dmul 4613937818241073152 p) ∧ Jvm.Free.Fl.NoNaN32 (FP.fmul b 1048576000) ∧ Jvm.Op.cmpValue (FP.fcmp (own_sc b p (FP.dmul 4613937818241073152 p)) (FP.fmul b 1048576000)) .l = (0 : Int32) := by
  have h3 : own_V (3 * P) (val64 (FP.dmul 4613937818241073152 p)) := own_dmul_V own_c3 hp (by omega)
  obtain ⟨ok, ws, es, ns, sg⟩ := own_okV hb (by omega) hp h0 h3 (by omega)
  have e : val32 (own_sc b p (FP.dmul 4613937818241073152 p)) = val32 (FP.fmul b 1048576000) := by
    have k := own_ddiv_pow hp.W ws h0 4 (by decide) (by omega) (k := 4598175219545276416) (by decide +kernel) (by decide +kernel)
    rw [es, k, own_scale (own_f2d_V hb (by omega)).1 (by omega) 2 (by decide) (by decide +kernel)]
    exact (own_fmulp hb.W 2 (by decide +kernel)).symm
  exact ⟨own_nn64 h3.nn, ok, own_nn32 (e ▸ ns), own_same ns e⟩
theorem own_zero_le {a : UInt32} (na : val32 a ≠ .nan) (sa : sgn (val32 a) = false) : ¬ (0 : Int32) < Jvm.Op.cmpValue (FP.fcmp FP.fconst0 a) .g := by
  have e : val32 FP.fconst0 = .fin false 0 b32.qmin := val32_fconst0
  refine own_le32 (by rw [e]; exact Datum.noConfusion) na (by rw [e]; rfl) sa ?_
  rw [e]
  show inUnits 0 _ _ ≤ _
  unfold inUnits
  omega
theorem own_m4 (hb : own_V Bo (val32 b)) (hBo : Bo ≤ 2 ^ 20) (hp : own_V P (val64 p)) (h0 : 0 < P) (hP : P ≤ 2 ^ 20) (hd : own_V D (val64 d)) (hD : D ≤ 2 ^ 24) (hx : own_V E (val64 x)) (hE : E ≤ 2 ^ 24) :
    own_ok b p d ∧ Jvm.Free.Fl.NoNaN64 (FP.dadd d x) ∧ own_ok b p (FP.dadd d x) ∧ (¬ (0 : Int32) < Jvm.Op.cmpValue (FP.fcmp FP.fconst0 (own_sc b p (FP.dadd d x))) .g) ∧ (¬ (0 : Int32) < Jvm.Op.cmpValue (FP.fcmp (own_sc b p (FP.dadd d x)) (own_sc b p d)) .g) ∧ (¬ (0 : Int32) < Jvm.Op.cmpValue (FP.fcmp (own_sc b p d) b) .g) := by
  have hs : own_V (D + E) (val64 (FP.dadd d x)) := own_dadd_V hd hx (by omega)
  obtain ⟨ok, ws, es, ns, sg⟩ := own_okV hb (by omega) hp h0 hd (by omega)
  obtain ⟨ok', ws', es', ns', sg'⟩ := own_okV hb (by omega) hp h0 hs (by omega)
  have wb := (own_f2d_V hb (by omega)).1
  refine ⟨ok, own_nn64 hs.nn, ok', own_zero_le ns' sg', own_le32 ns' ns sg' sg ?_, own_le32 ns hb.nn sg hb.2 ?_⟩
  · rw [es, es']
    exact own_score_mono wb hp.W ws' (by omega) (by omega) hp.W ws (by omega) (by omega) (by omega) (Nat.mul_le_mul_left _ (by omega))
  · rw [es]
    exact own_score_top hb.W wb hp.W ws (by omega) (by omega) (by omega)
theorem own_m6 (hb : own_V Bo (val32 b)) (hBo : Bo ≤ 2 ^ 20) (hp : own_V P (val64 p)) (h0 : 0 < P) (hP : P ≤ 2 ^ 20) (hd : own_V D (val64 d)) (hD : D ≤ 2 ^ 24) (hx : own_V E (val64 x)) (hE : E ≤ 2 ^ 24) :
    own_ok b p d ∧ Jvm.Free.Fl.NoNaN64 (FP.dadd p x) ∧ own_ok b (FP.dadd p x) d ∧ (¬ (0 : Int32) < Jvm.Op.cmpValue (FP.fcmp FP.fconst0 (own_sc b p d)) .g) ∧ (¬ (0 : Int32) < Jvm.Op.cmpValue (FP.fcmp (own_sc b p d) (own_sc b (FP.dadd p x) d)) .g) ∧ (¬ (0 : Int32) < Jvm.Op.cmpValue (FP.fcmp (own_sc b (FP.dadd p x) d) b) .g) := by
  have hs : own_V (P + E) (val64 (FP.dadd p x)) := own_dadd_V hp hx (by omega)
  obtain ⟨ok, ws, es, ns, sg⟩ := own_okV hb (by omega) hp h0 hd (by omega)
  obtain ⟨ok', ws', es', ns', sg'⟩ := own_okV hb (by omega) hs (by omega) hd (by omega)
  have wb := (own_f2d_V hb (by omega)).1
  refine ⟨ok, own_nn64 hs.nn, ok', own_zero_le ns sg, own_le32 ns ns' sg sg' ?_, own_le32 ns' hb.nn sg' hb.2 ?_⟩
  · rw [es, es']
    refine own_score_mono wb hp.W ws (by omega) (by omega) hs.W ws' (by omega) (by omega) (by omega) ?_
    have : P * (P + E + D) + E * D = (P + E) * (P + D) := by
      rw [Nat.mul_add, Nat.mul_add, Nat.add_mul, Nat.mul_add, Nat.mul_add]
      have : P * E = E * P := Nat.mul_comm ..
      omega
    omega
  · rw [es']
    exact own_score_top hb.W wb hs.W ws' (by omega) (by omega) (by omega)
theorem own_m5 (hb : own_V Bo (val32 b)) (hBo : Bo ≤ 2 ^ 20) (hp : own_V P (val64 p)) (h0 : 0 < P) (hP : P ≤ 2 ^ 20) (hd : own_V D (val64 d)) (hD : D ≤ 2 ^ 24) :
    own_ok b p d ∧ Jvm.Free.Fl.NoNaN64 (FP.dmul p 4652218415073722368) ∧ Jvm.Free.Fl.NoNaN64 (FP.dmul d 4652218415073722368) ∧ own_ok b (FP.dmul p 4652218415073722368) (FP.dmul d 4652218415073722368) ∧ Jvm.Op.cmpValue (FP.fcmp (own_sc b p d) (own_sc b (FP.dmul p 4652218415073722368) (FP.dmul d 4652218415073722368))) .l = (0 : Int32) := by
  have hp' : own_V (P * 1024) (val64 (FP.dmul p 4652218415073722368)) := own_dmul_V hp own_c1024 (by omega)
  have hd' : own_V (D * 1024) (val64 (FP.dmul d 4652218415073722368)) := own_dmul_V hd own_c1024 (by omega)
  obtain ⟨ok, ws, es, ns, sg⟩ := own_okV hb (by omega) hp h0 hd (by omega)
  obtain ⟨ok', ws', es', ns', sg'⟩ := own_okV hb (by omega) hp' (by omega) hd' (by omega)
  refine ⟨ok, own_nn64 hp'.nn, own_nn64 hd'.nn, ok', own_same ns ?_⟩
  have k := own_ddiv_same hp.W ws (by omega) (by omega) hp'.W ws' (by omega) (by rw [← Nat.add_mul, ← Nat.mul_assoc, Nat.mul_right_comm])
  rw [es, es', k]
end Modes
section Far
variable {Bo P : Nat} {b : UInt32} {p far : UInt64}
theorem own_fin0 {a : UInt32} (h : val32 a = .fin false 0 b32.qmin) : Jvm.Op.cmpValue (FP.fcmp a FP.fconst0) .l = (0 : Int32) :=
  own_same (by rw [h]; exact Datum.noConfusion) (h.trans (show val32 fconst0 = _ from val32_fconst0).symm)
theorem own_okfar (hb : own_V Bo (val32 b)) (hBo : Bo ≤ 2 ^ 20) (hp : own_V P (val64 p)) (h0 : 0 < P) (hP : P ≤ 2 ^ 20) (hf : ¬ Jvm.Op.cmpValue (FP.dcmp far FP.dconst0) .l < (0 : Int32))
    (n1 : val64 (dadd p far) ≠ .nan) (n2 : val64 (ddiv p (dadd p far)) ≠ .nan) (n3 : val64 (dmul (f2d b) (ddiv p (dadd p far))) ≠ .nan) : own_ok b p far ∧ own_sc b p far = d2f (dmul (f2d b) (ddiv p (dadd p far))) := by
  obtain ⟨wb, eb⟩ := own_f2d_V hb (by omega)
  have es : own_sc b p far = d2f (dmul (f2d b) (ddiv p (dadd p far))) := by
    unfold own_sc
    rw [eb]
    exact FP.d2f_core ((notNaN_iff _).mpr n3)
  refine ⟨⟨(own_br_b hb (by omega)).1, (own_br_b hb (by omega)).2, (own_br_p hp h0 (by omega)).1, (own_br_p hp h0 (by omega)).2, hf, own_nn64 n1, own_nn64 n2, ?_, ?_, ?_⟩, es⟩
  · rw [eb]; exact own_nn64 wb.nn
  · rw [eb]; exact own_nn64 n3
  · rw [es]
    exact Jvm.Free.Fl.noNaN32_no.mpr (d2f_out ((notNaN_iff _).mpr n3))
/-- the sum is an infinity -/
theorem own_far_inf (hb : own_V Bo (val32 b)) (hBo : Bo ≤ 2 ^ 20) (hp : own_V P (val64 p)) (h0 : 0 < P) (hP : P ≤ 2 ^ 20) (hf : ¬ Jvm.Op.cmpValue (FP.dcmp far FP.dconst0) .l < (0 : Int32))
    (hs : val64 (dadd p far) = .inf false) : own_ok b p far ∧ Jvm.Op.cmpValue (FP.fcmp (own_sc b p far) FP.fconst0) .l = (0 : Int32) := by
  obtain ⟨c, q, e⟩ := hp.fin
  obtain ⟨cb, qb, ew, -⟩ := (own_f2d_V hb (by omega)).1
  have v1 : val64 (ddiv p (dadd p far)) = .fin false 0 b64.qmin := by rw [val64_ddiv, e, hs]; rfl
  have v2 : val64 (dmul (f2d b) (ddiv p (dadd p far))) = .fin false 0 b64.qmin := by
    rw [val64_dmul, ew, v1]
    show roundRatio b64 (false != false) (cb * 0) 1 _ = _
    unfold roundRatio
    rw [if_pos (Nat.mul_zero _)]; rfl
  obtain ⟨ok, es⟩ := own_okfar hb hBo hp h0 hP hf (by rw [hs]; exact Datum.noConfusion) (by rw [v1]; exact Datum.noConfusion) (by rw [v2]; exact Datum.noConfusion)
  refine ⟨ok, own_fin0 ?_⟩
  rw [es, own_d2f v2]
  unfold roundRatio
  rw [if_pos rfl]
/-- the sum is a great number -/
theorem own_far_big {S : Nat} (hb : own_V Bo (val32 b)) (hBo : Bo ≤ 2 ^ 20) (hp : own_V P (val64 p)) (h0 : 0 < P) (hP : P ≤ 2 ^ 20) (hf : ¬ Jvm.Op.cmpValue (FP.dcmp far FP.dconst0) .l < (0 : Int32))
    (hs : own_W S (val64 (dadd p far))) (hS : 2 ^ 1020 ≤ S) : own_ok b p far ∧ Jvm.Op.cmpValue (FP.fcmp (own_sc b p far) FP.fconst0) .l = (0 : Int32) := by
  have wb := (own_f2d_V hb (by omega)).1
  have hPS : P * 2 ^ 1000 ≤ S := Nat.le_trans (Nat.mul_le_mul_right _ hP) (by rw [← Nat.pow_add]; exact hS)
  have hS0 : 0 < S := Nat.lt_of_lt_of_le (Nat.mul_pos h0 (Nat.two_pow_pos _)) hPS
  have hPS1 : P ≤ S := Nat.le_trans (Nat.le_mul_of_pos_right P (Nat.two_pow_pos 1000)) hPS
  obtain ⟨c, q, c2, q2, e1, f1, l1, e2, f2, l2, v1, v2, r⟩ := own_score wb hp.W hs hS0 hPS1 (by omega)
  obtain ⟨ok, es⟩ := own_okfar hb hBo hp h0 hP hf hs.nn (by rw [v1]; exact Datum.noConfusion) (by rw [v2]; exact Datum.noConfusion)
  refine ⟨ok, own_fin0 ?_⟩
  rw [es, r]
  have hq : b64.qmin = -1074 := by decide
  have h32 : b32.qmin = -149 := by decide
  have t1 : val64 0x0170000000000000 = .fin false 4503599627370496 (-1052) := by decide +kernel
  have g1 : FP.Core.fits b64 (.fin false 4503599627370496 (-1052)) := t1 ▸ val64_fits _
  have z1 : zmag b64 (.fin false 4503599627370496 (-1052)) = 2 ^ 74 := by decide +kernel
  have m1 := zmag_roundRatio_le good_b64 (s := false) (A := P) (B := S) (e := 0) (e0 := b64.qmin) hS0 g1 (fun h => by cases h) (Int.le_refl _) (by rw [hq]; decide) (by
    rw [z1]
    unfold inUnits
    rw [show (0 - b64.qmin).toNat = 1000 + 74 by decide, show (b64.qmin - b64.qmin).toNat = 0 by decide, Nat.pow_add, Nat.pow_zero, Nat.mul_one, ← Nat.mul_assoc, Nat.mul_comm (2 ^ 74) S]
    exact Nat.mul_le_mul_right _ hPS)
  rw [z1, e1] at m1
  have m1 : inUnits c q b64.qmin ≤ 2 ^ 74 := m1
  have t2 : val64 0x02b0000000000000 = .fin false 4503599627370496 (-1032) := by decide +kernel
  have g2 : FP.Core.fits b64 (.fin false 4503599627370496 (-1032)) := t2 ▸ val64_fits _
  have z2 : zmag b64 (.fin false 4503599627370496 (-1032)) = 2 ^ 94 := by decide +kernel
  have m2 := zmag_roundRatio_le good_b64 (s := false) (A := Bo * c) (B := 1) (e := q) (e0 := b64.qmin) (by decide) g2 (fun h => by cases h) (Int.le_refl _) f1.2.1 (by
    rw [z2, show (b64.qmin - b64.qmin).toNat = 0 by decide]
    have : inUnits (Bo * c) q b64.qmin = Bo * inUnits c q b64.qmin := by unfold inUnits; rw [Nat.mul_assoc]
    rw [this]
    exact Nat.le_trans (Nat.mul_le_mul hBo m1) (by decide))
  rw [z2, e2] at m2
  have m2 : inUnits c2 q2 b64.qmin ≤ 2 ^ 94 := m2
  refine roundRatio_small good_b32 (e0 := b64.qmin) (by decide) (by rw [hq, h32]; decide) f2.2.1 ?_
  rw [show (b32.qmin - b64.qmin).toNat = 925 by decide]
  exact Nat.le_trans (Nat.mul_le_mul_left 2 m2) (by decide +kernel)
theorem own_dge {d : UInt64} (h : FP.dcmp d FP.dconst0 = some .gt) : ¬ Jvm.Op.cmpValue (FP.dcmp d FP.dconst0) .l < (0 : Int32) := own_cmp_ge (.inl h)
theorem own_m3i (hb : own_V Bo (val32 b)) (hBo : Bo ≤ 2 ^ 20) (hp : own_V P (val64 p)) (h0 : 0 < P) (hP : P ≤ 2 ^ 20) : own_ok b p 9218868437227405312 ∧ Jvm.Op.cmpValue (FP.fcmp (own_sc b p 9218868437227405312) FP.fconst0) .l = (0 : Int32) := by
  refine own_far_inf hb hBo hp h0 hP (own_dge (by decide +kernel)) ?_
  obtain ⟨c, q, e⟩ := hp.fin
  have : val64 9218868437227405312 = .inf false := by decide +kernel
  rw [val64_dadd, e, this]; rfl
theorem own_m3m (hb : own_V Bo (val32 b)) (hBo : Bo ≤ 2 ^ 20) (hp : own_V P (val64 p)) (h0 : 0 < P) (hP : P ≤ 2 ^ 20) : own_ok b p 9218868437227405311 ∧ Jvm.Op.cmpValue (FP.fcmp (own_sc b p 9218868437227405311) FP.fconst0) .l = (0 : Int32) := by
  have hf := own_dge (d := 9218868437227405311) (by decide +kernel)
  obtain ⟨c, q, e⟩ := hp.fin
  have hm : val64 9218868437227405311 = .fin false 9007199254740991 971 := by decide +kernel
  have g1 : FP.Core.fits b64 (.fin false 9007199254740991 971) := hm ▸ val64_fits _
  have gp := val64_fits p
  rw [e] at gp
  have hq : b64.qmin = -1074 := by decide
  have gq := gp.2.1
  -- the exact sum
  have hmin : b64.qmin ≤ min q 971 := by rw [hq] at *; omega
  have hA : (sumUnits false c q false 9007199254740991 971 (min q 971)).natAbs = inUnits c q (min q 971) + inUnits 9007199254740991 971 (min q 971) := by
    unfold sumUnits signed
    simp
    omega
  have hsg : sumSign false false (sumUnits false c q false 9007199254740991 971 (min q 971)) = false := by
    unfold sumSign sumUnits signed
    simp; omega
  have hv : val64 (dadd p 9218868437227405311) = roundRatio b64 false (inUnits c q (min q 971) + inUnits 9007199254740991 971 (min q 971)) 1 (min q 971) := by
    rw [val64_dadd, e, hm]
    show roundRatio b64 (sumSign false false (sumUnits false c q false 9007199254740991 971 (min q 971))) _ 1 _ = _
    rw [hsg, hA]
  have ge := zmag_roundRatio_ge good_b64 (s := false) (A := inUnits c q (min q 971) + inUnits 9007199254740991 971 (min q 971)) (B := 1) (e := min q 971) (e0 := b64.qmin) (by decide) g1 (Int.le_refl _) hmin (by
    rw [show (b64.qmin - b64.qmin).toNat = 0 by decide, Nat.pow_zero, Nat.mul_one, Nat.mul_one]
    show inUnits 9007199254740991 971 b64.qmin ≤ _
    rw [inUnits_move 9007199254740991 hmin (Int.min_le_right ..)]
    show _ ≤ (_ + _) * 2 ^ _
    exact Nat.mul_le_mul_right _ (Nat.le_add_left ..))
  rw [← hv] at ge
  have gs := val64_fits (dadd p 9218868437227405311)
  rcases roundRatio_cases b64 false (inUnits c q (min q 971) + inUnits 9007199254740991 971 (min q 971)) 1 (min q 971) with ⟨c', q', hV⟩ | hV
  · rw [← hv] at hV
    rw [hV] at ge gs
    have ge : inUnits 9007199254740991 971 b64.qmin ≤ inUnits c' q' b64.qmin := ge
    have k1 : 2 ^ 2094 ≤ inUnits 9007199254740991 971 b64.qmin := by decide +kernel
    have k2 : 2 ^ 2094 ≤ c' * 2 ^ (q' - b64.qmin).toNat := Nat.le_trans k1 ge
    have k3 := own_exp gs.1 k2 (by decide)
    have k4 : 0 ≤ q' := by rw [hq] at k3; omega
    refine own_far_big (S := c' * 2 ^ q'.toNat) hb hBo hp h0 hP hf ⟨c', q', hV, fun a h1 h2 => ?_⟩ ?_
    · unfold inUnits
      rw [show (q' - a).toNat = q'.toNat + (-a).toNat by omega, Nat.pow_add, Nat.mul_assoc]
    · refine Nat.le_of_mul_le_mul_right (c := 2 ^ 1074) ?_ (Nat.two_pow_pos _)
      rw [← Nat.pow_add, Nat.mul_assoc, ← Nat.pow_add, show q'.toNat + 1074 = (q' - b64.qmin).toNat by rw [hq]; omega]
      exact k2
  · rw [← hv] at hV
    exact own_far_inf hb hBo hp h0 hP hf hV
end Far
section Twice
variable {Bo P D : Nat} {b : UInt32} {p d : UInt64}
theorem own_two {s : UInt32} {c : Nat} {q : Int} (h : val32 s = .fin false c q) : val32 (fmul FP.fconst2 s) = roundRatio b32 false c 1 (q + 1) := by
  have e : val32 FP.fconst2 = .fin false (2 ^ 23) (-22) := by decide +kernel
  rw [val32_fmul, e, h]
  show roundRatio b32 (false != false) (2 ^ 23 * c) 1 (-22 + q) = _
  refine own_congr (-22 + q) (by decide) (by decide) (Int.le_refl _) (by omega) ?_
  unfold inUnits
  rw [show (-22 + q - (-22 + q)).toNat = 0 by omega, show (q + 1 - (-22 + q)).toNat = 23 by omega]
  simp only [Nat.pow_zero, Nat.mul_one]
  exact Nat.mul_comm _ _
theorem own_m7 (hb : own_V Bo (val32 b)) (hBo : Bo ≤ 2 ^ 20) (hp : own_V P (val64 p)) (h0 : 0 < P) (hP : P ≤ 2 ^ 20) (hd : own_V D (val64 d)) (hD : D ≤ 2 ^ 24) :
    own_ok b p d ∧ Jvm.Free.Fl.NoNaN32 (FP.fmul b FP.fconst2) ∧ own_ok (FP.fmul b FP.fconst2) p d ∧ Jvm.Free.Fl.NoNaN32 (FP.fmul FP.fconst2 (own_sc b p d)) ∧ Jvm.Op.cmpValue (FP.fcmp (own_sc (FP.fmul b FP.fconst2) p d) (FP.fmul FP.fconst2 (own_sc b p d))) .l = (0 : Int32) := by
  have hb2 : own_V (Bo * 2) (val32 (FP.fmul b FP.fconst2)) := own_fmul_V hb own_c2 (by omega)
  obtain ⟨ok, ws, es, ns, sg⟩ := own_okV hb (by omega) hp h0 hd (by omega)
  obtain ⟨ok', ws', es', ns', sg'⟩ := own_okV hb2 (by omega) hp h0 hd (by omega)
  suffices e : val32 (own_sc (FP.fmul b FP.fconst2) p d) = val32 (FP.fmul FP.fconst2 (own_sc b p d)) from
    ⟨ok, own_nn32 hb2.nn, ok', own_nn32 (e ▸ ns'), own_same ns' e⟩
  have wb := (own_f2d_V hb (by omega)).1
  have wb2 := (own_f2d_V hb2 (by omega)).1
  have top := own_score_top hb.W wb hp.W ws (by omega) (by omega) (by omega)
  obtain ⟨c, q, c2, q2, e1, f1, l1, e2, f2, l2, v1, v2, r⟩ := own_score wb hp.W ws (by omega) (by omega) (by omega)
  obtain ⟨c', q', c2', q2', e1', f1', l1', e2', f2', l2', v1', v2', r'⟩ := own_score wb2 hp.W ws' (by omega) (by omega) (by omega)
  rw [e1] at e1'
  cases e1'
  have hq : b64.qmin = -1074 := by decide
  have hM : b64.qmax = 971 := by decide
  have hq32 : b32.qmin = -149 := by decide
  have hM32 : b32.qmax = 104 := by decide
  have hp64 : b64.p = 53 := by decide
  have hp32 : b32.p = 24 := by decide
  have dbl : roundRatio b64 false (Bo * 2 * c) 1 q = roundRatio b64 false (Bo * c) 1 (q + 1) := by
    refine own_congr q (by decide) (by decide) (Int.le_refl _) (by omega) ?_
    unfold inUnits
    rw [show (q - q).toNat = 0 by omega, show (q + 1 - q).toNat = 1 by omega, Nat.pow_zero, Nat.mul_one, Nat.pow_one]
    congr 1
    ac_rfl
  rcases Nat.eq_zero_or_pos Bo with hz | hpos
  · subst hz
    have z : ∀ (f : Fmt) (A : Nat) (x : Int), A = 0 → roundRatio f false A 1 x = .fin false 0 f.qmin := fun f A x h => by
      unfold roundRatio; rw [if_pos h]
    rw [z _ _ _ (by simp)] at e2 e2'
    cases e2
    cases e2'
    rw [z _ _ _ rfl] at r r'
    rw [es', r']
    show _ = val32 (fmul FP.fconst2 (own_sc b p d))
    rw [own_two (es ▸ r), z _ _ _ rfl]
  · have big := own_big h0 (by omega) (show P + D ≤ 2 ^ 26 * P by omega) e1
    have x1 := own_exp f1.1 big (by decide)
    have x1 : b64.qmin + ((b64.p : Int) - 1) ≤ q := by rw [hq, hp64] at *; omega
    have hc : 0 < c := by
      rcases Nat.eq_zero_or_pos c with h | h
      · rw [h] at big
        unfold inUnits at big
        rw [Nat.zero_mul] at big
        exact absurd big (Nat.not_le.mpr (Nat.two_pow_pos _))
      · exact h
    have ge2 := zmag_roundRatio_ge good_b64 (s := false) (A := Bo * c) (B := 1) (e := q) (e0 := b64.qmin) (by decide) f1 (Int.le_refl _) f1.2.1 (by
      rw [show (b64.qmin - b64.qmin).toNat = 0 by decide, Nat.pow_zero, Nat.mul_one, Nat.mul_one]
      show inUnits c q b64.qmin ≤ inUnits (Bo * c) q b64.qmin
      have : inUnits (Bo * c) q b64.qmin = Bo * inUnits c q b64.qmin := by unfold inUnits; rw [Nat.mul_assoc]
      rw [this]
      exact Nat.le_mul_of_pos_left _ hpos)
    rw [e2] at ge2
    have ge2 : inUnits c q b64.qmin ≤ inUnits c2 q2 b64.qmin := ge2
    have big2 : 2 ^ 1048 ≤ inUnits c2 q2 b64.qmin := Nat.le_trans big ge2
    have y1 := own_exp f2.1 big2 (by decide)
    have hc2 : 0 < c2 := by
      rcases Nat.eq_zero_or_pos c2 with h | h
      · rw [h] at big2
        unfold inUnits at big2
        rw [Nat.zero_mul] at big2
        exact absurd big2 (Nat.not_le.mpr (Nat.two_pow_pos _))
      · exact h
    have l2' : c2 * 2 ^ (q2 - b64.qmin).toNat ≤ 2 ^ 1094 := Nat.le_trans l2 (by
      rw [show 1094 = 20 + 1074 by decide, Nat.pow_add]
      exact Nat.mul_le_mul_right _ hBo)
    have y2 := own_exp2 hc2 l2'
    have d1 := own_dbl good_b64 (Nat.mul_pos hpos hc) x1 e2 (by rw [hM]; rw [hq] at y2; omega)
    rw [dbl, d1] at e2'
    cases e2'
    -- the score
    have n3 : ∃ c3 q3, roundRatio b32 false c2 1 q2 = .fin false c3 q3 := by
      rcases roundRatio_cases b32 false c2 1 q2 with h | h
      · exact h
      · exfalso
        rw [r, h] at top
        obtain ⟨cb, qb, eb, wbb⟩ := hb.W
        have fb := val32_fits b
        rw [eb] at fb top
        have zb : zmag b32 (.fin false cb qb) = Bo * 2 ^ 149 := by
          have := wbb b32.qmin fb.2.1 (by rw [hq32]; decide)
          rw [show (-b32.qmin).toNat = 149 by decide] at this
          exact this
        rw [zb] at top
        have t : zmag b32 (.inf false) ≤ 2 ^ 20 * 2 ^ 149 := Nat.le_trans top (Nat.mul_le_mul_right _ hBo)
        exact absurd t (by decide +kernel)
    obtain ⟨c3, q3, e3⟩ := n3
    have f3 := val32_fits (d2f (dmul (f2d b) (ddiv p (dadd p d))))
    rw [r, e3] at f3
    have u : q3 + 1 ≤ b32.qmax := by
      rw [hM32]
      rcases Nat.eq_zero_or_pos c3 with h | h
      · subst h
        have := fits_zero_q good_b32 f3
        rw [hq32] at this
        omega
      · rw [r, e3] at top
        obtain ⟨cb, qb, eb, wbb⟩ := hb.W
        have fb := val32_fits b
        rw [eb] at fb top
        have zb : zmag b32 (.fin false cb qb) = Bo * 2 ^ 149 := by
          have := wbb b32.qmin fb.2.1 (by rw [hq32]; decide)
          rw [show (-b32.qmin).toNat = 149 by decide] at this
          exact this
        rw [zb] at top
        have t : c3 * 2 ^ (q3 - b32.qmin).toNat ≤ 2 ^ 169 := Nat.le_trans top (by
          rw [show 169 = 20 + 149 by decide, Nat.pow_add]
          exact Nat.mul_le_mul_right _ hBo)
        have := own_exp2 h t
        rw [hq32] at this
        omega
    have d2 := own_dbl good_b32 hc2 (e := q2) (by rw [hq32, hp32]; rw [hq] at y1; omega) e3 u
    rw [d2] at r'
    have f4 := val32_fits (d2f (dmul (f2d (FP.fmul b FP.fconst2)) (ddiv p (dadd p d))))
    rw [r'] at f4
    rw [es', r']
    show _ = val32 (fmul FP.fconst2 (own_sc b p d))
    rw [own_two (c := c3) (q := q3) (by rw [es, r, e3])]
    exact (round_of_fits good_b32 f4).symm
end Twice
end Mono
end Jvm.Pilot.@@N@@
namespace Jvm.Pilot.@@N@@
open Jvm Jvm.ClassFile Sem Op Lib Jvm.Free Jvm.Stand Jvm.LawKit Jvm.RoadKit Bundle Jvm.Pilot.@@N@@.Jvm.D

section OwnKit
variable {p : Program} {l : Launch} {e : Env} {R : Room} {s : State} {m : MethodId} {args : Array Value} {below : List Frame} {meth : Method} {c : Code} {T : State} {locs : List Loc} {cells slots : Nat}
/-- from A the invocation ends, and what it leaves is Q, within K cells and N slots -/
def OD (p : Program) (e : Env) (s : State) (below : List Frame) (Q : Option Value → Heap → List Loc → Prop) (K N : Nat) (A : State) : Prop :=
  ∃ s₂ o, Steps p.tables e below A s₂ ∧ s₂.status = .running ∧ Ended s₂ below o ∧ ∃ v L, o = .returned v ∧ Q v s₂.heap L ∧ FrameEnd s o s₂ L K N
theorem OD.go {Q : Option Value → Heap → List Loc → Prop} {K N : Nat} {A B : State} (h : ∀ t, Steps p.tables e below B t → Steps p.tables e below A t) (k : OD p e s below Q K N B) : OD p e s below Q K N A := by
  obtain ⟨s₂, o, h1, r⟩ := k
  exact ⟨s₂, o, h _ h1, r⟩
theorem OD.via {Q : Option Value → Heap → List Loc → Prop} {K N : Nat} {A B : State} (h : Steps p.tables e below A B) (k : OD p e s below Q K N B) : OD p e s below Q K N A := OD.go (fun _ q => h.trans q) k
theorem OD.cut {Q : Option Value → Heap → List Loc → Prop} {K N : Nat} {A B : State} (f : OD p e s below Q K N B → OD p e s below Q K N A) (g : OD p e s below Q K N B) : OD p e s below Q K N A := f g
theorem OD.cutA {Q : Option Value → Heap → List Loc → Prop} {K N : Nat} {A : State} {P : State → Prop} {B : State → State} (f : (∀ T, P T → OD p e s below Q K N (B T)) → OD p e s below Q K N A) (g : ∀ T, P T → OD p e s below Q K N (B T)) : OD p e s below Q K N A := f g
theorem OD.cutX {Q : Option Value → Heap → List Loc → Prop} {K N : Nat} {A s' T0 : State} {h : Heap} (X : Stand p l e R s' m args below meth c T0 locs cells slots) {B : State → State} (f : (∀ T, (Stand p l e R s' m args below meth c T locs cells slots ∧ T.heap = h) → OD p e s below Q K N (B T)) → OD p e s below Q K N A) (g : ∀ T, (Stand p l e R s' m args below meth c T locs cells slots ∧ T.heap = h) → OD p e s below Q K N (B T)) : OD p e s below Q K N A := f g
theorem OD.ret {Q : Option Value → Heap → List Loc → Prop} {K N : Nat} (X : Stand p l e R s m args below meth c T locs cells slots) (hx : p.tables.exec = Jvm.exec) (hlk : meth.locks = false) {pc : Nat} {Ls : Array Slot} {w : Value} {t : FieldType} {i : Instr} {rest : List Value} (hret : meth.sig.returnType = some t) (hn : narrow t w = w)
    (hi : (i = .ireturn ∧ (t = .int ∨ t = .boolean ∨ t = .byte ∨ t = .char ∨ t = .short) ∧ ∃ z, w = .int z) ∨ (i = .lreturn ∧ t = .long ∧ ∃ z, w = .long z) ∨ (i = .dreturn ∧ t = .double ∧ ∃ z, w = .double z) ∨ (i = .freturn ∧ t = .float ∧ ∃ z, w = .float z) ∨ (i = .areturn ∧ t.isReference = true ∧ w.isRef = true))
    (hd : decode c.code pc = .ok (i, 1)) (hk : cells ≤ K) (hs : slots ≤ N) (hQ : Q (some w) T.heap locs) : OD p e s below Q K N (T.setTop (mkF m pc Ls (w :: rest))) := by
  obtain ⟨fs, hr, hrun, hended, hW, hsame⟩ := X.leave (v := some w) (fun h => by rw [hret] at h; cases h) hlk
  exact ⟨_, _, retOut X hx hret hn hi hd hr, hrun, hended, _, _, rfl, hQ, ⟨_, rfl⟩, hW, hsame.mono hk hs⟩
theorem OD.retV {Q : Option Value → Heap → List Loc → Prop} {K N : Nat} (X : Stand p l e R s m args below meth c T locs cells slots) (hx : p.tables.exec = Jvm.exec) (hlk : meth.locks = false) {pc : Nat} {Ls : Array Slot} (hret : meth.sig.returnType = none)
    (hd : decode c.code pc = .ok (.return_, 1)) (hk : cells ≤ K) (hs : slots ≤ N) (hQ : Q none T.heap locs) : OD p e s below Q K N (T.setTop (mkF m pc Ls [])) := by
  obtain ⟨fs, hr, hrun, hended, hW, hsame⟩ := X.leave (v := none) (fun _ => rfl) hlk
  exact ⟨_, _, X.returnOut hx hret hd hr, hrun, hended, _, _, rfl, hQ, ⟨_, rfl⟩, hW, hsame.mono hk hs⟩
theorem own_len {Z : State} {h : Heap} {a : Addr} {k : ClassId} {ty : FieldType} {z : Int32} {vs : List Value} {dv : Value} (F : Arv Z h a k ty z vs dv) : ∃ cl : Cell, Arr Z h a cl ty ∧ cl.slots.size.toInt32 = z := by
  obtain ⟨cl, A, -, S, M, -⟩ := F
  exact ⟨cl, A, len_of S M⟩
theorem own_at {Z : State} {h : Heap} {a : Addr} {k : ClassId} {ty : FieldType} {z j : Int32} {vs : List Value} {dv v : Value} (F : Arv Z h a k ty z vs dv) (q : ¬ j < 0 ∧ j < z) (u : vs.getD j.toNatClampNeg dv = v) : ∃ cl : Cell, Arr Z h a cl ty ∧ ¬ (j < 0 ∨ cl.slots.size ≤ j.toNatClampNeg) ∧ cl.slots[j.toNatClampNeg]? = some v := by
  obtain ⟨cl, A, -, S, M, H, -⟩ := F
  exact ⟨cl, A, inb_of S q, H.at (inb_of S q) u⟩
theorem own_inst {Z : State} {a0 : Array Value} {h : Heap} {own C K : String} {index : Nat} {a : Addr} (X : Stand p l e R s m args below meth c T locs cells slots) (hZ : Z.Warmed39 s.vm) (hown : s.vm.findClass own = some m.cls) (w : (Jvm.Cond.classLink own index K).before a0 Z = true) (E : Exa Z h a C) : Ins Z h a K true ∨ ∃ c t, Z.vm.findClass C = some c ∧ Z.vm.findClass K = some t ∧ Z.vm.assignable c t = false := by
  have hpl : e.platform.magicAccessors = ({} : Platform).magicAccessors := by rw [X.admits.platform]
  obtain ⟨c', hc', -⟩ := Cond.classLink_spec (args := args) hown (mv hZ w) e.platform hpl
  rw [hZ.alike.findClass] at hc'
  obtain ⟨cell, k, h1, h2, h3, h4, -⟩ := E
  cases ha : Z.vm.assignable cell.cls c' with
  | true => exact Or.inl ⟨cell, c', h1, hc', by rw [ha, h4]; rfl⟩
  | false => exact Or.inr ⟨_, _, h2, hc', ha⟩
end OwnKit
theorem ef0 (m : MethodId) (x0 : UInt32) (x1 : UInt64) (x2 : UInt64) : entryFrame m #[(.float x0), (.double x1), (.double x2)] 7 = mkF m 0 #[.val (.float x0), .val (.double x1), .second, .val (.double x2), .second, .unset, .unset] [] := by first | (simp [entryFrame, mkF, argsToLocals, Value.category]; done) | rfl
theorem pn0 : plainName "com/example/tight_pivot/tightpivot/ProximityScore" = true := by first | (simp [plainName, overriddenIn]; done) | decide +kernel
theorem d1_0 : decode prog_5_method_2_code 0 = .ok (.fload_n 0, 1) := by decide +kernel
theorem d1_1 : decode prog_5_method_2_code 1 = .ok (.fconst 0, 1) := by decide +kernel
theorem d1_2 : decode prog_5_method_2_code 2 = .ok (.fcmp .l, 1) := by decide +kernel
theorem d1_3 : decode prog_5_method_2_code 3 = .ok (.ifCond .lt 10, 3) := by decide +kernel
theorem d1_6 : decode prog_5_method_2_code 6 = .ok (.fload_n 0, 1) := by decide +kernel
theorem d1_7 : decode prog_5_method_2_code 7 = .ok (.ldc 9, 2) := by decide +kernel
theorem Wd6 {Z : State} {a0 : Array Value} (hw : ∀ d ∈ tables_1, d.before a0 Z = true) : ((Jvm.Cond.constantFloat "com/example/tight_pivot/tightpivot/ProximityScore" (9 : Nat) (2139095039 : UInt32)) : Jvm.Cond).before a0 Z = true := hw _ (List.mem_of_getElem? (i := 6) rfl)
theorem d1_9 : decode prog_5_method_2_code 9 = .ok (.fcmp .g, 1) := by decide +kernel
theorem d1_10 : decode prog_5_method_2_code 10 = .ok (.ifCond .le 17, 3) := by decide +kernel
theorem d1_27 : decode prog_5_method_2_code 27 = .ok (.dload_n 1, 1) := by decide +kernel
theorem d1_28 : decode prog_5_method_2_code 28 = .ok (.dconst 0, 1) := by decide +kernel
theorem d1_29 : decode prog_5_method_2_code 29 = .ok (.dcmp .l, 1) := by decide +kernel
theorem d1_30 : decode prog_5_method_2_code 30 = .ok (.ifCond .le 11, 3) := by decide +kernel
theorem d1_33 : decode prog_5_method_2_code 33 = .ok (.dload_n 1, 1) := by decide +kernel
theorem d1_34 : decode prog_5_method_2_code 34 = .ok (.ldc2_w 21, 3) := by decide +kernel
theorem Wd7 {Z : State} {a0 : Array Value} (hw : ∀ d ∈ tables_1, d.before a0 Z = true) : ((Jvm.Cond.constantDouble "com/example/tight_pivot/tightpivot/ProximityScore" (21 : Nat) (9218868437227405311 : UInt64)) : Jvm.Cond).before a0 Z = true := hw _ (List.mem_of_getElem? (i := 7) rfl)
theorem d1_37 : decode prog_5_method_2_code 37 = .ok (.dcmp .g, 1) := by decide +kernel
theorem d1_38 : decode prog_5_method_2_code 38 = .ok (.ifCond .le 17, 3) := by decide +kernel
theorem d1_55 : decode prog_5_method_2_code 55 = .ok (.dload_n 3, 1) := by decide +kernel
theorem d1_56 : decode prog_5_method_2_code 56 = .ok (.dconst 0, 1) := by decide +kernel
theorem d1_57 : decode prog_5_method_2_code 57 = .ok (.dcmp .l, 1) := by decide +kernel
theorem d1_58 : decode prog_5_method_2_code 58 = .ok (.ifCond .ge 17, 3) := by decide +kernel
theorem d1_75 : decode prog_5_method_2_code 75 = .ok (.dload_n 1, 1) := by decide +kernel
theorem d1_76 : decode prog_5_method_2_code 76 = .ok (.dload_n 1, 1) := by decide +kernel
theorem d1_77 : decode prog_5_method_2_code 77 = .ok (.dload_n 3, 1) := by decide +kernel
theorem d1_78 : decode prog_5_method_2_code 78 = .ok (.dadd, 1) := by decide +kernel
theorem d1_79 : decode prog_5_method_2_code 79 = .ok (.ddiv, 1) := by decide +kernel
theorem d1_80 : decode prog_5_method_2_code 80 = .ok (.dstore 5, 2) := by decide +kernel
theorem d1_82 : decode prog_5_method_2_code 82 = .ok (.fload_n 0, 1) := by decide +kernel
theorem d1_83 : decode prog_5_method_2_code 83 = .ok (.f2d, 1) := by decide +kernel
theorem d1_84 : decode prog_5_method_2_code 84 = .ok (.dload 5, 2) := by decide +kernel
theorem d1_86 : decode prog_5_method_2_code 86 = .ok (.dmul, 1) := by decide +kernel
theorem d1_87 : decode prog_5_method_2_code 87 = .ok (.d2f, 1) := by decide +kernel
theorem d1_88 : decode prog_5_method_2_code 88 = .ok (.freturn, 1) := by decide +kernel
theorem ef1 (m : MethodId) (x0 : Int32) (x1 : Int32) (x2 : Int32) (x3 : Int32) (x4 : Int32) : entryFrame m #[(.int x0), (.int x1), (.int x2), (.int x3), (.int x4)] maxLocals = mkF m 0 #[.val (.int x0), .val (.int x1), .val (.int x2), .val (.int x3), .val (.int x4), .unset, .unset, .unset, .unset, .unset, .unset, .unset, .unset, .unset, .unset, .unset] [] := by first | (simp [entryFrame, mkF, argsToLocals, Value.category, maxLocals]; done) | rfl
theorem pn1 : plainName "com/example/tight_pivot/tightpivot/ProximityScoreScorePinLaw" = true := by first | (simp [plainName, overriddenIn]; done) | decide +kernel
theorem Wd0 {Z : State} {a0 : Array Value} (hw : ∀ d ∈ tables_1, d.before a0 Z = true) : ((Jvm.Cond.constant "com/example/tight_pivot/tightpivot/ProximityScoreScorePinLaw" (7 : Nat) (1048575 : Int32)) : Jvm.Cond).before a0 Z = true := hw _ (List.mem_of_getElem? (i := 0) rfl)
theorem Wd1 {Z : State} {a0 : Array Value} (hw : ∀ d ∈ tables_1, d.before a0 Z = true) : ((Jvm.Cond.constant "com/example/tight_pivot/tightpivot/ProximityScoreScorePinLaw" (8 : Nat) (16777215 : Int32)) : Jvm.Cond).before a0 Z = true := hw _ (List.mem_of_getElem? (i := 1) rfl)
theorem Wd2 {Z : State} {a0 : Array Value} (hw : ∀ d ∈ tables_1, d.before a0 Z = true) : ((Jvm.Cond.methodLink "com/example/tight_pivot/tightpivot/ProximityScoreScorePinLaw" (9 : Nat) ({ cls := "com/example/tight_pivot/tightpivot/ProximityScore", name := "score", desc := "(FDD)F" } : Jvm.MethodName)) : Jvm.Cond).before a0 Z = true := hw _ (List.mem_of_getElem? (i := 2) rfl)
theorem Wd5 {Z : State} {a0 : Array Value} (hw : ∀ d ∈ tables_1, d.before a0 Z = true) : ((Jvm.Cond.code ({ cls := "com/example/tight_pivot/tightpivot/ProximityScore", name := "score", desc := "(FDD)F" } : Jvm.MethodName) prog_5_method_2_code (7 : Nat) (Option.some Jvm.ClassFile.FieldType.float)) : Jvm.Cond).before a0 Z = true := hw _ (List.mem_of_getElem? (i := 5) rfl)
theorem Wd4 {Z : State} {a0 : Array Value} (hw : ∀ d ∈ tables_1, d.before a0 Z = true) : ((Jvm.Cond.initialized "com/example/tight_pivot/tightpivot/ProximityScore") : Jvm.Cond).before a0 Z = true := hw _ (List.mem_of_getElem? (i := 4) rfl)
theorem pd0 : parseMethodDescriptor "(FDD)F" = some ⟨[.float, .double, .double], some .float⟩ := by decide +kernel
theorem Wd3 {Z : State} {a0 : Array Value} (hw : ∀ d ∈ tables_1, d.before a0 Z = true) : ((Jvm.Cond.static ({ cls := "com/example/tight_pivot/tightpivot/ProximityScore", name := "score", desc := "(FDD)F" } : Jvm.MethodName)) : Jvm.Cond).before a0 Z = true := hw _ (List.mem_of_getElem? (i := 3) rfl)
theorem Wd8 {Z : State} {a0 : Array Value} (hw : ∀ d ∈ tables_1, d.before a0 Z = true) : ((Jvm.Cond.constantFloat "com/example/tight_pivot/tightpivot/ProximityScoreScorePinLaw" (15 : Nat) (1056964608 : UInt32)) : Jvm.Cond).before a0 Z = true := hw _ (List.mem_of_getElem? (i := 8) rfl)
theorem Wd12 {Z : State} {a0 : Array Value} (hw : ∀ d ∈ tables_1, d.before a0 Z = true) : ((Jvm.Cond.constantDouble "com/example/tight_pivot/tightpivot/ProximityScoreScorePinLaw" (16 : Nat) (4613937818241073152 : UInt64)) : Jvm.Cond).before a0 Z = true := hw _ (List.mem_of_getElem? (i := 12) rfl)
theorem Wd13 {Z : State} {a0 : Array Value} (hw : ∀ d ∈ tables_1, d.before a0 Z = true) : ((Jvm.Cond.constantFloat "com/example/tight_pivot/tightpivot/ProximityScoreScorePinLaw" (18 : Nat) (1048576000 : UInt32)) : Jvm.Cond).before a0 Z = true := hw _ (List.mem_of_getElem? (i := 13) rfl)
theorem Wd9 {Z : State} {a0 : Array Value} (hw : ∀ d ∈ tables_1, d.before a0 Z = true) : ((Jvm.Cond.constantDouble "com/example/tight_pivot/tightpivot/ProximityScoreScorePinLaw" (23 : Nat) (9218868437227405311 : UInt64)) : Jvm.Cond).before a0 Z = true := hw _ (List.mem_of_getElem? (i := 9) rfl)
theorem Wd11 {Z : State} {a0 : Array Value} (hw : ∀ d ∈ tables_1, d.before a0 Z = true) : ((Jvm.Cond.constantDouble "com/example/tight_pivot/tightpivot/ProximityScoreScorePinLaw" (21 : Nat) (9218868437227405312 : UInt64)) : Jvm.Cond).before a0 Z = true := hw _ (List.mem_of_getElem? (i := 11) rfl)
theorem Wd10 {Z : State} {a0 : Array Value} (hw : ∀ d ∈ tables_1, d.before a0 Z = true) : ((Jvm.Cond.constantDouble "com/example/tight_pivot/tightpivot/ProximityScoreScorePinLaw" (25 : Nat) (4652218415073722368 : UInt64)) : Jvm.Cond).before a0 Z = true := hw _ (List.mem_of_getElem? (i := 10) rfl)
def Q_rmS (Z : State) (x0 : UInt32) (x1 : UInt64) (x2 : UInt64) (h0 : Heap) (v : Option Value) (h : Heap) (L : List Loc) : Prop := v = some (.float (own_sc x0 x1 x2)) ∧ L = [] ∧ h = h0
set_option maxRecDepth 65536 in
set_option maxHeartbeats 40000000 in
theorem rmS (l : Launch) (Z : State) (a0 : Array Value) (hw : ∀ d ∈ tables_1, d.before a0 Z = true) (ws : List Jvm.Cond) (x0 : UInt32) (x1 : UInt64) (x2 : UInt64) (h0 : Heap) (ok : own_ok x0 x1 x2) :
    MetFree l (⟨"com/example/tight_pivot/tightpivot/ProximityScore", "score", "(FDD)F"⟩ : MethodName) (head1 (Jvm.Cond.code (⟨"com/example/tight_pivot/tightpivot/ProximityScore", "score", "(FDD)F"⟩ : MethodName) prog_5_method_2_code 7 (some .float) :: ws) ({ frames := 0, cells := 0, slots := 0, locals := 0 } : Room)) (fun a U => a = #[(.float x0), (.double x1), (.double x2)] ∧ Z.Warmed39 U.vm ∧ U.heap = h0) (fun _ _ _ _ _ => True) (fun _ U o U' => ∃ v L, o = .returned v ∧ Q_rmS Z x0 x1 x2 h0 v U'.heap L ∧ FrameEnd U o U' L ({ frames := 0, cells := 0, slots := 0, locals := 0 } : Room).cells ({ frames := 0, cells := 0, slots := 0, locals := 0 } : Room).slots) := by
  refine MetFree.of_bodySF (plainFor_of_name pn0) hisR ?_
  intro p e s m args below meth c s₁ Bd hml0 hP hK
  obtain ⟨rfl, hZ, hh⟩ := hP
  have hx := Bd.exec
  have hby := Bd.bytes
  have hlk : meth.locks = false := Bd.notSynchronized
  have hml : c.maxLocals = 7 := hml0
  have hown : s.vm.findClass "com/example/tight_pivot/tightpivot/ProximityScore" = some m.cls := findClass_of_methodNamed Bd.named
  have hnm := (name_of_methodNamed Bd.named Bd.method).1
  have X0 : Stand p l e ({ frames := 0, cells := 0, slots := 0, locals := 0 } : Room) s m #[(.float x0), (.double x1), (.double x2)] below meth c s₁ [] 0 0 := Stand.of_body Bd
  have e0 : s₁.heap = h0 := by rw [← hh, Bd.state]; rfl
  suffices hgo : OD p e s below (Q_rmS Z x0 x1 x2 h0) ({ frames := 0, cells := 0, slots := 0, locals := 0 } : Room).cells ({ frames := 0, cells := 0, slots := 0, locals := 0 } : Room).slots (s₁.setTop (mkF m 0 #[.val (.float x0), .val (.double x1), .second, .val (.double x2), .second, .unset, .unset] [])) by
    obtain ⟨s₂, o, hgo1, hgo2⟩ := hgo
    exact ⟨s₂, o, castTop (ef0 m x0 x1 x2) hgo1, hgo2⟩
  refine OD.go (B := (s₁.setTop (mkF m 1 #[.val (.float x0), .val (.double x1), .second, .val (.double x2), .second, .unset, .unset] [(.float x0)]))) (fun t k => XS.floadN X0.here hx rfl (hb hby d1_0) rfl k) ?_
  refine OD.go (B := (s₁.setTop (mkF m 2 #[.val (.float x0), .val (.double x1), .second, .val (.double x2), .second, .unset, .unset] [(.float FP.fconst0), (.float x0)]))) (fun t k => XS.fconst0 X0.here hx rfl (hb hby d1_1) (v := FP.fconst0) rfl k) ?_
  refine OD.go (B := (s₁.setTop (mkF m 3 #[.val (.float x0), .val (.double x1), .second, .val (.double x2), .second, .unset, .unset] [(.int (cmpValue (FP.fcmp x0 FP.fconst0) .l))]))) (fun t k => XS.fcmpS X0.here hx rfl (hb hby d1_2) rfl (v := (cmpValue (FP.fcmp x0 FP.fconst0) .l)) rfl k) ?_
  refine OD.go (B := (s₁.setTop (mkF m 6 #[.val (.float x0), .val (.double x1), .second, .val (.double x2), .second, .unset, .unset] []))) (fun t k => XS.ifNo X0.here hx rfl (hb hby d1_3) rfl (by rw [if0]; exact (flt ok.1).1) k) ?_
  refine OD.go (B := (s₁.setTop (mkF m 7 #[.val (.float x0), .val (.double x1), .second, .val (.double x2), .second, .unset, .unset] [(.float x0)]))) (fun t k => XS.floadN X0.here hx rfl (hb hby d1_6) rfl k) ?_
  refine OD.go (B := (s₁.setTop (mkF m 9 #[.val (.float x0), .val (.double x1), .second, .val (.double x2), .second, .unset, .unset] [(.float (2139095039 : UInt32)), (.float x0)]))) (fun t k => X0.ldcFloatC hx hown (mv hZ (Wd6 hw)) (g := (mkF m 7 #[.val (.float x0), .val (.double x1), .second, .val (.double x2), .second, .unset, .unset] [(.float x0)])) rfl (hb hby d1_7) _ k) ?_
  refine OD.go (B := (s₁.setTop (mkF m 10 #[.val (.float x0), .val (.double x1), .second, .val (.double x2), .second, .unset, .unset] [(.int (cmpValue (FP.fcmp x0 (2139095039 : UInt32)) .g))]))) (fun t k => XS.fcmpS X0.here hx rfl (hb hby d1_9) rfl (v := (cmpValue (FP.fcmp x0 (2139095039 : UInt32)) .g)) rfl k) ?_
  refine OD.go (B := (s₁.setTop (mkF m 27 #[.val (.float x0), .val (.double x1), .second, .val (.double x2), .second, .unset, .unset] []))) (fun t k => XS.ifYes X0.here hx rfl (pc0 := 10) (pc' := 27) rfl (hb hby d1_10) rfl (by rw [if0]; exact (flt ok.2.1).2.2.2) (by decide) (by decide) k) ?_
  refine OD.go (B := (s₁.setTop (mkF m 28 #[.val (.float x0), .val (.double x1), .second, .val (.double x2), .second, .unset, .unset] [(.double x1)]))) (fun t k => XS.dloadN X0.here hx rfl (hb hby d1_27) rfl k) ?_
  refine OD.go (B := (s₁.setTop (mkF m 29 #[.val (.float x0), .val (.double x1), .second, .val (.double x2), .second, .unset, .unset] [(.double FP.dconst0), (.double x1)]))) (fun t k => XS.dconst0 X0.here hx rfl (hb hby d1_28) (v := FP.dconst0) rfl k) ?_
  refine OD.go (B := (s₁.setTop (mkF m 30 #[.val (.float x0), .val (.double x1), .second, .val (.double x2), .second, .unset, .unset] [(.int (cmpValue (FP.dcmp x1 FP.dconst0) .l))]))) (fun t k => XS.dcmpS X0.here hx rfl (hb hby d1_29) rfl (v := (cmpValue (FP.dcmp x1 FP.dconst0) .l)) rfl k) ?_
  refine OD.go (B := (s₁.setTop (mkF m 33 #[.val (.float x0), .val (.double x1), .second, .val (.double x2), .second, .unset, .unset] []))) (fun t k => XS.ifNo X0.here hx rfl (hb hby d1_30) rfl (by rw [if0]; exact (tlt ok.2.2.1).2.2.2) k) ?_
  refine OD.go (B := (s₁.setTop (mkF m 34 #[.val (.float x0), .val (.double x1), .second, .val (.double x2), .second, .unset, .unset] [(.double x1)]))) (fun t k => XS.dloadN X0.here hx rfl (hb hby d1_33) rfl k) ?_
  refine OD.go (B := (s₁.setTop (mkF m 37 #[.val (.float x0), .val (.double x1), .second, .val (.double x2), .second, .unset, .unset] [(.double (9218868437227405311 : UInt64)), (.double x1)]))) (fun t k => X0.ldc2DoubleC hx hown (mv hZ (Wd7 hw)) (g := (mkF m 34 #[.val (.float x0), .val (.double x1), .second, .val (.double x2), .second, .unset, .unset] [(.double x1)])) rfl (hb hby d1_34) _ k) ?_
  refine OD.go (B := (s₁.setTop (mkF m 38 #[.val (.float x0), .val (.double x1), .second, .val (.double x2), .second, .unset, .unset] [(.int (cmpValue (FP.dcmp x1 (9218868437227405311 : UInt64)) .g))]))) (fun t k => XS.dcmpS X0.here hx rfl (hb hby d1_37) rfl (v := (cmpValue (FP.dcmp x1 (9218868437227405311 : UInt64)) .g)) rfl k) ?_
  refine OD.go (B := (s₁.setTop (mkF m 55 #[.val (.float x0), .val (.double x1), .second, .val (.double x2), .second, .unset, .unset] []))) (fun t k => XS.ifYes X0.here hx rfl (pc0 := 38) (pc' := 55) rfl (hb hby d1_38) rfl (by rw [if0]; exact (flt ok.2.2.2.1).2.2.2) (by decide) (by decide) k) ?_
  refine OD.go (B := (s₁.setTop (mkF m 56 #[.val (.float x0), .val (.double x1), .second, .val (.double x2), .second, .unset, .unset] [(.double x2)]))) (fun t k => XS.dloadN X0.here hx rfl (hb hby d1_55) rfl k) ?_
  refine OD.go (B := (s₁.setTop (mkF m 57 #[.val (.float x0), .val (.double x1), .second, .val (.double x2), .second, .unset, .unset] [(.double FP.dconst0), (.double x2)]))) (fun t k => XS.dconst0 X0.here hx rfl (hb hby d1_56) (v := FP.dconst0) rfl k) ?_
  refine OD.go (B := (s₁.setTop (mkF m 58 #[.val (.float x0), .val (.double x1), .second, .val (.double x2), .second, .unset, .unset] [(.int (cmpValue (FP.dcmp x2 FP.dconst0) .l))]))) (fun t k => XS.dcmpS X0.here hx rfl (hb hby d1_57) rfl (v := (cmpValue (FP.dcmp x2 FP.dconst0) .l)) rfl k) ?_
  refine OD.go (B := (s₁.setTop (mkF m 75 #[.val (.float x0), .val (.double x1), .second, .val (.double x2), .second, .unset, .unset] []))) (fun t k => XS.ifYes X0.here hx rfl (pc0 := 58) (pc' := 75) rfl (hb hby d1_58) rfl (by rw [if0]; exact (flt ok.2.2.2.2.1).2.1) (by decide) (by decide) k) ?_
  refine OD.go (B := (s₁.setTop (mkF m 76 #[.val (.float x0), .val (.double x1), .second, .val (.double x2), .second, .unset, .unset] [(.double x1)]))) (fun t k => XS.dloadN X0.here hx rfl (hb hby d1_75) rfl k) ?_
  refine OD.go (B := (s₁.setTop (mkF m 77 #[.val (.float x0), .val (.double x1), .second, .val (.double x2), .second, .unset, .unset] [(.double x1), (.double x1)]))) (fun t k => XS.dloadN X0.here hx rfl (hb hby d1_76) rfl k) ?_
  refine OD.go (B := (s₁.setTop (mkF m 78 #[.val (.float x0), .val (.double x1), .second, .val (.double x2), .second, .unset, .unset] [(.double x2), (.double x1), (.double x1)]))) (fun t k => XS.dloadN X0.here hx rfl (hb hby d1_77) rfl k) ?_
  refine OD.go (B := (s₁.setTop (mkF m 79 #[.val (.float x0), .val (.double x1), .second, .val (.double x2), .second, .unset, .unset] [(.double (FP.dadd x1 x2)), (.double x1)]))) (fun t k => XS.daddS X0.here hx rfl (hb hby d1_78) rfl ok.2.2.2.2.2.1 (v := (FP.dadd x1 x2)) rfl k) ?_
  refine OD.go (B := (s₁.setTop (mkF m 80 #[.val (.float x0), .val (.double x1), .second, .val (.double x2), .second, .unset, .unset] [(.double (FP.ddiv x1 (FP.dadd x1 x2)))]))) (fun t k => XS.ddivS X0.here hx rfl (hb hby d1_79) rfl ok.2.2.2.2.2.2.1 (v := (FP.ddiv x1 (FP.dadd x1 x2))) rfl k) ?_
  refine OD.go (B := (s₁.setTop (mkF m 82 #[.val (.float x0), .val (.double x1), .second, .val (.double x2), .second, .val (.double (FP.ddiv x1 (FP.dadd x1 x2))), .second] []))) (fun t k => XS.dstore X0.here hx rfl (hb hby d1_80) rfl (l' := #[.val (.float x0), .val (.double x1), .second, .val (.double x2), .second, .val (.double (FP.ddiv x1 (FP.dadd x1 x2))), .second]) rfl k) ?_
  refine OD.go (B := (s₁.setTop (mkF m 83 #[.val (.float x0), .val (.double x1), .second, .val (.double x2), .second, .val (.double (FP.ddiv x1 (FP.dadd x1 x2))), .second] [(.float x0)]))) (fun t k => XS.floadN X0.here hx rfl (hb hby d1_82) rfl k) ?_
  refine OD.go (B := (s₁.setTop (mkF m 84 #[.val (.float x0), .val (.double x1), .second, .val (.double x2), .second, .val (.double (FP.ddiv x1 (FP.dadd x1 x2))), .second] [(.double (FP.f2d x0))]))) (fun t k => XS.f2dS X0.here hx rfl (hb hby d1_83) rfl ok.2.2.2.2.2.2.2.1 (v := (FP.f2d x0)) rfl k) ?_
  refine OD.go (B := (s₁.setTop (mkF m 86 #[.val (.float x0), .val (.double x1), .second, .val (.double x2), .second, .val (.double (FP.ddiv x1 (FP.dadd x1 x2))), .second] [(.double (FP.ddiv x1 (FP.dadd x1 x2))), (.double (FP.f2d x0))]))) (fun t k => XS.dload X0.here hx rfl (hb hby d1_84) rfl k) ?_
  refine OD.go (B := (s₁.setTop (mkF m 87 #[.val (.float x0), .val (.double x1), .second, .val (.double x2), .second, .val (.double (FP.ddiv x1 (FP.dadd x1 x2))), .second] [(.double (FP.dmul (FP.f2d x0) (FP.ddiv x1 (FP.dadd x1 x2))))]))) (fun t k => XS.dmulS X0.here hx rfl (hb hby d1_86) rfl ok.2.2.2.2.2.2.2.2.1 (v := (FP.dmul (FP.f2d x0) (FP.ddiv x1 (FP.dadd x1 x2)))) rfl k) ?_
  refine OD.go (B := (s₁.setTop (mkF m 88 #[.val (.float x0), .val (.double x1), .second, .val (.double x2), .second, .val (.double (FP.ddiv x1 (FP.dadd x1 x2))), .second] [(.float (FP.d2f (FP.dmul (FP.f2d x0) (FP.ddiv x1 (FP.dadd x1 x2)))))]))) (fun t k => XS.d2fS X0.here hx rfl (hb hby d1_87) rfl ok.2.2.2.2.2.2.2.2.2 (v := (FP.d2f (FP.dmul (FP.f2d x0) (FP.ddiv x1 (FP.dadd x1 x2))))) rfl k) ?_
  exact OD.ret X0 hx hlk (t := .float) Bd.returns rfl (Or.inr (Or.inr (Or.inr (Or.inl ⟨rfl, rfl, _, rfl⟩)))) (hb hby d1_88) (Nat.le_of_ble_eq_true rfl) (Nat.le_of_ble_eq_true rfl) ⟨rfl, rfl, e0⟩
def Q_rm0 (Z : State) (p0 : Int32) (p1 : Int32) (p2 : Int32) (p3 : Int32) (p4 : Int32) (h0 : Heap) (v : Option Value) (h : Heap) (L : List Loc) : Prop := v = some (.int 1) ∧ Fr h0.size L
set_option maxRecDepth 65536 in
set_option maxHeartbeats 40000000 in
theorem rm0 (l : Launch) (Z : State) (a0 : Array Value) (hw : ∀ d ∈ tables_1, d.before a0 Z = true) (ws : List Jvm.Cond) (p0 : Int32) (p1 : Int32) (p2 : Int32) (p3 : Int32) (p4 : Int32) (h0 : Heap)  :
    MetFree l x (head1 (Jvm.Cond.code x code maxLocals ret :: ws) room_1) (fun a U => a = #[(.int p0), (.int p1), (.int p2), (.int p3), (.int p4)] ∧ Z.Warmed39 U.vm ∧ U.heap = h0) (fun _ _ _ _ _ => True) (fun _ U o U' => ∃ v L, o = .returned v ∧ Q_rm0 Z p0 p1 p2 p3 p4 h0 v U'.heap L ∧ FrameEnd U o U' L 0 0) := by
  refine MetFree.of_bodySF (plainFor_of_name pn1) hisR ?_
  intro p e s m args below meth c s₁ Bd hml0 hP hK
  obtain ⟨rfl, hZ, hh⟩ := hP
  have hx := Bd.exec
  have hby := Bd.bytes
  have hlk : meth.locks = false := Bd.notSynchronized
  have hml : c.maxLocals = 16 := hml0
  have hown : s.vm.findClass "com/example/tight_pivot/tightpivot/ProximityScoreScorePinLaw" = some m.cls := findClass_of_methodNamed Bd.named
  have hnm := (name_of_methodNamed Bd.named Bd.method).1
  have X0 : Stand p l e room_1 s m #[(.int p0), (.int p1), (.int p2), (.int p3), (.int p4)] below meth c s₁ [] 0 0 := Stand.of_body Bd
  have e0 : s₁.heap = h0 := by rw [← hh, Bd.state]; rfl
  suffices hgo : OD p e s below (Q_rm0 Z p0 p1 p2 p3 p4 h0) 0 0 (s₁.setTop (mkF m 0 #[.val (.int p0), .val (.int p1), .val (.int p2), .val (.int p3), .val (.int p4), .unset, .unset, .unset, .unset, .unset, .unset, .unset, .unset, .unset, .unset, .unset] [])) by
    obtain ⟨s₂, o, hgo1, hgo2⟩ := hgo
    exact ⟨s₂, o, castTop (ef1 m p0 p1 p2 p3 p4) hgo1, hgo2⟩
  obtain ⟨B, hvB, hB⟩ := own_vb p0; obtain ⟨P, hvP, hP0, hP⟩ := own_vp p1; obtain ⟨D, hvD, hD⟩ := own_vd p2; obtain ⟨E, hvE, hE⟩ := own_vd p3
  refine OD.go (B := (s₁.setTop (mkF m 1 #[.val (.int p0), .val (.int p1), .val (.int p2), .val (.int p3), .val (.int p4), .unset, .unset, .unset, .unset, .unset, .unset, .unset, .unset, .unset, .unset, .unset] [(.int p0)]))) (fun t k => XS.iloadN X0.here hx rfl (hb hby at_0) rfl k) ?_
  refine OD.go (B := (s₁.setTop (mkF m 3 #[.val (.int p0), .val (.int p1), .val (.int p2), .val (.int p3), .val (.int p4), .unset, .unset, .unset, .unset, .unset, .unset, .unset, .unset, .unset, .unset, .unset] [(.int (1048575 : Int32)), (.int p0)]))) (fun t k => X0.ldcInt hx hown (mv hZ (Wd0 hw)) (g := (mkF m 1 #[.val (.int p0), .val (.int p1), .val (.int p2), .val (.int p3), .val (.int p4), .unset, .unset, .unset, .unset, .unset, .unset, .unset, .unset, .unset, .unset, .unset] [(.int p0)])) rfl (hb hby at_1) _ k) ?_
  refine OD.go (B := (s₁.setTop (mkF m 4 #[.val (.int p0), .val (.int p1), .val (.int p2), .val (.int p3), .val (.int p4), .unset, .unset, .unset, .unset, .unset, .unset, .unset, .unset, .unset, .unset, .unset] [(.int (p0 &&& (1048575 : Int32)))]))) (fun t k => XS.iand X0.here hx rfl (hb hby at_3) rfl k) ?_
  refine OD.go (B := (s₁.setTop (mkF m 6 #[.val (.int p0), .val (.int p1), .val (.int p2), .val (.int p3), .val (.int p4), .val (.int (p0 &&& (1048575 : Int32))), .unset, .unset, .unset, .unset, .unset, .unset, .unset, .unset, .unset, .unset] []))) (fun t k => XS.istore X0.here hx rfl (hb hby at_4) rfl (l' := #[.val (.int p0), .val (.int p1), .val (.int p2), .val (.int p3), .val (.int p4), .val (.int (p0 &&& (1048575 : Int32))), .unset, .unset, .unset, .unset, .unset, .unset, .unset, .unset, .unset, .unset]) rfl k) ?_
  refine OD.go (B := (s₁.setTop (mkF m 8 #[.val (.int p0), .val (.int p1), .val (.int p2), .val (.int p3), .val (.int p4), .val (.int (p0 &&& (1048575 : Int32))), .unset, .unset, .unset, .unset, .unset, .unset, .unset, .unset, .unset, .unset] [(.int (p0 &&& (1048575 : Int32)))]))) (fun t k => XS.iload X0.here hx rfl (hb hby at_6) rfl k) ?_
  refine OD.go (B := (s₁.setTop (mkF m 9 #[.val (.int p0), .val (.int p1), .val (.int p2), .val (.int p3), .val (.int p4), .val (.int (p0 &&& (1048575 : Int32))), .unset, .unset, .unset, .unset, .unset, .unset, .unset, .unset, .unset, .unset] [(.float (FP.i2f (p0 &&& (1048575 : Int32))))]))) (fun t k => XS.i2fS X0.here hx rfl (hb hby at_8) rfl (v := (FP.i2f (p0 &&& (1048575 : Int32)))) rfl k) ?_
  refine OD.go (B := (s₁.setTop (mkF m 11 #[.val (.int p0), .val (.int p1), .val (.int p2), .val (.int p3), .val (.int p4), .val (.int (p0 &&& (1048575 : Int32))), .val (.float (FP.i2f (p0 &&& (1048575 : Int32)))), .unset, .unset, .unset, .unset, .unset, .unset, .unset, .unset, .unset] []))) (fun t k => XS.fstore X0.here hx rfl (hb hby at_9) rfl (l' := #[.val (.int p0), .val (.int p1), .val (.int p2), .val (.int p3), .val (.int p4), .val (.int (p0 &&& (1048575 : Int32))), .val (.float (FP.i2f (p0 &&& (1048575 : Int32)))), .unset, .unset, .unset, .unset, .unset, .unset, .unset, .unset, .unset]) rfl k) ?_
  refine OD.go (B := (s₁.setTop (mkF m 12 #[.val (.int p0), .val (.int p1), .val (.int p2), .val (.int p3), .val (.int p4), .val (.int (p0 &&& (1048575 : Int32))), .val (.float (FP.i2f (p0 &&& (1048575 : Int32)))), .unset, .unset, .unset, .unset, .unset, .unset, .unset, .unset, .unset] [(.int p1)]))) (fun t k => XS.iloadN X0.here hx rfl (hb hby at_11) rfl k) ?_
  refine OD.go (B := (s₁.setTop (mkF m 14 #[.val (.int p0), .val (.int p1), .val (.int p2), .val (.int p3), .val (.int p4), .val (.int (p0 &&& (1048575 : Int32))), .val (.float (FP.i2f (p0 &&& (1048575 : Int32)))), .unset, .unset, .unset, .unset, .unset, .unset, .unset, .unset, .unset] [(.int (1048575 : Int32)), (.int p1)]))) (fun t k => X0.ldcInt hx hown (mv hZ (Wd0 hw)) (g := (mkF m 12 #[.val (.int p0), .val (.int p1), .val (.int p2), .val (.int p3), .val (.int p4), .val (.int (p0 &&& (1048575 : Int32))), .val (.float (FP.i2f (p0 &&& (1048575 : Int32)))), .unset, .unset, .unset, .unset, .unset, .unset, .unset, .unset, .unset] [(.int p1)])) rfl (hb hby at_12) _ k) ?_
  refine OD.go (B := (s₁.setTop (mkF m 15 #[.val (.int p0), .val (.int p1), .val (.int p2), .val (.int p3), .val (.int p4), .val (.int (p0 &&& (1048575 : Int32))), .val (.float (FP.i2f (p0 &&& (1048575 : Int32)))), .unset, .unset, .unset, .unset, .unset, .unset, .unset, .unset, .unset] [(.int (p1 &&& (1048575 : Int32)))]))) (fun t k => XS.iand X0.here hx rfl (hb hby at_14) rfl k) ?_
  refine OD.go (B := (s₁.setTop (mkF m 16 #[.val (.int p0), .val (.int p1), .val (.int p2), .val (.int p3), .val (.int p4), .val (.int (p0 &&& (1048575 : Int32))), .val (.float (FP.i2f (p0 &&& (1048575 : Int32)))), .unset, .unset, .unset, .unset, .unset, .unset, .unset, .unset, .unset] [(.int (1 : Int32)), (.int (p1 &&& (1048575 : Int32)))]))) (fun t k => XS.iconst X0.here hx rfl (hb hby at_15) k) ?_
  refine OD.go (B := (s₁.setTop (mkF m 17 #[.val (.int p0), .val (.int p1), .val (.int p2), .val (.int p3), .val (.int p4), .val (.int (p0 &&& (1048575 : Int32))), .val (.float (FP.i2f (p0 &&& (1048575 : Int32)))), .unset, .unset, .unset, .unset, .unset, .unset, .unset, .unset, .unset] [(.int ((p1 &&& (1048575 : Int32)) + (1 : Int32)))]))) (fun t k => XS.iadd X0.here hx rfl (hb hby at_16) rfl k) ?_
  refine OD.go (B := (s₁.setTop (mkF m 18 #[.val (.int p0), .val (.int p1), .val (.int p2), .val (.int p3), .val (.int p4), .val (.int (p0 &&& (1048575 : Int32))), .val (.float (FP.i2f (p0 &&& (1048575 : Int32)))), .unset, .unset, .unset, .unset, .unset, .unset, .unset, .unset, .unset] [(.double (FP.i2d ((p1 &&& (1048575 : Int32)) + (1 : Int32))))]))) (fun t k => XS.i2dS X0.here hx rfl (hb hby at_17) rfl (v := (FP.i2d ((p1 &&& (1048575 : Int32)) + (1 : Int32)))) rfl k) ?_
  refine OD.go (B := (s₁.setTop (mkF m 20 #[.val (.int p0), .val (.int p1), .val (.int p2), .val (.int p3), .val (.int p4), .val (.int (p0 &&& (1048575 : Int32))), .val (.float (FP.i2f (p0 &&& (1048575 : Int32)))), .val (.double (FP.i2d ((p1 &&& (1048575 : Int32)) + (1 : Int32)))), .second, .unset, .unset, .unset, .unset, .unset, .unset, .unset] []))) (fun t k => XS.dstore X0.here hx rfl (hb hby at_18) rfl (l' := #[.val (.int p0), .val (.int p1), .val (.int p2), .val (.int p3), .val (.int p4), .val (.int (p0 &&& (1048575 : Int32))), .val (.float (FP.i2f (p0 &&& (1048575 : Int32)))), .val (.double (FP.i2d ((p1 &&& (1048575 : Int32)) + (1 : Int32)))), .second, .unset, .unset, .unset, .unset, .unset, .unset, .unset]) rfl k) ?_
  refine OD.go (B := (s₁.setTop (mkF m 21 #[.val (.int p0), .val (.int p1), .val (.int p2), .val (.int p3), .val (.int p4), .val (.int (p0 &&& (1048575 : Int32))), .val (.float (FP.i2f (p0 &&& (1048575 : Int32)))), .val (.double (FP.i2d ((p1 &&& (1048575 : Int32)) + (1 : Int32)))), .second, .unset, .unset, .unset, .unset, .unset, .unset, .unset] [(.int p2)]))) (fun t k => XS.iloadN X0.here hx rfl (hb hby at_20) rfl k) ?_
  refine OD.go (B := (s₁.setTop (mkF m 23 #[.val (.int p0), .val (.int p1), .val (.int p2), .val (.int p3), .val (.int p4), .val (.int (p0 &&& (1048575 : Int32))), .val (.float (FP.i2f (p0 &&& (1048575 : Int32)))), .val (.double (FP.i2d ((p1 &&& (1048575 : Int32)) + (1 : Int32)))), .second, .unset, .unset, .unset, .unset, .unset, .unset, .unset] [(.int (16777215 : Int32)), (.int p2)]))) (fun t k => X0.ldcInt hx hown (mv hZ (Wd1 hw)) (g := (mkF m 21 #[.val (.int p0), .val (.int p1), .val (.int p2), .val (.int p3), .val (.int p4), .val (.int (p0 &&& (1048575 : Int32))), .val (.float (FP.i2f (p0 &&& (1048575 : Int32)))), .val (.double (FP.i2d ((p1 &&& (1048575 : Int32)) + (1 : Int32)))), .second, .unset, .unset, .unset, .unset, .unset, .unset, .unset] [(.int p2)])) rfl (hb hby at_21) _ k) ?_
  refine OD.go (B := (s₁.setTop (mkF m 24 #[.val (.int p0), .val (.int p1), .val (.int p2), .val (.int p3), .val (.int p4), .val (.int (p0 &&& (1048575 : Int32))), .val (.float (FP.i2f (p0 &&& (1048575 : Int32)))), .val (.double (FP.i2d ((p1 &&& (1048575 : Int32)) + (1 : Int32)))), .second, .unset, .unset, .unset, .unset, .unset, .unset, .unset] [(.int (p2 &&& (16777215 : Int32)))]))) (fun t k => XS.iand X0.here hx rfl (hb hby at_23) rfl k) ?_
  refine OD.go (B := (s₁.setTop (mkF m 25 #[.val (.int p0), .val (.int p1), .val (.int p2), .val (.int p3), .val (.int p4), .val (.int (p0 &&& (1048575 : Int32))), .val (.float (FP.i2f (p0 &&& (1048575 : Int32)))), .val (.double (FP.i2d ((p1 &&& (1048575 : Int32)) + (1 : Int32)))), .second, .unset, .unset, .unset, .unset, .unset, .unset, .unset] [(.double (FP.i2d (p2 &&& (16777215 : Int32))))]))) (fun t k => XS.i2dS X0.here hx rfl (hb hby at_24) rfl (v := (FP.i2d (p2 &&& (16777215 : Int32)))) rfl k) ?_
  refine OD.go (B := (s₁.setTop (mkF m 27 #[.val (.int p0), .val (.int p1), .val (.int p2), .val (.int p3), .val (.int p4), .val (.int (p0 &&& (1048575 : Int32))), .val (.float (FP.i2f (p0 &&& (1048575 : Int32)))), .val (.double (FP.i2d ((p1 &&& (1048575 : Int32)) + (1 : Int32)))), .second, .val (.double (FP.i2d (p2 &&& (16777215 : Int32)))), .second, .unset, .unset, .unset, .unset, .unset] []))) (fun t k => XS.dstore X0.here hx rfl (hb hby at_25) rfl (l' := #[.val (.int p0), .val (.int p1), .val (.int p2), .val (.int p3), .val (.int p4), .val (.int (p0 &&& (1048575 : Int32))), .val (.float (FP.i2f (p0 &&& (1048575 : Int32)))), .val (.double (FP.i2d ((p1 &&& (1048575 : Int32)) + (1 : Int32)))), .second, .val (.double (FP.i2d (p2 &&& (16777215 : Int32)))), .second, .unset, .unset, .unset, .unset, .unset]) rfl k) ?_
  refine OD.go (B := (s₁.setTop (mkF m 28 #[.val (.int p0), .val (.int p1), .val (.int p2), .val (.int p3), .val (.int p4), .val (.int (p0 &&& (1048575 : Int32))), .val (.float (FP.i2f (p0 &&& (1048575 : Int32)))), .val (.double (FP.i2d ((p1 &&& (1048575 : Int32)) + (1 : Int32)))), .second, .val (.double (FP.i2d (p2 &&& (16777215 : Int32)))), .second, .unset, .unset, .unset, .unset, .unset] [(.int p3)]))) (fun t k => XS.iloadN X0.here hx rfl (hb hby at_27) rfl k) ?_
  refine OD.go (B := (s₁.setTop (mkF m 30 #[.val (.int p0), .val (.int p1), .val (.int p2), .val (.int p3), .val (.int p4), .val (.int (p0 &&& (1048575 : Int32))), .val (.float (FP.i2f (p0 &&& (1048575 : Int32)))), .val (.double (FP.i2d ((p1 &&& (1048575 : Int32)) + (1 : Int32)))), .second, .val (.double (FP.i2d (p2 &&& (16777215 : Int32)))), .second, .unset, .unset, .unset, .unset, .unset] [(.int (16777215 : Int32)), (.int p3)]))) (fun t k => X0.ldcInt hx hown (mv hZ (Wd1 hw)) (g := (mkF m 28 #[.val (.int p0), .val (.int p1), .val (.int p2), .val (.int p3), .val (.int p4), .val (.int (p0 &&& (1048575 : Int32))), .val (.float (FP.i2f (p0 &&& (1048575 : Int32)))), .val (.double (FP.i2d ((p1 &&& (1048575 : Int32)) + (1 : Int32)))), .second, .val (.double (FP.i2d (p2 &&& (16777215 : Int32)))), .second, .unset, .unset, .unset, .unset, .unset] [(.int p3)])) rfl (hb hby at_28) _ k) ?_
  refine OD.go (B := (s₁.setTop (mkF m 31 #[.val (.int p0), .val (.int p1), .val (.int p2), .val (.int p3), .val (.int p4), .val (.int (p0 &&& (1048575 : Int32))), .val (.float (FP.i2f (p0 &&& (1048575 : Int32)))), .val (.double (FP.i2d ((p1 &&& (1048575 : Int32)) + (1 : Int32)))), .second, .val (.double (FP.i2d (p2 &&& (16777215 : Int32)))), .second, .unset, .unset, .unset, .unset, .unset] [(.int (p3 &&& (16777215 : Int32)))]))) (fun t k => XS.iand X0.here hx rfl (hb hby at_30) rfl k) ?_
  refine OD.go (B := (s₁.setTop (mkF m 32 #[.val (.int p0), .val (.int p1), .val (.int p2), .val (.int p3), .val (.int p4), .val (.int (p0 &&& (1048575 : Int32))), .val (.float (FP.i2f (p0 &&& (1048575 : Int32)))), .val (.double (FP.i2d ((p1 &&& (1048575 : Int32)) + (1 : Int32)))), .second, .val (.double (FP.i2d (p2 &&& (16777215 : Int32)))), .second, .unset, .unset, .unset, .unset, .unset] [(.double (FP.i2d (p3 &&& (16777215 : Int32))))]))) (fun t k => XS.i2dS X0.here hx rfl (hb hby at_31) rfl (v := (FP.i2d (p3 &&& (16777215 : Int32)))) rfl k) ?_
  refine OD.go (B := (s₁.setTop (mkF m 34 #[.val (.int p0), .val (.int p1), .val (.int p2), .val (.int p3), .val (.int p4), .val (.int (p0 &&& (1048575 : Int32))), .val (.float (FP.i2f (p0 &&& (1048575 : Int32)))), .val (.double (FP.i2d ((p1 &&& (1048575 : Int32)) + (1 : Int32)))), .second, .val (.double (FP.i2d (p2 &&& (16777215 : Int32)))), .second, .val (.double (FP.i2d (p3 &&& (16777215 : Int32)))), .second, .unset, .unset, .unset] []))) (fun t k => XS.dstore X0.here hx rfl (hb hby at_32) rfl (l' := #[.val (.int p0), .val (.int p1), .val (.int p2), .val (.int p3), .val (.int p4), .val (.int (p0 &&& (1048575 : Int32))), .val (.float (FP.i2f (p0 &&& (1048575 : Int32)))), .val (.double (FP.i2d ((p1 &&& (1048575 : Int32)) + (1 : Int32)))), .second, .val (.double (FP.i2d (p2 &&& (16777215 : Int32)))), .second, .val (.double (FP.i2d (p3 &&& (16777215 : Int32)))), .second, .unset, .unset, .unset]) rfl k) ?_
  refine OD.go (B := (s₁.setTop (mkF m 36 #[.val (.int p0), .val (.int p1), .val (.int p2), .val (.int p3), .val (.int p4), .val (.int (p0 &&& (1048575 : Int32))), .val (.float (FP.i2f (p0 &&& (1048575 : Int32)))), .val (.double (FP.i2d ((p1 &&& (1048575 : Int32)) + (1 : Int32)))), .second, .val (.double (FP.i2d (p2 &&& (16777215 : Int32)))), .second, .val (.double (FP.i2d (p3 &&& (16777215 : Int32)))), .second, .unset, .unset, .unset] [(.int p4)]))) (fun t k => XS.iload X0.here hx rfl (hb hby at_34) rfl k) ?_
  refine OD.go (B := (s₁.setTop (mkF m 38 #[.val (.int p0), .val (.int p1), .val (.int p2), .val (.int p3), .val (.int p4), .val (.int (p0 &&& (1048575 : Int32))), .val (.float (FP.i2f (p0 &&& (1048575 : Int32)))), .val (.double (FP.i2d ((p1 &&& (1048575 : Int32)) + (1 : Int32)))), .second, .val (.double (FP.i2d (p2 &&& (16777215 : Int32)))), .second, .val (.double (FP.i2d (p3 &&& (16777215 : Int32)))), .second, .unset, .unset, .unset] [(.int (7 : Int32)), (.int p4)]))) (fun t k => XS.bipush X0.here hx rfl (hb hby at_36) k) ?_
  refine OD.go (B := (s₁.setTop (mkF m 39 #[.val (.int p0), .val (.int p1), .val (.int p2), .val (.int p3), .val (.int p4), .val (.int (p0 &&& (1048575 : Int32))), .val (.float (FP.i2f (p0 &&& (1048575 : Int32)))), .val (.double (FP.i2d ((p1 &&& (1048575 : Int32)) + (1 : Int32)))), .second, .val (.double (FP.i2d (p2 &&& (16777215 : Int32)))), .second, .val (.double (FP.i2d (p3 &&& (16777215 : Int32)))), .second, .unset, .unset, .unset] [(.int (p4 &&& (7 : Int32)))]))) (fun t k => XS.iand X0.here hx rfl (hb hby at_38) rfl k) ?_
  refine OD.go (B := (s₁.setTop (mkF m 41 #[.val (.int p0), .val (.int p1), .val (.int p2), .val (.int p3), .val (.int p4), .val (.int (p0 &&& (1048575 : Int32))), .val (.float (FP.i2f (p0 &&& (1048575 : Int32)))), .val (.double (FP.i2d ((p1 &&& (1048575 : Int32)) + (1 : Int32)))), .second, .val (.double (FP.i2d (p2 &&& (16777215 : Int32)))), .second, .val (.double (FP.i2d (p3 &&& (16777215 : Int32)))), .second, .val (.int (p4 &&& (7 : Int32))), .unset, .unset] []))) (fun t k => XS.istore X0.here hx rfl (hb hby at_39) rfl (l' := #[.val (.int p0), .val (.int p1), .val (.int p2), .val (.int p3), .val (.int p4), .val (.int (p0 &&& (1048575 : Int32))), .val (.float (FP.i2f (p0 &&& (1048575 : Int32)))), .val (.double (FP.i2d ((p1 &&& (1048575 : Int32)) + (1 : Int32)))), .second, .val (.double (FP.i2d (p2 &&& (16777215 : Int32)))), .second, .val (.double (FP.i2d (p3 &&& (16777215 : Int32)))), .second, .val (.int (p4 &&& (7 : Int32))), .unset, .unset]) rfl k) ?_
  refine OD.go (B := (s₁.setTop (mkF m 43 #[.val (.int p0), .val (.int p1), .val (.int p2), .val (.int p3), .val (.int p4), .val (.int (p0 &&& (1048575 : Int32))), .val (.float (FP.i2f (p0 &&& (1048575 : Int32)))), .val (.double (FP.i2d ((p1 &&& (1048575 : Int32)) + (1 : Int32)))), .second, .val (.double (FP.i2d (p2 &&& (16777215 : Int32)))), .second, .val (.double (FP.i2d (p3 &&& (16777215 : Int32)))), .second, .val (.int (p4 &&& (7 : Int32))), .unset, .unset] [(.int (p4 &&& (7 : Int32)))]))) (fun t k => XS.iload X0.here hx rfl (hb hby at_41) rfl k) ?_
  by_cases c43_1 : (p4 &&& (7 : Int32)) = (0 : Int32)
  · refine OD.go (B := (s₁.setTop (mkF m 46 #[.val (.int p0), .val (.int p1), .val (.int p2), .val (.int p3), .val (.int p4), .val (.int (p0 &&& (1048575 : Int32))), .val (.float (FP.i2f (p0 &&& (1048575 : Int32)))), .val (.double (FP.i2d ((p1 &&& (1048575 : Int32)) + (1 : Int32)))), .second, .val (.double (FP.i2d (p2 &&& (16777215 : Int32)))), .second, .val (.double (FP.i2d (p3 &&& (16777215 : Int32)))), .second, .val (.int (p4 &&& (7 : Int32))), .unset, .unset] []))) (fun t k => XS.ifNo X0.here hx rfl (hb hby at_43) rfl (by rw [if0]; exact (teq c43_1).2) k) ?_
    have q := own_m0 hvB hB hvP hP0 hP
    refine OD.go (B := (s₁.setTop (mkF m 48 #[.val (.int p0), .val (.int p1), .val (.int p2), .val (.int p3), .val (.int p4), .val (.int (p0 &&& (1048575 : Int32))), .val (.float (FP.i2f (p0 &&& (1048575 : Int32)))), .val (.double (FP.i2d ((p1 &&& (1048575 : Int32)) + (1 : Int32)))), .second, .val (.double (FP.i2d (p2 &&& (16777215 : Int32)))), .second, .val (.double (FP.i2d (p3 &&& (16777215 : Int32)))), .second, .val (.int (p4 &&& (7 : Int32))), .unset, .unset] [(.float (FP.i2f (p0 &&& (1048575 : Int32))))]))) (fun t k => XS.fload X0.here hx rfl (hb hby at_46) rfl k) ?_
    refine OD.go (B := (s₁.setTop (mkF m 50 #[.val (.int p0), .val (.int p1), .val (.int p2), .val (.int p3), .val (.int p4), .val (.int (p0 &&& (1048575 : Int32))), .val (.float (FP.i2f (p0 &&& (1048575 : Int32)))), .val (.double (FP.i2d ((p1 &&& (1048575 : Int32)) + (1 : Int32)))), .second, .val (.double (FP.i2d (p2 &&& (16777215 : Int32)))), .second, .val (.double (FP.i2d (p3 &&& (16777215 : Int32)))), .second, .val (.int (p4 &&& (7 : Int32))), .unset, .unset] [(.double (FP.i2d ((p1 &&& (1048575 : Int32)) + (1 : Int32)))), (.float (FP.i2f (p0 &&& (1048575 : Int32))))]))) (fun t k => XS.dload X0.here hx rfl (hb hby at_48) rfl k) ?_
    refine OD.go (B := (s₁.setTop (mkF m 51 #[.val (.int p0), .val (.int p1), .val (.int p2), .val (.int p3), .val (.int p4), .val (.int (p0 &&& (1048575 : Int32))), .val (.float (FP.i2f (p0 &&& (1048575 : Int32)))), .val (.double (FP.i2d ((p1 &&& (1048575 : Int32)) + (1 : Int32)))), .second, .val (.double (FP.i2d (p2 &&& (16777215 : Int32)))), .second, .val (.double (FP.i2d (p3 &&& (16777215 : Int32)))), .second, .val (.int (p4 &&& (7 : Int32))), .unset, .unset] [(.double FP.dconst0), (.double (FP.i2d ((p1 &&& (1048575 : Int32)) + (1 : Int32)))), (.float (FP.i2f (p0 &&& (1048575 : Int32))))]))) (fun t k => XS.dconst0 X0.here hx rfl (hb hby at_50) (v := FP.dconst0) rfl k) ?_
    obtain ⟨_, _, ⟨T2, L2, k2, n2⟩, -, X2, ⟨Lc2, hQ2, l2, y2, z2⟩, st2⟩ := Jvm.LawKit.callS X0 hx (y := (⟨"com/example/tight_pivot/tightpivot/ProximityScore", "score", "(FDD)F"⟩ : MethodName)) hown (mvT hZ (Wd2 hw)) (mvT hZ (Wd3 hw)) (mvT hZ (Wd4 hw)) (mvT hZ (Wd5 hw)) (by decide) (backOf (W := 0) (rmS l Z a0 hw [] (FP.i2f (p0 &&& (1048575 : Int32))) (FP.i2d ((p1 &&& (1048575 : Int32)) + (1 : Int32))) FP.dconst0 h0 q.1) hZ (Wd5 hw) (Wd4 hw) (by decide) (by decide)) (g := (mkF m 51 #[.val (.int p0), .val (.int p1), .val (.int p2), .val (.int p3), .val (.int p4), .val (.int (p0 &&& (1048575 : Int32))), .val (.float (FP.i2f (p0 &&& (1048575 : Int32)))), .val (.double (FP.i2d ((p1 &&& (1048575 : Int32)) + (1 : Int32)))), .second, .val (.double (FP.i2d (p2 &&& (16777215 : Int32)))), .second, .val (.double (FP.i2d (p3 &&& (16777215 : Int32)))), .second, .val (.int (p4 &&& (7 : Int32))), .unset, .unset] [(.double FP.dconst0), (.double (FP.i2d ((p1 &&& (1048575 : Int32)) + (1 : Int32)))), (.float (FP.i2f (p0 &&& (1048575 : Int32))))])) rfl (by rw [hml]; rfl) (argsL := [(.float (FP.i2f (p0 &&& (1048575 : Int32)))), (.double (FP.i2d ((p1 &&& (1048575 : Int32)) + (1 : Int32)))), (.double FP.dconst0)]) (rest := []) (lenOf pd0 rfl) rfl (by show 2 * 0 + _ ≤ _; exact Nat.le_of_eq rfl) (hb hby at_51) (fun _ _ => ⟨rfl, e0, (Nat.le_of_ble_eq_true rfl), (Nat.le_of_ble_eq_true rfl)⟩)
    dsimp only [Pt.U, Pt.locs, Pt.cells, Pt.slots] at X2 l2 y2 z2 st2 hQ2
    subst l2 y2 z2
    obtain ⟨rfl, rfl, e2⟩ := hQ2
    refine OD.go (B := (T2.setTop (mkF m 54 #[.val (.int p0), .val (.int p1), .val (.int p2), .val (.int p3), .val (.int p4), .val (.int (p0 &&& (1048575 : Int32))), .val (.float (FP.i2f (p0 &&& (1048575 : Int32)))), .val (.double (FP.i2d ((p1 &&& (1048575 : Int32)) + (1 : Int32)))), .second, .val (.double (FP.i2d (p2 &&& (16777215 : Int32)))), .second, .val (.double (FP.i2d (p3 &&& (16777215 : Int32)))), .second, .val (.int (p4 &&& (7 : Int32))), .unset, .unset] [(.float (own_sc (FP.i2f (p0 &&& (1048575 : Int32))) (FP.i2d ((p1 &&& (1048575 : Int32)) + (1 : Int32))) FP.dconst0))]))) st2 ?_
    refine OD.go (B := (T2.setTop (mkF m 56 #[.val (.int p0), .val (.int p1), .val (.int p2), .val (.int p3), .val (.int p4), .val (.int (p0 &&& (1048575 : Int32))), .val (.float (FP.i2f (p0 &&& (1048575 : Int32)))), .val (.double (FP.i2d ((p1 &&& (1048575 : Int32)) + (1 : Int32)))), .second, .val (.double (FP.i2d (p2 &&& (16777215 : Int32)))), .second, .val (.double (FP.i2d (p3 &&& (16777215 : Int32)))), .second, .val (.int (p4 &&& (7 : Int32))), .unset, .unset] [(.float (FP.i2f (p0 &&& (1048575 : Int32)))), (.float (own_sc (FP.i2f (p0 &&& (1048575 : Int32))) (FP.i2d ((p1 &&& (1048575 : Int32)) + (1 : Int32))) FP.dconst0))]))) (fun t k => XS.fload X2.here hx rfl (hb hby at_54) rfl k) ?_
    refine OD.go (B := (T2.setTop (mkF m 57 #[.val (.int p0), .val (.int p1), .val (.int p2), .val (.int p3), .val (.int p4), .val (.int (p0 &&& (1048575 : Int32))), .val (.float (FP.i2f (p0 &&& (1048575 : Int32)))), .val (.double (FP.i2d ((p1 &&& (1048575 : Int32)) + (1 : Int32)))), .second, .val (.double (FP.i2d (p2 &&& (16777215 : Int32)))), .second, .val (.double (FP.i2d (p3 &&& (16777215 : Int32)))), .second, .val (.int (p4 &&& (7 : Int32))), .unset, .unset] [(.int (cmpValue (FP.fcmp (own_sc (FP.i2f (p0 &&& (1048575 : Int32))) (FP.i2d ((p1 &&& (1048575 : Int32)) + (1 : Int32))) FP.dconst0) (FP.i2f (p0 &&& (1048575 : Int32)))) .l))]))) (fun t k => XS.fcmpS X2.here hx rfl (hb hby at_56) rfl (v := (cmpValue (FP.fcmp (own_sc (FP.i2f (p0 &&& (1048575 : Int32))) (FP.i2d ((p1 &&& (1048575 : Int32)) + (1 : Int32))) FP.dconst0) (FP.i2f (p0 &&& (1048575 : Int32)))) .l)) rfl k) ?_
    refine OD.go (B := (T2.setTop (mkF m 60 #[.val (.int p0), .val (.int p1), .val (.int p2), .val (.int p3), .val (.int p4), .val (.int (p0 &&& (1048575 : Int32))), .val (.float (FP.i2f (p0 &&& (1048575 : Int32)))), .val (.double (FP.i2d ((p1 &&& (1048575 : Int32)) + (1 : Int32)))), .second, .val (.double (FP.i2d (p2 &&& (16777215 : Int32)))), .second, .val (.double (FP.i2d (p3 &&& (16777215 : Int32)))), .second, .val (.int (p4 &&& (7 : Int32))), .unset, .unset] []))) (fun t k => XS.ifNo X2.here hx rfl (hb hby at_57) rfl (by rw [if0]; exact (teq q.2).2) k) ?_
    refine OD.go (B := (T2.setTop (mkF m 61 #[.val (.int p0), .val (.int p1), .val (.int p2), .val (.int p3), .val (.int p4), .val (.int (p0 &&& (1048575 : Int32))), .val (.float (FP.i2f (p0 &&& (1048575 : Int32)))), .val (.double (FP.i2d ((p1 &&& (1048575 : Int32)) + (1 : Int32)))), .second, .val (.double (FP.i2d (p2 &&& (16777215 : Int32)))), .second, .val (.double (FP.i2d (p3 &&& (16777215 : Int32)))), .second, .val (.int (p4 &&& (7 : Int32))), .unset, .unset] [(.int (1 : Int32))]))) (fun t k => XS.iconst X2.here hx rfl (hb hby at_60) k) ?_
    refine OD.go (B := (T2.setTop (mkF m 65 #[.val (.int p0), .val (.int p1), .val (.int p2), .val (.int p3), .val (.int p4), .val (.int (p0 &&& (1048575 : Int32))), .val (.float (FP.i2f (p0 &&& (1048575 : Int32)))), .val (.double (FP.i2d ((p1 &&& (1048575 : Int32)) + (1 : Int32)))), .second, .val (.double (FP.i2d (p2 &&& (16777215 : Int32)))), .second, .val (.double (FP.i2d (p3 &&& (16777215 : Int32)))), .second, .val (.int (p4 &&& (7 : Int32))), .unset, .unset] [(.int (1 : Int32))]))) (fun t k => XS.goto X2.here hx rfl (pc0 := 61) (pc' := 65) rfl (hb hby at_61) (by decide) (by decide) k) ?_
    exact OD.ret X2 hx hlk (t := .boolean) Bd.returns rfl (Or.inl ⟨rfl, Or.inr (Or.inl rfl), _, rfl⟩) (hb hby at_65) (Nat.le_of_ble_eq_true rfl) (Nat.le_of_ble_eq_true rfl) ⟨rfl, Fr.nil _⟩
  · refine OD.go (B := (s₁.setTop (mkF m 66 #[.val (.int p0), .val (.int p1), .val (.int p2), .val (.int p3), .val (.int p4), .val (.int (p0 &&& (1048575 : Int32))), .val (.float (FP.i2f (p0 &&& (1048575 : Int32)))), .val (.double (FP.i2d ((p1 &&& (1048575 : Int32)) + (1 : Int32)))), .second, .val (.double (FP.i2d (p2 &&& (16777215 : Int32)))), .second, .val (.double (FP.i2d (p3 &&& (16777215 : Int32)))), .second, .val (.int (p4 &&& (7 : Int32))), .unset, .unset] []))) (fun t k => XS.ifYes X0.here hx rfl (pc0 := 43) (pc' := 66) rfl (hb hby at_43) rfl (by rw [if0]; exact (feq c43_1).2) (by decide) (by decide) k) ?_
    refine OD.go (B := (s₁.setTop (mkF m 68 #[.val (.int p0), .val (.int p1), .val (.int p2), .val (.int p3), .val (.int p4), .val (.int (p0 &&& (1048575 : Int32))), .val (.float (FP.i2f (p0 &&& (1048575 : Int32)))), .val (.double (FP.i2d ((p1 &&& (1048575 : Int32)) + (1 : Int32)))), .second, .val (.double (FP.i2d (p2 &&& (16777215 : Int32)))), .second, .val (.double (FP.i2d (p3 &&& (16777215 : Int32)))), .second, .val (.int (p4 &&& (7 : Int32))), .unset, .unset] [(.int (p4 &&& (7 : Int32)))]))) (fun t k => XS.iload X0.here hx rfl (hb hby at_66) rfl k) ?_
    refine OD.go (B := (s₁.setTop (mkF m 69 #[.val (.int p0), .val (.int p1), .val (.int p2), .val (.int p3), .val (.int p4), .val (.int (p0 &&& (1048575 : Int32))), .val (.float (FP.i2f (p0 &&& (1048575 : Int32)))), .val (.double (FP.i2d ((p1 &&& (1048575 : Int32)) + (1 : Int32)))), .second, .val (.double (FP.i2d (p2 &&& (16777215 : Int32)))), .second, .val (.double (FP.i2d (p3 &&& (16777215 : Int32)))), .second, .val (.int (p4 &&& (7 : Int32))), .unset, .unset] [(.int (1 : Int32)), (.int (p4 &&& (7 : Int32)))]))) (fun t k => XS.iconst X0.here hx rfl (hb hby at_68) k) ?_
    by_cases c69_3 : (p4 &&& (7 : Int32)) = (1 : Int32)
    · refine OD.go (B := (s₁.setTop (mkF m 72 #[.val (.int p0), .val (.int p1), .val (.int p2), .val (.int p3), .val (.int p4), .val (.int (p0 &&& (1048575 : Int32))), .val (.float (FP.i2f (p0 &&& (1048575 : Int32)))), .val (.double (FP.i2d ((p1 &&& (1048575 : Int32)) + (1 : Int32)))), .second, .val (.double (FP.i2d (p2 &&& (16777215 : Int32)))), .second, .val (.double (FP.i2d (p3 &&& (16777215 : Int32)))), .second, .val (.int (p4 &&& (7 : Int32))), .unset, .unset] []))) (fun t k => XS.icmpNo X0.here hx rfl (hb hby at_69) rfl (teq c69_3).2 k) ?_
      have q := own_m1 hvB hB hvP hP0 hP
      refine OD.go (B := (s₁.setTop (mkF m 74 #[.val (.int p0), .val (.int p1), .val (.int p2), .val (.int p3), .val (.int p4), .val (.int (p0 &&& (1048575 : Int32))), .val (.float (FP.i2f (p0 &&& (1048575 : Int32)))), .val (.double (FP.i2d ((p1 &&& (1048575 : Int32)) + (1 : Int32)))), .second, .val (.double (FP.i2d (p2 &&& (16777215 : Int32)))), .second, .val (.double (FP.i2d (p3 &&& (16777215 : Int32)))), .second, .val (.int (p4 &&& (7 : Int32))), .unset, .unset] [(.float (FP.i2f (p0 &&& (1048575 : Int32))))]))) (fun t k => XS.fload X0.here hx rfl (hb hby at_72) rfl k) ?_
      refine OD.go (B := (s₁.setTop (mkF m 76 #[.val (.int p0), .val (.int p1), .val (.int p2), .val (.int p3), .val (.int p4), .val (.int (p0 &&& (1048575 : Int32))), .val (.float (FP.i2f (p0 &&& (1048575 : Int32)))), .val (.double (FP.i2d ((p1 &&& (1048575 : Int32)) + (1 : Int32)))), .second, .val (.double (FP.i2d (p2 &&& (16777215 : Int32)))), .second, .val (.double (FP.i2d (p3 &&& (16777215 : Int32)))), .second, .val (.int (p4 &&& (7 : Int32))), .unset, .unset] [(.double (FP.i2d ((p1 &&& (1048575 : Int32)) + (1 : Int32)))), (.float (FP.i2f (p0 &&& (1048575 : Int32))))]))) (fun t k => XS.dload X0.here hx rfl (hb hby at_74) rfl k) ?_
      refine OD.go (B := (s₁.setTop (mkF m 78 #[.val (.int p0), .val (.int p1), .val (.int p2), .val (.int p3), .val (.int p4), .val (.int (p0 &&& (1048575 : Int32))), .val (.float (FP.i2f (p0 &&& (1048575 : Int32)))), .val (.double (FP.i2d ((p1 &&& (1048575 : Int32)) + (1 : Int32)))), .second, .val (.double (FP.i2d (p2 &&& (16777215 : Int32)))), .second, .val (.double (FP.i2d (p3 &&& (16777215 : Int32)))), .second, .val (.int (p4 &&& (7 : Int32))), .unset, .unset] [(.double (FP.i2d ((p1 &&& (1048575 : Int32)) + (1 : Int32)))), (.double (FP.i2d ((p1 &&& (1048575 : Int32)) + (1 : Int32)))), (.float (FP.i2f (p0 &&& (1048575 : Int32))))]))) (fun t k => XS.dload X0.here hx rfl (hb hby at_76) rfl k) ?_
      obtain ⟨_, _, ⟨T4, L4, k4, n4⟩, -, X4, ⟨Lc4, hQ4, l4, y4, z4⟩, st4⟩ := Jvm.LawKit.callS X0 hx (y := (⟨"com/example/tight_pivot/tightpivot/ProximityScore", "score", "(FDD)F"⟩ : MethodName)) hown (mvT hZ (Wd2 hw)) (mvT hZ (Wd3 hw)) (mvT hZ (Wd4 hw)) (mvT hZ (Wd5 hw)) (by decide) (backOf (W := 0) (rmS l Z a0 hw [] (FP.i2f (p0 &&& (1048575 : Int32))) (FP.i2d ((p1 &&& (1048575 : Int32)) + (1 : Int32))) (FP.i2d ((p1 &&& (1048575 : Int32)) + (1 : Int32))) h0 q.1) hZ (Wd5 hw) (Wd4 hw) (by decide) (by decide)) (g := (mkF m 78 #[.val (.int p0), .val (.int p1), .val (.int p2), .val (.int p3), .val (.int p4), .val (.int (p0 &&& (1048575 : Int32))), .val (.float (FP.i2f (p0 &&& (1048575 : Int32)))), .val (.double (FP.i2d ((p1 &&& (1048575 : Int32)) + (1 : Int32)))), .second, .val (.double (FP.i2d (p2 &&& (16777215 : Int32)))), .second, .val (.double (FP.i2d (p3 &&& (16777215 : Int32)))), .second, .val (.int (p4 &&& (7 : Int32))), .unset, .unset] [(.double (FP.i2d ((p1 &&& (1048575 : Int32)) + (1 : Int32)))), (.double (FP.i2d ((p1 &&& (1048575 : Int32)) + (1 : Int32)))), (.float (FP.i2f (p0 &&& (1048575 : Int32))))])) rfl (by rw [hml]; rfl) (argsL := [(.float (FP.i2f (p0 &&& (1048575 : Int32)))), (.double (FP.i2d ((p1 &&& (1048575 : Int32)) + (1 : Int32)))), (.double (FP.i2d ((p1 &&& (1048575 : Int32)) + (1 : Int32))))]) (rest := []) (lenOf pd0 rfl) rfl (by show 2 * 0 + _ ≤ _; exact Nat.le_of_eq rfl) (hb hby at_78) (fun _ _ => ⟨rfl, e0, (Nat.le_of_ble_eq_true rfl), (Nat.le_of_ble_eq_true rfl)⟩)
      dsimp only [Pt.U, Pt.locs, Pt.cells, Pt.slots] at X4 l4 y4 z4 st4 hQ4
      subst l4 y4 z4
      obtain ⟨rfl, rfl, e4⟩ := hQ4
      refine OD.go (B := (T4.setTop (mkF m 81 #[.val (.int p0), .val (.int p1), .val (.int p2), .val (.int p3), .val (.int p4), .val (.int (p0 &&& (1048575 : Int32))), .val (.float (FP.i2f (p0 &&& (1048575 : Int32)))), .val (.double (FP.i2d ((p1 &&& (1048575 : Int32)) + (1 : Int32)))), .second, .val (.double (FP.i2d (p2 &&& (16777215 : Int32)))), .second, .val (.double (FP.i2d (p3 &&& (16777215 : Int32)))), .second, .val (.int (p4 &&& (7 : Int32))), .unset, .unset] [(.float (own_sc (FP.i2f (p0 &&& (1048575 : Int32))) (FP.i2d ((p1 &&& (1048575 : Int32)) + (1 : Int32))) (FP.i2d ((p1 &&& (1048575 : Int32)) + (1 : Int32)))))]))) st4 ?_
      refine OD.go (B := (T4.setTop (mkF m 83 #[.val (.int p0), .val (.int p1), .val (.int p2), .val (.int p3), .val (.int p4), .val (.int (p0 &&& (1048575 : Int32))), .val (.float (FP.i2f (p0 &&& (1048575 : Int32)))), .val (.double (FP.i2d ((p1 &&& (1048575 : Int32)) + (1 : Int32)))), .second, .val (.double (FP.i2d (p2 &&& (16777215 : Int32)))), .second, .val (.double (FP.i2d (p3 &&& (16777215 : Int32)))), .second, .val (.int (p4 &&& (7 : Int32))), .unset, .unset] [(.float (FP.i2f (p0 &&& (1048575 : Int32)))), (.float (own_sc (FP.i2f (p0 &&& (1048575 : Int32))) (FP.i2d ((p1 &&& (1048575 : Int32)) + (1 : Int32))) (FP.i2d ((p1 &&& (1048575 : Int32)) + (1 : Int32)))))]))) (fun t k => XS.fload X4.here hx rfl (hb hby at_81) rfl k) ?_
      refine OD.go (B := (T4.setTop (mkF m 85 #[.val (.int p0), .val (.int p1), .val (.int p2), .val (.int p3), .val (.int p4), .val (.int (p0 &&& (1048575 : Int32))), .val (.float (FP.i2f (p0 &&& (1048575 : Int32)))), .val (.double (FP.i2d ((p1 &&& (1048575 : Int32)) + (1 : Int32)))), .second, .val (.double (FP.i2d (p2 &&& (16777215 : Int32)))), .second, .val (.double (FP.i2d (p3 &&& (16777215 : Int32)))), .second, .val (.int (p4 &&& (7 : Int32))), .unset, .unset] [(.float (1056964608 : UInt32)), (.float (FP.i2f (p0 &&& (1048575 : Int32)))), (.float (own_sc (FP.i2f (p0 &&& (1048575 : Int32))) (FP.i2d ((p1 &&& (1048575 : Int32)) + (1 : Int32))) (FP.i2d ((p1 &&& (1048575 : Int32)) + (1 : Int32)))))]))) (fun t k => X4.ldcFloatC hx hown (mv hZ (Wd8 hw)) (g := (mkF m 83 #[.val (.int p0), .val (.int p1), .val (.int p2), .val (.int p3), .val (.int p4), .val (.int (p0 &&& (1048575 : Int32))), .val (.float (FP.i2f (p0 &&& (1048575 : Int32)))), .val (.double (FP.i2d ((p1 &&& (1048575 : Int32)) + (1 : Int32)))), .second, .val (.double (FP.i2d (p2 &&& (16777215 : Int32)))), .second, .val (.double (FP.i2d (p3 &&& (16777215 : Int32)))), .second, .val (.int (p4 &&& (7 : Int32))), .unset, .unset] [(.float (FP.i2f (p0 &&& (1048575 : Int32)))), (.float (own_sc (FP.i2f (p0 &&& (1048575 : Int32))) (FP.i2d ((p1 &&& (1048575 : Int32)) + (1 : Int32))) (FP.i2d ((p1 &&& (1048575 : Int32)) + (1 : Int32)))))])) rfl (hb hby at_83) _ k) ?_
      refine OD.go (B := (T4.setTop (mkF m 86 #[.val (.int p0), .val (.int p1), .val (.int p2), .val (.int p3), .val (.int p4), .val (.int (p0 &&& (1048575 : Int32))), .val (.float (FP.i2f (p0 &&& (1048575 : Int32)))), .val (.double (FP.i2d ((p1 &&& (1048575 : Int32)) + (1 : Int32)))), .second, .val (.double (FP.i2d (p2 &&& (16777215 : Int32)))), .second, .val (.double (FP.i2d (p3 &&& (16777215 : Int32)))), .second, .val (.int (p4 &&& (7 : Int32))), .unset, .unset] [(.float (FP.fmul (FP.i2f (p0 &&& (1048575 : Int32))) (1056964608 : UInt32))), (.float (own_sc (FP.i2f (p0 &&& (1048575 : Int32))) (FP.i2d ((p1 &&& (1048575 : Int32)) + (1 : Int32))) (FP.i2d ((p1 &&& (1048575 : Int32)) + (1 : Int32)))))]))) (fun t k => XS.fmulS X4.here hx rfl (hb hby at_85) rfl q.2.1 (v := (FP.fmul (FP.i2f (p0 &&& (1048575 : Int32))) (1056964608 : UInt32))) rfl k) ?_
      refine OD.go (B := (T4.setTop (mkF m 87 #[.val (.int p0), .val (.int p1), .val (.int p2), .val (.int p3), .val (.int p4), .val (.int (p0 &&& (1048575 : Int32))), .val (.float (FP.i2f (p0 &&& (1048575 : Int32)))), .val (.double (FP.i2d ((p1 &&& (1048575 : Int32)) + (1 : Int32)))), .second, .val (.double (FP.i2d (p2 &&& (16777215 : Int32)))), .second, .val (.double (FP.i2d (p3 &&& (16777215 : Int32)))), .second, .val (.int (p4 &&& (7 : Int32))), .unset, .unset] [(.int (cmpValue (FP.fcmp (own_sc (FP.i2f (p0 &&& (1048575 : Int32))) (FP.i2d ((p1 &&& (1048575 : Int32)) + (1 : Int32))) (FP.i2d ((p1 &&& (1048575 : Int32)) + (1 : Int32)))) (FP.fmul (FP.i2f (p0 &&& (1048575 : Int32))) (1056964608 : UInt32))) .l))]))) (fun t k => XS.fcmpS X4.here hx rfl (hb hby at_86) rfl (v := (cmpValue (FP.fcmp (own_sc (FP.i2f (p0 &&& (1048575 : Int32))) (FP.i2d ((p1 &&& (1048575 : Int32)) + (1 : Int32))) (FP.i2d ((p1 &&& (1048575 : Int32)) + (1 : Int32)))) (FP.fmul (FP.i2f (p0 &&& (1048575 : Int32))) (1056964608 : UInt32))) .l)) rfl k) ?_
      refine OD.go (B := (T4.setTop (mkF m 90 #[.val (.int p0), .val (.int p1), .val (.int p2), .val (.int p3), .val (.int p4), .val (.int (p0 &&& (1048575 : Int32))), .val (.float (FP.i2f (p0 &&& (1048575 : Int32)))), .val (.double (FP.i2d ((p1 &&& (1048575 : Int32)) + (1 : Int32)))), .second, .val (.double (FP.i2d (p2 &&& (16777215 : Int32)))), .second, .val (.double (FP.i2d (p3 &&& (16777215 : Int32)))), .second, .val (.int (p4 &&& (7 : Int32))), .unset, .unset] []))) (fun t k => XS.ifNo X4.here hx rfl (hb hby at_87) rfl (by rw [if0]; exact (teq q.2.2).2) k) ?_
      refine OD.go (B := (T4.setTop (mkF m 91 #[.val (.int p0), .val (.int p1), .val (.int p2), .val (.int p3), .val (.int p4), .val (.int (p0 &&& (1048575 : Int32))), .val (.float (FP.i2f (p0 &&& (1048575 : Int32)))), .val (.double (FP.i2d ((p1 &&& (1048575 : Int32)) + (1 : Int32)))), .second, .val (.double (FP.i2d (p2 &&& (16777215 : Int32)))), .second, .val (.double (FP.i2d (p3 &&& (16777215 : Int32)))), .second, .val (.int (p4 &&& (7 : Int32))), .unset, .unset] [(.int (1 : Int32))]))) (fun t k => XS.iconst X4.here hx rfl (hb hby at_90) k) ?_
      refine OD.go (B := (T4.setTop (mkF m 95 #[.val (.int p0), .val (.int p1), .val (.int p2), .val (.int p3), .val (.int p4), .val (.int (p0 &&& (1048575 : Int32))), .val (.float (FP.i2f (p0 &&& (1048575 : Int32)))), .val (.double (FP.i2d ((p1 &&& (1048575 : Int32)) + (1 : Int32)))), .second, .val (.double (FP.i2d (p2 &&& (16777215 : Int32)))), .second, .val (.double (FP.i2d (p3 &&& (16777215 : Int32)))), .second, .val (.int (p4 &&& (7 : Int32))), .unset, .unset] [(.int (1 : Int32))]))) (fun t k => XS.goto X4.here hx rfl (pc0 := 91) (pc' := 95) rfl (hb hby at_91) (by decide) (by decide) k) ?_
      exact OD.ret X4 hx hlk (t := .boolean) Bd.returns rfl (Or.inl ⟨rfl, Or.inr (Or.inl rfl), _, rfl⟩) (hb hby at_95) (Nat.le_of_ble_eq_true rfl) (Nat.le_of_ble_eq_true rfl) ⟨rfl, Fr.nil _⟩
    · refine OD.go (B := (s₁.setTop (mkF m 96 #[.val (.int p0), .val (.int p1), .val (.int p2), .val (.int p3), .val (.int p4), .val (.int (p0 &&& (1048575 : Int32))), .val (.float (FP.i2f (p0 &&& (1048575 : Int32)))), .val (.double (FP.i2d ((p1 &&& (1048575 : Int32)) + (1 : Int32)))), .second, .val (.double (FP.i2d (p2 &&& (16777215 : Int32)))), .second, .val (.double (FP.i2d (p3 &&& (16777215 : Int32)))), .second, .val (.int (p4 &&& (7 : Int32))), .unset, .unset] []))) (fun t k => XS.icmpYes X0.here hx rfl (pc0 := 69) (pc' := 96) rfl (hb hby at_69) rfl (feq c69_3).2 (by decide) (by decide) k) ?_
      refine OD.go (B := (s₁.setTop (mkF m 98 #[.val (.int p0), .val (.int p1), .val (.int p2), .val (.int p3), .val (.int p4), .val (.int (p0 &&& (1048575 : Int32))), .val (.float (FP.i2f (p0 &&& (1048575 : Int32)))), .val (.double (FP.i2d ((p1 &&& (1048575 : Int32)) + (1 : Int32)))), .second, .val (.double (FP.i2d (p2 &&& (16777215 : Int32)))), .second, .val (.double (FP.i2d (p3 &&& (16777215 : Int32)))), .second, .val (.int (p4 &&& (7 : Int32))), .unset, .unset] [(.int (p4 &&& (7 : Int32)))]))) (fun t k => XS.iload X0.here hx rfl (hb hby at_96) rfl k) ?_
      refine OD.go (B := (s₁.setTop (mkF m 99 #[.val (.int p0), .val (.int p1), .val (.int p2), .val (.int p3), .val (.int p4), .val (.int (p0 &&& (1048575 : Int32))), .val (.float (FP.i2f (p0 &&& (1048575 : Int32)))), .val (.double (FP.i2d ((p1 &&& (1048575 : Int32)) + (1 : Int32)))), .second, .val (.double (FP.i2d (p2 &&& (16777215 : Int32)))), .second, .val (.double (FP.i2d (p3 &&& (16777215 : Int32)))), .second, .val (.int (p4 &&& (7 : Int32))), .unset, .unset] [(.int (2 : Int32)), (.int (p4 &&& (7 : Int32)))]))) (fun t k => XS.iconst X0.here hx rfl (hb hby at_98) k) ?_
      by_cases c99_5 : (p4 &&& (7 : Int32)) = (2 : Int32)
      · refine OD.go (B := (s₁.setTop (mkF m 102 #[.val (.int p0), .val (.int p1), .val (.int p2), .val (.int p3), .val (.int p4), .val (.int (p0 &&& (1048575 : Int32))), .val (.float (FP.i2f (p0 &&& (1048575 : Int32)))), .val (.double (FP.i2d ((p1 &&& (1048575 : Int32)) + (1 : Int32)))), .second, .val (.double (FP.i2d (p2 &&& (16777215 : Int32)))), .second, .val (.double (FP.i2d (p3 &&& (16777215 : Int32)))), .second, .val (.int (p4 &&& (7 : Int32))), .unset, .unset] []))) (fun t k => XS.icmpNo X0.here hx rfl (hb hby at_99) rfl (teq c99_5).2 k) ?_
        have q := own_m2 hvB hB hvP hP0 hP
        refine OD.go (B := (s₁.setTop (mkF m 104 #[.val (.int p0), .val (.int p1), .val (.int p2), .val (.int p3), .val (.int p4), .val (.int (p0 &&& (1048575 : Int32))), .val (.float (FP.i2f (p0 &&& (1048575 : Int32)))), .val (.double (FP.i2d ((p1 &&& (1048575 : Int32)) + (1 : Int32)))), .second, .val (.double (FP.i2d (p2 &&& (16777215 : Int32)))), .second, .val (.double (FP.i2d (p3 &&& (16777215 : Int32)))), .second, .val (.int (p4 &&& (7 : Int32))), .unset, .unset] [(.float (FP.i2f (p0 &&& (1048575 : Int32))))]))) (fun t k => XS.fload X0.here hx rfl (hb hby at_102) rfl k) ?_
        refine OD.go (B := (s₁.setTop (mkF m 106 #[.val (.int p0), .val (.int p1), .val (.int p2), .val (.int p3), .val (.int p4), .val (.int (p0 &&& (1048575 : Int32))), .val (.float (FP.i2f (p0 &&& (1048575 : Int32)))), .val (.double (FP.i2d ((p1 &&& (1048575 : Int32)) + (1 : Int32)))), .second, .val (.double (FP.i2d (p2 &&& (16777215 : Int32)))), .second, .val (.double (FP.i2d (p3 &&& (16777215 : Int32)))), .second, .val (.int (p4 &&& (7 : Int32))), .unset, .unset] [(.double (FP.i2d ((p1 &&& (1048575 : Int32)) + (1 : Int32)))), (.float (FP.i2f (p0 &&& (1048575 : Int32))))]))) (fun t k => XS.dload X0.here hx rfl (hb hby at_104) rfl k) ?_
        refine OD.go (B := (s₁.setTop (mkF m 109 #[.val (.int p0), .val (.int p1), .val (.int p2), .val (.int p3), .val (.int p4), .val (.int (p0 &&& (1048575 : Int32))), .val (.float (FP.i2f (p0 &&& (1048575 : Int32)))), .val (.double (FP.i2d ((p1 &&& (1048575 : Int32)) + (1 : Int32)))), .second, .val (.double (FP.i2d (p2 &&& (16777215 : Int32)))), .second, .val (.double (FP.i2d (p3 &&& (16777215 : Int32)))), .second, .val (.int (p4 &&& (7 : Int32))), .unset, .unset] [(.double (4613937818241073152 : UInt64)), (.double (FP.i2d ((p1 &&& (1048575 : Int32)) + (1 : Int32)))), (.float (FP.i2f (p0 &&& (1048575 : Int32))))]))) (fun t k => X0.ldc2DoubleC hx hown (mv hZ (Wd12 hw)) (g := (mkF m 106 #[.val (.int p0), .val (.int p1), .val (.int p2), .val (.int p3), .val (.int p4), .val (.int (p0 &&& (1048575 : Int32))), .val (.float (FP.i2f (p0 &&& (1048575 : Int32)))), .val (.double (FP.i2d ((p1 &&& (1048575 : Int32)) + (1 : Int32)))), .second, .val (.double (FP.i2d (p2 &&& (16777215 : Int32)))), .second, .val (.double (FP.i2d (p3 &&& (16777215 : Int32)))), .second, .val (.int (p4 &&& (7 : Int32))), .unset, .unset] [(.double (FP.i2d ((p1 &&& (1048575 : Int32)) + (1 : Int32)))), (.float (FP.i2f (p0 &&& (1048575 : Int32))))])) rfl (hb hby at_106) _ k) ?_
        refine OD.go (B := (s₁.setTop (mkF m 111 #[.val (.int p0), .val (.int p1), .val (.int p2), .val (.int p3), .val (.int p4), .val (.int (p0 &&& (1048575 : Int32))), .val (.float (FP.i2f (p0 &&& (1048575 : Int32)))), .val (.double (FP.i2d ((p1 &&& (1048575 : Int32)) + (1 : Int32)))), .second, .val (.double (FP.i2d (p2 &&& (16777215 : Int32)))), .second, .val (.double (FP.i2d (p3 &&& (16777215 : Int32)))), .second, .val (.int (p4 &&& (7 : Int32))), .unset, .unset] [(.double (FP.i2d ((p1 &&& (1048575 : Int32)) + (1 : Int32)))), (.double (4613937818241073152 : UInt64)), (.double (FP.i2d ((p1 &&& (1048575 : Int32)) + (1 : Int32)))), (.float (FP.i2f (p0 &&& (1048575 : Int32))))]))) (fun t k => XS.dload X0.here hx rfl (hb hby at_109) rfl k) ?_
        refine OD.go (B := (s₁.setTop (mkF m 112 #[.val (.int p0), .val (.int p1), .val (.int p2), .val (.int p3), .val (.int p4), .val (.int (p0 &&& (1048575 : Int32))), .val (.float (FP.i2f (p0 &&& (1048575 : Int32)))), .val (.double (FP.i2d ((p1 &&& (1048575 : Int32)) + (1 : Int32)))), .second, .val (.double (FP.i2d (p2 &&& (16777215 : Int32)))), .second, .val (.double (FP.i2d (p3 &&& (16777215 : Int32)))), .second, .val (.int (p4 &&& (7 : Int32))), .unset, .unset] [(.double (FP.dmul (4613937818241073152 : UInt64) (FP.i2d ((p1 &&& (1048575 : Int32)) + (1 : Int32))))), (.double (FP.i2d ((p1 &&& (1048575 : Int32)) + (1 : Int32)))), (.float (FP.i2f (p0 &&& (1048575 : Int32))))]))) (fun t k => XS.dmulS X0.here hx rfl (hb hby at_111) rfl q.1 (v := (FP.dmul (4613937818241073152 : UInt64) (FP.i2d ((p1 &&& (1048575 : Int32)) + (1 : Int32))))) rfl k) ?_
        obtain ⟨_, _, ⟨T6, L6, k6, n6⟩, -, X6, ⟨Lc6, hQ6, l6, y6, z6⟩, st6⟩ := Jvm.LawKit.callS X0 hx (y := (⟨"com/example/tight_pivot/tightpivot/ProximityScore", "score", "(FDD)F"⟩ : MethodName)) hown (mvT hZ (Wd2 hw)) (mvT hZ (Wd3 hw)) (mvT hZ (Wd4 hw)) (mvT hZ (Wd5 hw)) (by decide) (backOf (W := 0) (rmS l Z a0 hw [] (FP.i2f (p0 &&& (1048575 : Int32))) (FP.i2d ((p1 &&& (1048575 : Int32)) + (1 : Int32))) (FP.dmul (4613937818241073152 : UInt64) (FP.i2d ((p1 &&& (1048575 : Int32)) + (1 : Int32)))) h0 q.2.1) hZ (Wd5 hw) (Wd4 hw) (by decide) (by decide)) (g := (mkF m 112 #[.val (.int p0), .val (.int p1), .val (.int p2), .val (.int p3), .val (.int p4), .val (.int (p0 &&& (1048575 : Int32))), .val (.float (FP.i2f (p0 &&& (1048575 : Int32)))), .val (.double (FP.i2d ((p1 &&& (1048575 : Int32)) + (1 : Int32)))), .second, .val (.double (FP.i2d (p2 &&& (16777215 : Int32)))), .second, .val (.double (FP.i2d (p3 &&& (16777215 : Int32)))), .second, .val (.int (p4 &&& (7 : Int32))), .unset, .unset] [(.double (FP.dmul (4613937818241073152 : UInt64) (FP.i2d ((p1 &&& (1048575 : Int32)) + (1 : Int32))))), (.double (FP.i2d ((p1 &&& (1048575 : Int32)) + (1 : Int32)))), (.float (FP.i2f (p0 &&& (1048575 : Int32))))])) rfl (by rw [hml]; rfl) (argsL := [(.float (FP.i2f (p0 &&& (1048575 : Int32)))), (.double (FP.i2d ((p1 &&& (1048575 : Int32)) + (1 : Int32)))), (.double (FP.dmul (4613937818241073152 : UInt64) (FP.i2d ((p1 &&& (1048575 : Int32)) + (1 : Int32)))))]) (rest := []) (lenOf pd0 rfl) rfl (by show 2 * 0 + _ ≤ _; exact Nat.le_of_eq rfl) (hb hby at_112) (fun _ _ => ⟨rfl, e0, (Nat.le_of_ble_eq_true rfl), (Nat.le_of_ble_eq_true rfl)⟩)
        dsimp only [Pt.U, Pt.locs, Pt.cells, Pt.slots] at X6 l6 y6 z6 st6 hQ6
        subst l6 y6 z6
        obtain ⟨rfl, rfl, e6⟩ := hQ6
        refine OD.go (B := (T6.setTop (mkF m 115 #[.val (.int p0), .val (.int p1), .val (.int p2), .val (.int p3), .val (.int p4), .val (.int (p0 &&& (1048575 : Int32))), .val (.float (FP.i2f (p0 &&& (1048575 : Int32)))), .val (.double (FP.i2d ((p1 &&& (1048575 : Int32)) + (1 : Int32)))), .second, .val (.double (FP.i2d (p2 &&& (16777215 : Int32)))), .second, .val (.double (FP.i2d (p3 &&& (16777215 : Int32)))), .second, .val (.int (p4 &&& (7 : Int32))), .unset, .unset] [(.float (own_sc (FP.i2f (p0 &&& (1048575 : Int32))) (FP.i2d ((p1 &&& (1048575 : Int32)) + (1 : Int32))) (FP.dmul (4613937818241073152 : UInt64) (FP.i2d ((p1 &&& (1048575 : Int32)) + (1 : Int32))))))]))) st6 ?_
        refine OD.go (B := (T6.setTop (mkF m 117 #[.val (.int p0), .val (.int p1), .val (.int p2), .val (.int p3), .val (.int p4), .val (.int (p0 &&& (1048575 : Int32))), .val (.float (FP.i2f (p0 &&& (1048575 : Int32)))), .val (.double (FP.i2d ((p1 &&& (1048575 : Int32)) + (1 : Int32)))), .second, .val (.double (FP.i2d (p2 &&& (16777215 : Int32)))), .second, .val (.double (FP.i2d (p3 &&& (16777215 : Int32)))), .second, .val (.int (p4 &&& (7 : Int32))), .unset, .unset] [(.float (FP.i2f (p0 &&& (1048575 : Int32)))), (.float (own_sc (FP.i2f (p0 &&& (1048575 : Int32))) (FP.i2d ((p1 &&& (1048575 : Int32)) + (1 : Int32))) (FP.dmul (4613937818241073152 : UInt64) (FP.i2d ((p1 &&& (1048575 : Int32)) + (1 : Int32))))))]))) (fun t k => XS.fload X6.here hx rfl (hb hby at_115) rfl k) ?_
        refine OD.go (B := (T6.setTop (mkF m 119 #[.val (.int p0), .val (.int p1), .val (.int p2), .val (.int p3), .val (.int p4), .val (.int (p0 &&& (1048575 : Int32))), .val (.float (FP.i2f (p0 &&& (1048575 : Int32)))), .val (.double (FP.i2d ((p1 &&& (1048575 : Int32)) + (1 : Int32)))), .second, .val (.double (FP.i2d (p2 &&& (16777215 : Int32)))), .second, .val (.double (FP.i2d (p3 &&& (16777215 : Int32)))), .second, .val (.int (p4 &&& (7 : Int32))), .unset, .unset] [(.float (1048576000 : UInt32)), (.float (FP.i2f (p0 &&& (1048575 : Int32)))), (.float (own_sc (FP.i2f (p0 &&& (1048575 : Int32))) (FP.i2d ((p1 &&& (1048575 : Int32)) + (1 : Int32))) (FP.dmul (4613937818241073152 : UInt64) (FP.i2d ((p1 &&& (1048575 : Int32)) + (1 : Int32))))))]))) (fun t k => X6.ldcFloatC hx hown (mv hZ (Wd13 hw)) (g := (mkF m 117 #[.val (.int p0), .val (.int p1), .val (.int p2), .val (.int p3), .val (.int p4), .val (.int (p0 &&& (1048575 : Int32))), .val (.float (FP.i2f (p0 &&& (1048575 : Int32)))), .val (.double (FP.i2d ((p1 &&& (1048575 : Int32)) + (1 : Int32)))), .second, .val (.double (FP.i2d (p2 &&& (16777215 : Int32)))), .second, .val (.double (FP.i2d (p3 &&& (16777215 : Int32)))), .second, .val (.int (p4 &&& (7 : Int32))), .unset, .unset] [(.float (FP.i2f (p0 &&& (1048575 : Int32)))), (.float (own_sc (FP.i2f (p0 &&& (1048575 : Int32))) (FP.i2d ((p1 &&& (1048575 : Int32)) + (1 : Int32))) (FP.dmul (4613937818241073152 : UInt64) (FP.i2d ((p1 &&& (1048575 : Int32)) + (1 : Int32))))))])) rfl (hb hby at_117) _ k) ?_
        refine OD.go (B := (T6.setTop (mkF m 120 #[.val (.int p0), .val (.int p1), .val (.int p2), .val (.int p3), .val (.int p4), .val (.int (p0 &&& (1048575 : Int32))), .val (.float (FP.i2f (p0 &&& (1048575 : Int32)))), .val (.double (FP.i2d ((p1 &&& (1048575 : Int32)) + (1 : Int32)))), .second, .val (.double (FP.i2d (p2 &&& (16777215 : Int32)))), .second, .val (.double (FP.i2d (p3 &&& (16777215 : Int32)))), .second, .val (.int (p4 &&& (7 : Int32))), .unset, .unset] [(.float (FP.fmul (FP.i2f (p0 &&& (1048575 : Int32))) (1048576000 : UInt32))), (.float (own_sc (FP.i2f (p0 &&& (1048575 : Int32))) (FP.i2d ((p1 &&& (1048575 : Int32)) + (1 : Int32))) (FP.dmul (4613937818241073152 : UInt64) (FP.i2d ((p1 &&& (1048575 : Int32)) + (1 : Int32))))))]))) (fun t k => XS.fmulS X6.here hx rfl (hb hby at_119) rfl q.2.2.1 (v := (FP.fmul (FP.i2f (p0 &&& (1048575 : Int32))) (1048576000 : UInt32))) rfl k) ?_
        refine OD.go (B := (T6.setTop (mkF m 121 #[.val (.int p0), .val (.int p1), .val (.int p2), .val (.int p3), .val (.int p4), .val (.int (p0 &&& (1048575 : Int32))), .val (.float (FP.i2f (p0 &&& (1048575 : Int32)))), .val (.double (FP.i2d ((p1 &&& (1048575 : Int32)) + (1 : Int32)))), .second, .val (.double (FP.i2d (p2 &&& (16777215 : Int32)))), .second, .val (.double (FP.i2d (p3 &&& (16777215 : Int32)))), .second, .val (.int (p4 &&& (7 : Int32))), .unset, .unset] [(.int (cmpValue (FP.fcmp (own_sc (FP.i2f (p0 &&& (1048575 : Int32))) (FP.i2d ((p1 &&& (1048575 : Int32)) + (1 : Int32))) (FP.dmul (4613937818241073152 : UInt64) (FP.i2d ((p1 &&& (1048575 : Int32)) + (1 : Int32))))) (FP.fmul (FP.i2f (p0 &&& (1048575 : Int32))) (1048576000 : UInt32))) .l))]))) (fun t k => XS.fcmpS X6.here hx rfl (hb hby at_120) rfl (v := (cmpValue (FP.fcmp (own_sc (FP.i2f (p0 &&& (1048575 : Int32))) (FP.i2d ((p1 &&& (1048575 : Int32)) + (1 : Int32))) (FP.dmul (4613937818241073152 : UInt64) (FP.i2d ((p1 &&& (1048575 : Int32)) + (1 : Int32))))) (FP.fmul (FP.i2f (p0 &&& (1048575 : Int32))) (1048576000 : UInt32))) .l)) rfl k) ?_
        refine OD.go (B := (T6.setTop (mkF m 124 #[.val (.int p0), .val (.int p1), .val (.int p2), .val (.int p3), .val (.int p4), .val (.int (p0 &&& (1048575 : Int32))), .val (.float (FP.i2f (p0 &&& (1048575 : Int32)))), .val (.double (FP.i2d ((p1 &&& (1048575 : Int32)) + (1 : Int32)))), .second, .val (.double (FP.i2d (p2 &&& (16777215 : Int32)))), .second, .val (.double (FP.i2d (p3 &&& (16777215 : Int32)))), .second, .val (.int (p4 &&& (7 : Int32))), .unset, .unset] []))) (fun t k => XS.ifNo X6.here hx rfl (hb hby at_121) rfl (by rw [if0]; exact (teq q.2.2.2).2) k) ?_
        refine OD.go (B := (T6.setTop (mkF m 125 #[.val (.int p0), .val (.int p1), .val (.int p2), .val (.int p3), .val (.int p4), .val (.int (p0 &&& (1048575 : Int32))), .val (.float (FP.i2f (p0 &&& (1048575 : Int32)))), .val (.double (FP.i2d ((p1 &&& (1048575 : Int32)) + (1 : Int32)))), .second, .val (.double (FP.i2d (p2 &&& (16777215 : Int32)))), .second, .val (.double (FP.i2d (p3 &&& (16777215 : Int32)))), .second, .val (.int (p4 &&& (7 : Int32))), .unset, .unset] [(.int (1 : Int32))]))) (fun t k => XS.iconst X6.here hx rfl (hb hby at_124) k) ?_
        refine OD.go (B := (T6.setTop (mkF m 129 #[.val (.int p0), .val (.int p1), .val (.int p2), .val (.int p3), .val (.int p4), .val (.int (p0 &&& (1048575 : Int32))), .val (.float (FP.i2f (p0 &&& (1048575 : Int32)))), .val (.double (FP.i2d ((p1 &&& (1048575 : Int32)) + (1 : Int32)))), .second, .val (.double (FP.i2d (p2 &&& (16777215 : Int32)))), .second, .val (.double (FP.i2d (p3 &&& (16777215 : Int32)))), .second, .val (.int (p4 &&& (7 : Int32))), .unset, .unset] [(.int (1 : Int32))]))) (fun t k => XS.goto X6.here hx rfl (pc0 := 125) (pc' := 129) rfl (hb hby at_125) (by decide) (by decide) k) ?_
        exact OD.ret X6 hx hlk (t := .boolean) Bd.returns rfl (Or.inl ⟨rfl, Or.inr (Or.inl rfl), _, rfl⟩) (hb hby at_129) (Nat.le_of_ble_eq_true rfl) (Nat.le_of_ble_eq_true rfl) ⟨rfl, Fr.nil _⟩
      · refine OD.go (B := (s₁.setTop (mkF m 130 #[.val (.int p0), .val (.int p1), .val (.int p2), .val (.int p3), .val (.int p4), .val (.int (p0 &&& (1048575 : Int32))), .val (.float (FP.i2f (p0 &&& (1048575 : Int32)))), .val (.double (FP.i2d ((p1 &&& (1048575 : Int32)) + (1 : Int32)))), .second, .val (.double (FP.i2d (p2 &&& (16777215 : Int32)))), .second, .val (.double (FP.i2d (p3 &&& (16777215 : Int32)))), .second, .val (.int (p4 &&& (7 : Int32))), .unset, .unset] []))) (fun t k => XS.icmpYes X0.here hx rfl (pc0 := 99) (pc' := 130) rfl (hb hby at_99) rfl (feq c99_5).2 (by decide) (by decide) k) ?_
        refine OD.go (B := (s₁.setTop (mkF m 132 #[.val (.int p0), .val (.int p1), .val (.int p2), .val (.int p3), .val (.int p4), .val (.int (p0 &&& (1048575 : Int32))), .val (.float (FP.i2f (p0 &&& (1048575 : Int32)))), .val (.double (FP.i2d ((p1 &&& (1048575 : Int32)) + (1 : Int32)))), .second, .val (.double (FP.i2d (p2 &&& (16777215 : Int32)))), .second, .val (.double (FP.i2d (p3 &&& (16777215 : Int32)))), .second, .val (.int (p4 &&& (7 : Int32))), .unset, .unset] [(.int (p4 &&& (7 : Int32)))]))) (fun t k => XS.iload X0.here hx rfl (hb hby at_130) rfl k) ?_
        refine OD.go (B := (s₁.setTop (mkF m 133 #[.val (.int p0), .val (.int p1), .val (.int p2), .val (.int p3), .val (.int p4), .val (.int (p0 &&& (1048575 : Int32))), .val (.float (FP.i2f (p0 &&& (1048575 : Int32)))), .val (.double (FP.i2d ((p1 &&& (1048575 : Int32)) + (1 : Int32)))), .second, .val (.double (FP.i2d (p2 &&& (16777215 : Int32)))), .second, .val (.double (FP.i2d (p3 &&& (16777215 : Int32)))), .second, .val (.int (p4 &&& (7 : Int32))), .unset, .unset] [(.int (3 : Int32)), (.int (p4 &&& (7 : Int32)))]))) (fun t k => XS.iconst X0.here hx rfl (hb hby at_132) k) ?_
        by_cases c133_7 : (p4 &&& (7 : Int32)) = (3 : Int32)
        · refine OD.go (B := (s₁.setTop (mkF m 136 #[.val (.int p0), .val (.int p1), .val (.int p2), .val (.int p3), .val (.int p4), .val (.int (p0 &&& (1048575 : Int32))), .val (.float (FP.i2f (p0 &&& (1048575 : Int32)))), .val (.double (FP.i2d ((p1 &&& (1048575 : Int32)) + (1 : Int32)))), .second, .val (.double (FP.i2d (p2 &&& (16777215 : Int32)))), .second, .val (.double (FP.i2d (p3 &&& (16777215 : Int32)))), .second, .val (.int (p4 &&& (7 : Int32))), .unset, .unset] []))) (fun t k => XS.icmpNo X0.here hx rfl (hb hby at_133) rfl (teq c133_7).2 k) ?_
          refine OD.go (B := (s₁.setTop (mkF m 137 #[.val (.int p0), .val (.int p1), .val (.int p2), .val (.int p3), .val (.int p4), .val (.int (p0 &&& (1048575 : Int32))), .val (.float (FP.i2f (p0 &&& (1048575 : Int32)))), .val (.double (FP.i2d ((p1 &&& (1048575 : Int32)) + (1 : Int32)))), .second, .val (.double (FP.i2d (p2 &&& (16777215 : Int32)))), .second, .val (.double (FP.i2d (p3 &&& (16777215 : Int32)))), .second, .val (.int (p4 &&& (7 : Int32))), .unset, .unset] [(.int p3)]))) (fun t k => XS.iloadN X0.here hx rfl (hb hby at_136) rfl k) ?_
          refine OD.go (B := (s₁.setTop (mkF m 138 #[.val (.int p0), .val (.int p1), .val (.int p2), .val (.int p3), .val (.int p4), .val (.int (p0 &&& (1048575 : Int32))), .val (.float (FP.i2f (p0 &&& (1048575 : Int32)))), .val (.double (FP.i2d ((p1 &&& (1048575 : Int32)) + (1 : Int32)))), .second, .val (.double (FP.i2d (p2 &&& (16777215 : Int32)))), .second, .val (.double (FP.i2d (p3 &&& (16777215 : Int32)))), .second, .val (.int (p4 &&& (7 : Int32))), .unset, .unset] [(.int (1 : Int32)), (.int p3)]))) (fun t k => XS.iconst X0.here hx rfl (hb hby at_137) k) ?_
          refine OD.go (B := (s₁.setTop (mkF m 139 #[.val (.int p0), .val (.int p1), .val (.int p2), .val (.int p3), .val (.int p4), .val (.int (p0 &&& (1048575 : Int32))), .val (.float (FP.i2f (p0 &&& (1048575 : Int32)))), .val (.double (FP.i2d ((p1 &&& (1048575 : Int32)) + (1 : Int32)))), .second, .val (.double (FP.i2d (p2 &&& (16777215 : Int32)))), .second, .val (.double (FP.i2d (p3 &&& (16777215 : Int32)))), .second, .val (.int (p4 &&& (7 : Int32))), .unset, .unset] [(.int (p3 &&& (1 : Int32)))]))) (fun t k => XS.iand X0.here hx rfl (hb hby at_138) rfl k) ?_
          by_cases c139_8 : (p3 &&& (1 : Int32)) = (0 : Int32)
          · refine OD.go (B := (s₁.setTop (mkF m 148 #[.val (.int p0), .val (.int p1), .val (.int p2), .val (.int p3), .val (.int p4), .val (.int (p0 &&& (1048575 : Int32))), .val (.float (FP.i2f (p0 &&& (1048575 : Int32)))), .val (.double (FP.i2d ((p1 &&& (1048575 : Int32)) + (1 : Int32)))), .second, .val (.double (FP.i2d (p2 &&& (16777215 : Int32)))), .second, .val (.double (FP.i2d (p3 &&& (16777215 : Int32)))), .second, .val (.int (p4 &&& (7 : Int32))), .unset, .unset] []))) (fun t k => XS.ifYes X0.here hx rfl (pc0 := 139) (pc' := 148) rfl (hb hby at_139) rfl (by rw [if0]; exact (teq c139_8).1) (by decide) (by decide) k) ?_
            have q := own_m3m hvB hB hvP hP0 hP
            refine OD.go (B := (s₁.setTop (mkF m 151 #[.val (.int p0), .val (.int p1), .val (.int p2), .val (.int p3), .val (.int p4), .val (.int (p0 &&& (1048575 : Int32))), .val (.float (FP.i2f (p0 &&& (1048575 : Int32)))), .val (.double (FP.i2d ((p1 &&& (1048575 : Int32)) + (1 : Int32)))), .second, .val (.double (FP.i2d (p2 &&& (16777215 : Int32)))), .second, .val (.double (FP.i2d (p3 &&& (16777215 : Int32)))), .second, .val (.int (p4 &&& (7 : Int32))), .unset, .unset] [(.double (9218868437227405311 : UInt64))]))) (fun t k => X0.ldc2DoubleC hx hown (mv hZ (Wd9 hw)) (g := (mkF m 148 #[.val (.int p0), .val (.int p1), .val (.int p2), .val (.int p3), .val (.int p4), .val (.int (p0 &&& (1048575 : Int32))), .val (.float (FP.i2f (p0 &&& (1048575 : Int32)))), .val (.double (FP.i2d ((p1 &&& (1048575 : Int32)) + (1 : Int32)))), .second, .val (.double (FP.i2d (p2 &&& (16777215 : Int32)))), .second, .val (.double (FP.i2d (p3 &&& (16777215 : Int32)))), .second, .val (.int (p4 &&& (7 : Int32))), .unset, .unset] [])) rfl (hb hby at_148) _ k) ?_
            refine OD.go (B := (s₁.setTop (mkF m 153 #[.val (.int p0), .val (.int p1), .val (.int p2), .val (.int p3), .val (.int p4), .val (.int (p0 &&& (1048575 : Int32))), .val (.float (FP.i2f (p0 &&& (1048575 : Int32)))), .val (.double (FP.i2d ((p1 &&& (1048575 : Int32)) + (1 : Int32)))), .second, .val (.double (FP.i2d (p2 &&& (16777215 : Int32)))), .second, .val (.double (FP.i2d (p3 &&& (16777215 : Int32)))), .second, .val (.int (p4 &&& (7 : Int32))), .val (.double (9218868437227405311 : UInt64)), .second] []))) (fun t k => XS.dstore X0.here hx rfl (hb hby at_151) rfl (l' := #[.val (.int p0), .val (.int p1), .val (.int p2), .val (.int p3), .val (.int p4), .val (.int (p0 &&& (1048575 : Int32))), .val (.float (FP.i2f (p0 &&& (1048575 : Int32)))), .val (.double (FP.i2d ((p1 &&& (1048575 : Int32)) + (1 : Int32)))), .second, .val (.double (FP.i2d (p2 &&& (16777215 : Int32)))), .second, .val (.double (FP.i2d (p3 &&& (16777215 : Int32)))), .second, .val (.int (p4 &&& (7 : Int32))), .val (.double (9218868437227405311 : UInt64)), .second]) rfl k) ?_
            refine OD.go (B := (s₁.setTop (mkF m 155 #[.val (.int p0), .val (.int p1), .val (.int p2), .val (.int p3), .val (.int p4), .val (.int (p0 &&& (1048575 : Int32))), .val (.float (FP.i2f (p0 &&& (1048575 : Int32)))), .val (.double (FP.i2d ((p1 &&& (1048575 : Int32)) + (1 : Int32)))), .second, .val (.double (FP.i2d (p2 &&& (16777215 : Int32)))), .second, .val (.double (FP.i2d (p3 &&& (16777215 : Int32)))), .second, .val (.int (p4 &&& (7 : Int32))), .val (.double (9218868437227405311 : UInt64)), .second] [(.float (FP.i2f (p0 &&& (1048575 : Int32))))]))) (fun t k => XS.fload X0.here hx rfl (hb hby at_153) rfl k) ?_
            refine OD.go (B := (s₁.setTop (mkF m 157 #[.val (.int p0), .val (.int p1), .val (.int p2), .val (.int p3), .val (.int p4), .val (.int (p0 &&& (1048575 : Int32))), .val (.float (FP.i2f (p0 &&& (1048575 : Int32)))), .val (.double (FP.i2d ((p1 &&& (1048575 : Int32)) + (1 : Int32)))), .second, .val (.double (FP.i2d (p2 &&& (16777215 : Int32)))), .second, .val (.double (FP.i2d (p3 &&& (16777215 : Int32)))), .second, .val (.int (p4 &&& (7 : Int32))), .val (.double (9218868437227405311 : UInt64)), .second] [(.double (FP.i2d ((p1 &&& (1048575 : Int32)) + (1 : Int32)))), (.float (FP.i2f (p0 &&& (1048575 : Int32))))]))) (fun t k => XS.dload X0.here hx rfl (hb hby at_155) rfl k) ?_
            refine OD.go (B := (s₁.setTop (mkF m 159 #[.val (.int p0), .val (.int p1), .val (.int p2), .val (.int p3), .val (.int p4), .val (.int (p0 &&& (1048575 : Int32))), .val (.float (FP.i2f (p0 &&& (1048575 : Int32)))), .val (.double (FP.i2d ((p1 &&& (1048575 : Int32)) + (1 : Int32)))), .second, .val (.double (FP.i2d (p2 &&& (16777215 : Int32)))), .second, .val (.double (FP.i2d (p3 &&& (16777215 : Int32)))), .second, .val (.int (p4 &&& (7 : Int32))), .val (.double (9218868437227405311 : UInt64)), .second] [(.double (9218868437227405311 : UInt64)), (.double (FP.i2d ((p1 &&& (1048575 : Int32)) + (1 : Int32)))), (.float (FP.i2f (p0 &&& (1048575 : Int32))))]))) (fun t k => XS.dload X0.here hx rfl (hb hby at_157) rfl k) ?_
            obtain ⟨_, _, ⟨T9, L9, k9, n9⟩, -, X9, ⟨Lc9, hQ9, l9, y9, z9⟩, st9⟩ := Jvm.LawKit.callS X0 hx (y := (⟨"com/example/tight_pivot/tightpivot/ProximityScore", "score", "(FDD)F"⟩ : MethodName)) hown (mvT hZ (Wd2 hw)) (mvT hZ (Wd3 hw)) (mvT hZ (Wd4 hw)) (mvT hZ (Wd5 hw)) (by decide) (backOf (W := 0) (rmS l Z a0 hw [] (FP.i2f (p0 &&& (1048575 : Int32))) (FP.i2d ((p1 &&& (1048575 : Int32)) + (1 : Int32))) (9218868437227405311 : UInt64) h0 q.1) hZ (Wd5 hw) (Wd4 hw) (by decide) (by decide)) (g := (mkF m 159 #[.val (.int p0), .val (.int p1), .val (.int p2), .val (.int p3), .val (.int p4), .val (.int (p0 &&& (1048575 : Int32))), .val (.float (FP.i2f (p0 &&& (1048575 : Int32)))), .val (.double (FP.i2d ((p1 &&& (1048575 : Int32)) + (1 : Int32)))), .second, .val (.double (FP.i2d (p2 &&& (16777215 : Int32)))), .second, .val (.double (FP.i2d (p3 &&& (16777215 : Int32)))), .second, .val (.int (p4 &&& (7 : Int32))), .val (.double (9218868437227405311 : UInt64)), .second] [(.double (9218868437227405311 : UInt64)), (.double (FP.i2d ((p1 &&& (1048575 : Int32)) + (1 : Int32)))), (.float (FP.i2f (p0 &&& (1048575 : Int32))))])) rfl (by rw [hml]; rfl) (argsL := [(.float (FP.i2f (p0 &&& (1048575 : Int32)))), (.double (FP.i2d ((p1 &&& (1048575 : Int32)) + (1 : Int32)))), (.double (9218868437227405311 : UInt64))]) (rest := []) (lenOf pd0 rfl) rfl (by show 2 * 0 + _ ≤ _; exact Nat.le_of_eq rfl) (hb hby at_159) (fun _ _ => ⟨rfl, e0, (Nat.le_of_ble_eq_true rfl), (Nat.le_of_ble_eq_true rfl)⟩)
            dsimp only [Pt.U, Pt.locs, Pt.cells, Pt.slots] at X9 l9 y9 z9 st9 hQ9
            subst l9 y9 z9
            obtain ⟨rfl, rfl, e9⟩ := hQ9
            refine OD.go (B := (T9.setTop (mkF m 162 #[.val (.int p0), .val (.int p1), .val (.int p2), .val (.int p3), .val (.int p4), .val (.int (p0 &&& (1048575 : Int32))), .val (.float (FP.i2f (p0 &&& (1048575 : Int32)))), .val (.double (FP.i2d ((p1 &&& (1048575 : Int32)) + (1 : Int32)))), .second, .val (.double (FP.i2d (p2 &&& (16777215 : Int32)))), .second, .val (.double (FP.i2d (p3 &&& (16777215 : Int32)))), .second, .val (.int (p4 &&& (7 : Int32))), .val (.double (9218868437227405311 : UInt64)), .second] [(.float (own_sc (FP.i2f (p0 &&& (1048575 : Int32))) (FP.i2d ((p1 &&& (1048575 : Int32)) + (1 : Int32))) (9218868437227405311 : UInt64)))]))) st9 ?_
            refine OD.go (B := (T9.setTop (mkF m 163 #[.val (.int p0), .val (.int p1), .val (.int p2), .val (.int p3), .val (.int p4), .val (.int (p0 &&& (1048575 : Int32))), .val (.float (FP.i2f (p0 &&& (1048575 : Int32)))), .val (.double (FP.i2d ((p1 &&& (1048575 : Int32)) + (1 : Int32)))), .second, .val (.double (FP.i2d (p2 &&& (16777215 : Int32)))), .second, .val (.double (FP.i2d (p3 &&& (16777215 : Int32)))), .second, .val (.int (p4 &&& (7 : Int32))), .val (.double (9218868437227405311 : UInt64)), .second] [(.float FP.fconst0), (.float (own_sc (FP.i2f (p0 &&& (1048575 : Int32))) (FP.i2d ((p1 &&& (1048575 : Int32)) + (1 : Int32))) (9218868437227405311 : UInt64)))]))) (fun t k => XS.fconst0 X9.here hx rfl (hb hby at_162) (v := FP.fconst0) rfl k) ?_
            refine OD.go (B := (T9.setTop (mkF m 164 #[.val (.int p0), .val (.int p1), .val (.int p2), .val (.int p3), .val (.int p4), .val (.int (p0 &&& (1048575 : Int32))), .val (.float (FP.i2f (p0 &&& (1048575 : Int32)))), .val (.double (FP.i2d ((p1 &&& (1048575 : Int32)) + (1 : Int32)))), .second, .val (.double (FP.i2d (p2 &&& (16777215 : Int32)))), .second, .val (.double (FP.i2d (p3 &&& (16777215 : Int32)))), .second, .val (.int (p4 &&& (7 : Int32))), .val (.double (9218868437227405311 : UInt64)), .second] [(.int (cmpValue (FP.fcmp (own_sc (FP.i2f (p0 &&& (1048575 : Int32))) (FP.i2d ((p1 &&& (1048575 : Int32)) + (1 : Int32))) (9218868437227405311 : UInt64)) FP.fconst0) .l))]))) (fun t k => XS.fcmpS X9.here hx rfl (hb hby at_163) rfl (v := (cmpValue (FP.fcmp (own_sc (FP.i2f (p0 &&& (1048575 : Int32))) (FP.i2d ((p1 &&& (1048575 : Int32)) + (1 : Int32))) (9218868437227405311 : UInt64)) FP.fconst0) .l)) rfl k) ?_
            refine OD.go (B := (T9.setTop (mkF m 167 #[.val (.int p0), .val (.int p1), .val (.int p2), .val (.int p3), .val (.int p4), .val (.int (p0 &&& (1048575 : Int32))), .val (.float (FP.i2f (p0 &&& (1048575 : Int32)))), .val (.double (FP.i2d ((p1 &&& (1048575 : Int32)) + (1 : Int32)))), .second, .val (.double (FP.i2d (p2 &&& (16777215 : Int32)))), .second, .val (.double (FP.i2d (p3 &&& (16777215 : Int32)))), .second, .val (.int (p4 &&& (7 : Int32))), .val (.double (9218868437227405311 : UInt64)), .second] []))) (fun t k => XS.ifNo X9.here hx rfl (hb hby at_164) rfl (by rw [if0]; exact (teq q.2).2) k) ?_
            refine OD.go (B := (T9.setTop (mkF m 168 #[.val (.int p0), .val (.int p1), .val (.int p2), .val (.int p3), .val (.int p4), .val (.int (p0 &&& (1048575 : Int32))), .val (.float (FP.i2f (p0 &&& (1048575 : Int32)))), .val (.double (FP.i2d ((p1 &&& (1048575 : Int32)) + (1 : Int32)))), .second, .val (.double (FP.i2d (p2 &&& (16777215 : Int32)))), .second, .val (.double (FP.i2d (p3 &&& (16777215 : Int32)))), .second, .val (.int (p4 &&& (7 : Int32))), .val (.double (9218868437227405311 : UInt64)), .second] [(.int (1 : Int32))]))) (fun t k => XS.iconst X9.here hx rfl (hb hby at_167) k) ?_
            refine OD.go (B := (T9.setTop (mkF m 172 #[.val (.int p0), .val (.int p1), .val (.int p2), .val (.int p3), .val (.int p4), .val (.int (p0 &&& (1048575 : Int32))), .val (.float (FP.i2f (p0 &&& (1048575 : Int32)))), .val (.double (FP.i2d ((p1 &&& (1048575 : Int32)) + (1 : Int32)))), .second, .val (.double (FP.i2d (p2 &&& (16777215 : Int32)))), .second, .val (.double (FP.i2d (p3 &&& (16777215 : Int32)))), .second, .val (.int (p4 &&& (7 : Int32))), .val (.double (9218868437227405311 : UInt64)), .second] [(.int (1 : Int32))]))) (fun t k => XS.goto X9.here hx rfl (pc0 := 168) (pc' := 172) rfl (hb hby at_168) (by decide) (by decide) k) ?_
            exact OD.ret X9 hx hlk (t := .boolean) Bd.returns rfl (Or.inl ⟨rfl, Or.inr (Or.inl rfl), _, rfl⟩) (hb hby at_172) (Nat.le_of_ble_eq_true rfl) (Nat.le_of_ble_eq_true rfl) ⟨rfl, Fr.nil _⟩
          · refine OD.go (B := (s₁.setTop (mkF m 142 #[.val (.int p0), .val (.int p1), .val (.int p2), .val (.int p3), .val (.int p4), .val (.int (p0 &&& (1048575 : Int32))), .val (.float (FP.i2f (p0 &&& (1048575 : Int32)))), .val (.double (FP.i2d ((p1 &&& (1048575 : Int32)) + (1 : Int32)))), .second, .val (.double (FP.i2d (p2 &&& (16777215 : Int32)))), .second, .val (.double (FP.i2d (p3 &&& (16777215 : Int32)))), .second, .val (.int (p4 &&& (7 : Int32))), .unset, .unset] []))) (fun t k => XS.ifNo X0.here hx rfl (hb hby at_139) rfl (by rw [if0]; exact (feq c139_8).1) k) ?_
            have q := own_m3i hvB hB hvP hP0 hP
            refine OD.go (B := (s₁.setTop (mkF m 145 #[.val (.int p0), .val (.int p1), .val (.int p2), .val (.int p3), .val (.int p4), .val (.int (p0 &&& (1048575 : Int32))), .val (.float (FP.i2f (p0 &&& (1048575 : Int32)))), .val (.double (FP.i2d ((p1 &&& (1048575 : Int32)) + (1 : Int32)))), .second, .val (.double (FP.i2d (p2 &&& (16777215 : Int32)))), .second, .val (.double (FP.i2d (p3 &&& (16777215 : Int32)))), .second, .val (.int (p4 &&& (7 : Int32))), .unset, .unset] [(.double (9218868437227405312 : UInt64))]))) (fun t k => X0.ldc2DoubleC hx hown (mv hZ (Wd11 hw)) (g := (mkF m 142 #[.val (.int p0), .val (.int p1), .val (.int p2), .val (.int p3), .val (.int p4), .val (.int (p0 &&& (1048575 : Int32))), .val (.float (FP.i2f (p0 &&& (1048575 : Int32)))), .val (.double (FP.i2d ((p1 &&& (1048575 : Int32)) + (1 : Int32)))), .second, .val (.double (FP.i2d (p2 &&& (16777215 : Int32)))), .second, .val (.double (FP.i2d (p3 &&& (16777215 : Int32)))), .second, .val (.int (p4 &&& (7 : Int32))), .unset, .unset] [])) rfl (hb hby at_142) _ k) ?_
            refine OD.go (B := (s₁.setTop (mkF m 151 #[.val (.int p0), .val (.int p1), .val (.int p2), .val (.int p3), .val (.int p4), .val (.int (p0 &&& (1048575 : Int32))), .val (.float (FP.i2f (p0 &&& (1048575 : Int32)))), .val (.double (FP.i2d ((p1 &&& (1048575 : Int32)) + (1 : Int32)))), .second, .val (.double (FP.i2d (p2 &&& (16777215 : Int32)))), .second, .val (.double (FP.i2d (p3 &&& (16777215 : Int32)))), .second, .val (.int (p4 &&& (7 : Int32))), .unset, .unset] [(.double (9218868437227405312 : UInt64))]))) (fun t k => XS.goto X0.here hx rfl (pc0 := 145) (pc' := 151) rfl (hb hby at_145) (by decide) (by decide) k) ?_
            refine OD.go (B := (s₁.setTop (mkF m 153 #[.val (.int p0), .val (.int p1), .val (.int p2), .val (.int p3), .val (.int p4), .val (.int (p0 &&& (1048575 : Int32))), .val (.float (FP.i2f (p0 &&& (1048575 : Int32)))), .val (.double (FP.i2d ((p1 &&& (1048575 : Int32)) + (1 : Int32)))), .second, .val (.double (FP.i2d (p2 &&& (16777215 : Int32)))), .second, .val (.double (FP.i2d (p3 &&& (16777215 : Int32)))), .second, .val (.int (p4 &&& (7 : Int32))), .val (.double (9218868437227405312 : UInt64)), .second] []))) (fun t k => XS.dstore X0.here hx rfl (hb hby at_151) rfl (l' := #[.val (.int p0), .val (.int p1), .val (.int p2), .val (.int p3), .val (.int p4), .val (.int (p0 &&& (1048575 : Int32))), .val (.float (FP.i2f (p0 &&& (1048575 : Int32)))), .val (.double (FP.i2d ((p1 &&& (1048575 : Int32)) + (1 : Int32)))), .second, .val (.double (FP.i2d (p2 &&& (16777215 : Int32)))), .second, .val (.double (FP.i2d (p3 &&& (16777215 : Int32)))), .second, .val (.int (p4 &&& (7 : Int32))), .val (.double (9218868437227405312 : UInt64)), .second]) rfl k) ?_
            refine OD.go (B := (s₁.setTop (mkF m 155 #[.val (.int p0), .val (.int p1), .val (.int p2), .val (.int p3), .val (.int p4), .val (.int (p0 &&& (1048575 : Int32))), .val (.float (FP.i2f (p0 &&& (1048575 : Int32)))), .val (.double (FP.i2d ((p1 &&& (1048575 : Int32)) + (1 : Int32)))), .second, .val (.double (FP.i2d (p2 &&& (16777215 : Int32)))), .second, .val (.double (FP.i2d (p3 &&& (16777215 : Int32)))), .second, .val (.int (p4 &&& (7 : Int32))), .val (.double (9218868437227405312 : UInt64)), .second] [(.float (FP.i2f (p0 &&& (1048575 : Int32))))]))) (fun t k => XS.fload X0.here hx rfl (hb hby at_153) rfl k) ?_
            refine OD.go (B := (s₁.setTop (mkF m 157 #[.val (.int p0), .val (.int p1), .val (.int p2), .val (.int p3), .val (.int p4), .val (.int (p0 &&& (1048575 : Int32))), .val (.float (FP.i2f (p0 &&& (1048575 : Int32)))), .val (.double (FP.i2d ((p1 &&& (1048575 : Int32)) + (1 : Int32)))), .second, .val (.double (FP.i2d (p2 &&& (16777215 : Int32)))), .second, .val (.double (FP.i2d (p3 &&& (16777215 : Int32)))), .second, .val (.int (p4 &&& (7 : Int32))), .val (.double (9218868437227405312 : UInt64)), .second] [(.double (FP.i2d ((p1 &&& (1048575 : Int32)) + (1 : Int32)))), (.float (FP.i2f (p0 &&& (1048575 : Int32))))]))) (fun t k => XS.dload X0.here hx rfl (hb hby at_155) rfl k) ?_
            refine OD.go (B := (s₁.setTop (mkF m 159 #[.val (.int p0), .val (.int p1), .val (.int p2), .val (.int p3), .val (.int p4), .val (.int (p0 &&& (1048575 : Int32))), .val (.float (FP.i2f (p0 &&& (1048575 : Int32)))), .val (.double (FP.i2d ((p1 &&& (1048575 : Int32)) + (1 : Int32)))), .second, .val (.double (FP.i2d (p2 &&& (16777215 : Int32)))), .second, .val (.double (FP.i2d (p3 &&& (16777215 : Int32)))), .second, .val (.int (p4 &&& (7 : Int32))), .val (.double (9218868437227405312 : UInt64)), .second] [(.double (9218868437227405312 : UInt64)), (.double (FP.i2d ((p1 &&& (1048575 : Int32)) + (1 : Int32)))), (.float (FP.i2f (p0 &&& (1048575 : Int32))))]))) (fun t k => XS.dload X0.here hx rfl (hb hby at_157) rfl k) ?_
            obtain ⟨_, _, ⟨T10, L10, k10, n10⟩, -, X10, ⟨Lc10, hQ10, l10, y10, z10⟩, st10⟩ := Jvm.LawKit.callS X0 hx (y := (⟨"com/example/tight_pivot/tightpivot/ProximityScore", "score", "(FDD)F"⟩ : MethodName)) hown (mvT hZ (Wd2 hw)) (mvT hZ (Wd3 hw)) (mvT hZ (Wd4 hw)) (mvT hZ (Wd5 hw)) (by decide) (backOf (W := 0) (rmS l Z a0 hw [] (FP.i2f (p0 &&& (1048575 : Int32))) (FP.i2d ((p1 &&& (1048575 : Int32)) + (1 : Int32))) (9218868437227405312 : UInt64) h0 q.1) hZ (Wd5 hw) (Wd4 hw) (by decide) (by decide)) (g := (mkF m 159 #[.val (.int p0), .val (.int p1), .val (.int p2), .val (.int p3), .val (.int p4), .val (.int (p0 &&& (1048575 : Int32))), .val (.float (FP.i2f (p0 &&& (1048575 : Int32)))), .val (.double (FP.i2d ((p1 &&& (1048575 : Int32)) + (1 : Int32)))), .second, .val (.double (FP.i2d (p2 &&& (16777215 : Int32)))), .second, .val (.double (FP.i2d (p3 &&& (16777215 : Int32)))), .second, .val (.int (p4 &&& (7 : Int32))), .val (.double (9218868437227405312 : UInt64)), .second] [(.double (9218868437227405312 : UInt64)), (.double (FP.i2d ((p1 &&& (1048575 : Int32)) + (1 : Int32)))), (.float (FP.i2f (p0 &&& (1048575 : Int32))))])) rfl (by rw [hml]; rfl) (argsL := [(.float (FP.i2f (p0 &&& (1048575 : Int32)))), (.double (FP.i2d ((p1 &&& (1048575 : Int32)) + (1 : Int32)))), (.double (9218868437227405312 : UInt64))]) (rest := []) (lenOf pd0 rfl) rfl (by show 2 * 0 + _ ≤ _; exact Nat.le_of_eq rfl) (hb hby at_159) (fun _ _ => ⟨rfl, e0, (Nat.le_of_ble_eq_true rfl), (Nat.le_of_ble_eq_true rfl)⟩)
            dsimp only [Pt.U, Pt.locs, Pt.cells, Pt.slots] at X10 l10 y10 z10 st10 hQ10
            subst l10 y10 z10
            obtain ⟨rfl, rfl, e10⟩ := hQ10
            refine OD.go (B := (T10.setTop (mkF m 162 #[.val (.int p0), .val (.int p1), .val (.int p2), .val (.int p3), .val (.int p4), .val (.int (p0 &&& (1048575 : Int32))), .val (.float (FP.i2f (p0 &&& (1048575 : Int32)))), .val (.double (FP.i2d ((p1 &&& (1048575 : Int32)) + (1 : Int32)))), .second, .val (.double (FP.i2d (p2 &&& (16777215 : Int32)))), .second, .val (.double (FP.i2d (p3 &&& (16777215 : Int32)))), .second, .val (.int (p4 &&& (7 : Int32))), .val (.double (9218868437227405312 : UInt64)), .second] [(.float (own_sc (FP.i2f (p0 &&& (1048575 : Int32))) (FP.i2d ((p1 &&& (1048575 : Int32)) + (1 : Int32))) (9218868437227405312 : UInt64)))]))) st10 ?_
            refine OD.go (B := (T10.setTop (mkF m 163 #[.val (.int p0), .val (.int p1), .val (.int p2), .val (.int p3), .val (.int p4), .val (.int (p0 &&& (1048575 : Int32))), .val (.float (FP.i2f (p0 &&& (1048575 : Int32)))), .val (.double (FP.i2d ((p1 &&& (1048575 : Int32)) + (1 : Int32)))), .second, .val (.double (FP.i2d (p2 &&& (16777215 : Int32)))), .second, .val (.double (FP.i2d (p3 &&& (16777215 : Int32)))), .second, .val (.int (p4 &&& (7 : Int32))), .val (.double (9218868437227405312 : UInt64)), .second] [(.float FP.fconst0), (.float (own_sc (FP.i2f (p0 &&& (1048575 : Int32))) (FP.i2d ((p1 &&& (1048575 : Int32)) + (1 : Int32))) (9218868437227405312 : UInt64)))]))) (fun t k => XS.fconst0 X10.here hx rfl (hb hby at_162) (v := FP.fconst0) rfl k) ?_
            refine OD.go (B := (T10.setTop (mkF m 164 #[.val (.int p0), .val (.int p1), .val (.int p2), .val (.int p3), .val (.int p4), .val (.int (p0 &&& (1048575 : Int32))), .val (.float (FP.i2f (p0 &&& (1048575 : Int32)))), .val (.double (FP.i2d ((p1 &&& (1048575 : Int32)) + (1 : Int32)))), .second, .val (.double (FP.i2d (p2 &&& (16777215 : Int32)))), .second, .val (.double (FP.i2d (p3 &&& (16777215 : Int32)))), .second, .val (.int (p4 &&& (7 : Int32))), .val (.double (9218868437227405312 : UInt64)), .second] [(.int (cmpValue (FP.fcmp (own_sc (FP.i2f (p0 &&& (1048575 : Int32))) (FP.i2d ((p1 &&& (1048575 : Int32)) + (1 : Int32))) (9218868437227405312 : UInt64)) FP.fconst0) .l))]))) (fun t k => XS.fcmpS X10.here hx rfl (hb hby at_163) rfl (v := (cmpValue (FP.fcmp (own_sc (FP.i2f (p0 &&& (1048575 : Int32))) (FP.i2d ((p1 &&& (1048575 : Int32)) + (1 : Int32))) (9218868437227405312 : UInt64)) FP.fconst0) .l)) rfl k) ?_
            refine OD.go (B := (T10.setTop (mkF m 167 #[.val (.int p0), .val (.int p1), .val (.int p2), .val (.int p3), .val (.int p4), .val (.int (p0 &&& (1048575 : Int32))), .val (.float (FP.i2f (p0 &&& (1048575 : Int32)))), .val (.double (FP.i2d ((p1 &&& (1048575 : Int32)) + (1 : Int32)))), .second, .val (.double (FP.i2d (p2 &&& (16777215 : Int32)))), .second, .val (.double (FP.i2d (p3 &&& (16777215 : Int32)))), .second, .val (.int (p4 &&& (7 : Int32))), .val (.double (9218868437227405312 : UInt64)), .second] []))) (fun t k => XS.ifNo X10.here hx rfl (hb hby at_164) rfl (by rw [if0]; exact (teq q.2).2) k) ?_
            refine OD.go (B := (T10.setTop (mkF m 168 #[.val (.int p0), .val (.int p1), .val (.int p2), .val (.int p3), .val (.int p4), .val (.int (p0 &&& (1048575 : Int32))), .val (.float (FP.i2f (p0 &&& (1048575 : Int32)))), .val (.double (FP.i2d ((p1 &&& (1048575 : Int32)) + (1 : Int32)))), .second, .val (.double (FP.i2d (p2 &&& (16777215 : Int32)))), .second, .val (.double (FP.i2d (p3 &&& (16777215 : Int32)))), .second, .val (.int (p4 &&& (7 : Int32))), .val (.double (9218868437227405312 : UInt64)), .second] [(.int (1 : Int32))]))) (fun t k => XS.iconst X10.here hx rfl (hb hby at_167) k) ?_
            refine OD.go (B := (T10.setTop (mkF m 172 #[.val (.int p0), .val (.int p1), .val (.int p2), .val (.int p3), .val (.int p4), .val (.int (p0 &&& (1048575 : Int32))), .val (.float (FP.i2f (p0 &&& (1048575 : Int32)))), .val (.double (FP.i2d ((p1 &&& (1048575 : Int32)) + (1 : Int32)))), .second, .val (.double (FP.i2d (p2 &&& (16777215 : Int32)))), .second, .val (.double (FP.i2d (p3 &&& (16777215 : Int32)))), .second, .val (.int (p4 &&& (7 : Int32))), .val (.double (9218868437227405312 : UInt64)), .second] [(.int (1 : Int32))]))) (fun t k => XS.goto X10.here hx rfl (pc0 := 168) (pc' := 172) rfl (hb hby at_168) (by decide) (by decide) k) ?_
            exact OD.ret X10 hx hlk (t := .boolean) Bd.returns rfl (Or.inl ⟨rfl, Or.inr (Or.inl rfl), _, rfl⟩) (hb hby at_172) (Nat.le_of_ble_eq_true rfl) (Nat.le_of_ble_eq_true rfl) ⟨rfl, Fr.nil _⟩
        · refine OD.go (B := (s₁.setTop (mkF m 173 #[.val (.int p0), .val (.int p1), .val (.int p2), .val (.int p3), .val (.int p4), .val (.int (p0 &&& (1048575 : Int32))), .val (.float (FP.i2f (p0 &&& (1048575 : Int32)))), .val (.double (FP.i2d ((p1 &&& (1048575 : Int32)) + (1 : Int32)))), .second, .val (.double (FP.i2d (p2 &&& (16777215 : Int32)))), .second, .val (.double (FP.i2d (p3 &&& (16777215 : Int32)))), .second, .val (.int (p4 &&& (7 : Int32))), .unset, .unset] []))) (fun t k => XS.icmpYes X0.here hx rfl (pc0 := 133) (pc' := 173) rfl (hb hby at_133) rfl (feq c133_7).2 (by decide) (by decide) k) ?_
          refine OD.go (B := (s₁.setTop (mkF m 175 #[.val (.int p0), .val (.int p1), .val (.int p2), .val (.int p3), .val (.int p4), .val (.int (p0 &&& (1048575 : Int32))), .val (.float (FP.i2f (p0 &&& (1048575 : Int32)))), .val (.double (FP.i2d ((p1 &&& (1048575 : Int32)) + (1 : Int32)))), .second, .val (.double (FP.i2d (p2 &&& (16777215 : Int32)))), .second, .val (.double (FP.i2d (p3 &&& (16777215 : Int32)))), .second, .val (.int (p4 &&& (7 : Int32))), .unset, .unset] [(.int (p4 &&& (7 : Int32)))]))) (fun t k => XS.iload X0.here hx rfl (hb hby at_173) rfl k) ?_
          refine OD.go (B := (s₁.setTop (mkF m 176 #[.val (.int p0), .val (.int p1), .val (.int p2), .val (.int p3), .val (.int p4), .val (.int (p0 &&& (1048575 : Int32))), .val (.float (FP.i2f (p0 &&& (1048575 : Int32)))), .val (.double (FP.i2d ((p1 &&& (1048575 : Int32)) + (1 : Int32)))), .second, .val (.double (FP.i2d (p2 &&& (16777215 : Int32)))), .second, .val (.double (FP.i2d (p3 &&& (16777215 : Int32)))), .second, .val (.int (p4 &&& (7 : Int32))), .unset, .unset] [(.int (4 : Int32)), (.int (p4 &&& (7 : Int32)))]))) (fun t k => XS.iconst X0.here hx rfl (hb hby at_175) k) ?_
          by_cases c176_11 : (p4 &&& (7 : Int32)) = (4 : Int32)
          · refine OD.go (B := (s₁.setTop (mkF m 179 #[.val (.int p0), .val (.int p1), .val (.int p2), .val (.int p3), .val (.int p4), .val (.int (p0 &&& (1048575 : Int32))), .val (.float (FP.i2f (p0 &&& (1048575 : Int32)))), .val (.double (FP.i2d ((p1 &&& (1048575 : Int32)) + (1 : Int32)))), .second, .val (.double (FP.i2d (p2 &&& (16777215 : Int32)))), .second, .val (.double (FP.i2d (p3 &&& (16777215 : Int32)))), .second, .val (.int (p4 &&& (7 : Int32))), .unset, .unset] []))) (fun t k => XS.icmpNo X0.here hx rfl (hb hby at_176) rfl (teq c176_11).2 k) ?_
            have q := own_m4 hvB hB hvP hP0 hP hvD hD hvE hE
            refine OD.go (B := (s₁.setTop (mkF m 181 #[.val (.int p0), .val (.int p1), .val (.int p2), .val (.int p3), .val (.int p4), .val (.int (p0 &&& (1048575 : Int32))), .val (.float (FP.i2f (p0 &&& (1048575 : Int32)))), .val (.double (FP.i2d ((p1 &&& (1048575 : Int32)) + (1 : Int32)))), .second, .val (.double (FP.i2d (p2 &&& (16777215 : Int32)))), .second, .val (.double (FP.i2d (p3 &&& (16777215 : Int32)))), .second, .val (.int (p4 &&& (7 : Int32))), .unset, .unset] [(.float (FP.i2f (p0 &&& (1048575 : Int32))))]))) (fun t k => XS.fload X0.here hx rfl (hb hby at_179) rfl k) ?_
            refine OD.go (B := (s₁.setTop (mkF m 183 #[.val (.int p0), .val (.int p1), .val (.int p2), .val (.int p3), .val (.int p4), .val (.int (p0 &&& (1048575 : Int32))), .val (.float (FP.i2f (p0 &&& (1048575 : Int32)))), .val (.double (FP.i2d ((p1 &&& (1048575 : Int32)) + (1 : Int32)))), .second, .val (.double (FP.i2d (p2 &&& (16777215 : Int32)))), .second, .val (.double (FP.i2d (p3 &&& (16777215 : Int32)))), .second, .val (.int (p4 &&& (7 : Int32))), .unset, .unset] [(.double (FP.i2d ((p1 &&& (1048575 : Int32)) + (1 : Int32)))), (.float (FP.i2f (p0 &&& (1048575 : Int32))))]))) (fun t k => XS.dload X0.here hx rfl (hb hby at_181) rfl k) ?_
            refine OD.go (B := (s₁.setTop (mkF m 185 #[.val (.int p0), .val (.int p1), .val (.int p2), .val (.int p3), .val (.int p4), .val (.int (p0 &&& (1048575 : Int32))), .val (.float (FP.i2f (p0 &&& (1048575 : Int32)))), .val (.double (FP.i2d ((p1 &&& (1048575 : Int32)) + (1 : Int32)))), .second, .val (.double (FP.i2d (p2 &&& (16777215 : Int32)))), .second, .val (.double (FP.i2d (p3 &&& (16777215 : Int32)))), .second, .val (.int (p4 &&& (7 : Int32))), .unset, .unset] [(.double (FP.i2d (p2 &&& (16777215 : Int32)))), (.double (FP.i2d ((p1 &&& (1048575 : Int32)) + (1 : Int32)))), (.float (FP.i2f (p0 &&& (1048575 : Int32))))]))) (fun t k => XS.dload X0.here hx rfl (hb hby at_183) rfl k) ?_
            obtain ⟨_, _, ⟨T12, L12, k12, n12⟩, -, X12, ⟨Lc12, hQ12, l12, y12, z12⟩, st12⟩ := Jvm.LawKit.callS X0 hx (y := (⟨"com/example/tight_pivot/tightpivot/ProximityScore", "score", "(FDD)F"⟩ : MethodName)) hown (mvT hZ (Wd2 hw)) (mvT hZ (Wd3 hw)) (mvT hZ (Wd4 hw)) (mvT hZ (Wd5 hw)) (by decide) (backOf (W := 0) (rmS l Z a0 hw [] (FP.i2f (p0 &&& (1048575 : Int32))) (FP.i2d ((p1 &&& (1048575 : Int32)) + (1 : Int32))) (FP.i2d (p2 &&& (16777215 : Int32))) h0 q.1) hZ (Wd5 hw) (Wd4 hw) (by decide) (by decide)) (g := (mkF m 185 #[.val (.int p0), .val (.int p1), .val (.int p2), .val (.int p3), .val (.int p4), .val (.int (p0 &&& (1048575 : Int32))), .val (.float (FP.i2f (p0 &&& (1048575 : Int32)))), .val (.double (FP.i2d ((p1 &&& (1048575 : Int32)) + (1 : Int32)))), .second, .val (.double (FP.i2d (p2 &&& (16777215 : Int32)))), .second, .val (.double (FP.i2d (p3 &&& (16777215 : Int32)))), .second, .val (.int (p4 &&& (7 : Int32))), .unset, .unset] [(.double (FP.i2d (p2 &&& (16777215 : Int32)))), (.double (FP.i2d ((p1 &&& (1048575 : Int32)) + (1 : Int32)))), (.float (FP.i2f (p0 &&& (1048575 : Int32))))])) rfl (by rw [hml]; rfl) (argsL := [(.float (FP.i2f (p0 &&& (1048575 : Int32)))), (.double (FP.i2d ((p1 &&& (1048575 : Int32)) + (1 : Int32)))), (.double (FP.i2d (p2 &&& (16777215 : Int32))))]) (rest := []) (lenOf pd0 rfl) rfl (by show 2 * 0 + _ ≤ _; exact Nat.le_of_eq rfl) (hb hby at_185) (fun _ _ => ⟨rfl, e0, (Nat.le_of_ble_eq_true rfl), (Nat.le_of_ble_eq_true rfl)⟩)
            dsimp only [Pt.U, Pt.locs, Pt.cells, Pt.slots] at X12 l12 y12 z12 st12 hQ12
            subst l12 y12 z12
            obtain ⟨rfl, rfl, e12⟩ := hQ12
            refine OD.go (B := (T12.setTop (mkF m 188 #[.val (.int p0), .val (.int p1), .val (.int p2), .val (.int p3), .val (.int p4), .val (.int (p0 &&& (1048575 : Int32))), .val (.float (FP.i2f (p0 &&& (1048575 : Int32)))), .val (.double (FP.i2d ((p1 &&& (1048575 : Int32)) + (1 : Int32)))), .second, .val (.double (FP.i2d (p2 &&& (16777215 : Int32)))), .second, .val (.double (FP.i2d (p3 &&& (16777215 : Int32)))), .second, .val (.int (p4 &&& (7 : Int32))), .unset, .unset] [(.float (own_sc (FP.i2f (p0 &&& (1048575 : Int32))) (FP.i2d ((p1 &&& (1048575 : Int32)) + (1 : Int32))) (FP.i2d (p2 &&& (16777215 : Int32)))))]))) st12 ?_
            refine OD.go (B := (T12.setTop (mkF m 190 #[.val (.int p0), .val (.int p1), .val (.int p2), .val (.int p3), .val (.int p4), .val (.int (p0 &&& (1048575 : Int32))), .val (.float (FP.i2f (p0 &&& (1048575 : Int32)))), .val (.double (FP.i2d ((p1 &&& (1048575 : Int32)) + (1 : Int32)))), .second, .val (.double (FP.i2d (p2 &&& (16777215 : Int32)))), .second, .val (.double (FP.i2d (p3 &&& (16777215 : Int32)))), .second, .val (.int (p4 &&& (7 : Int32))), .val (.float (own_sc (FP.i2f (p0 &&& (1048575 : Int32))) (FP.i2d ((p1 &&& (1048575 : Int32)) + (1 : Int32))) (FP.i2d (p2 &&& (16777215 : Int32))))), .unset] []))) (fun t k => XS.fstore X12.here hx rfl (hb hby at_188) rfl (l' := #[.val (.int p0), .val (.int p1), .val (.int p2), .val (.int p3), .val (.int p4), .val (.int (p0 &&& (1048575 : Int32))), .val (.float (FP.i2f (p0 &&& (1048575 : Int32)))), .val (.double (FP.i2d ((p1 &&& (1048575 : Int32)) + (1 : Int32)))), .second, .val (.double (FP.i2d (p2 &&& (16777215 : Int32)))), .second, .val (.double (FP.i2d (p3 &&& (16777215 : Int32)))), .second, .val (.int (p4 &&& (7 : Int32))), .val (.float (own_sc (FP.i2f (p0 &&& (1048575 : Int32))) (FP.i2d ((p1 &&& (1048575 : Int32)) + (1 : Int32))) (FP.i2d (p2 &&& (16777215 : Int32))))), .unset]) rfl k) ?_
            refine OD.go (B := (T12.setTop (mkF m 192 #[.val (.int p0), .val (.int p1), .val (.int p2), .val (.int p3), .val (.int p4), .val (.int (p0 &&& (1048575 : Int32))), .val (.float (FP.i2f (p0 &&& (1048575 : Int32)))), .val (.double (FP.i2d ((p1 &&& (1048575 : Int32)) + (1 : Int32)))), .second, .val (.double (FP.i2d (p2 &&& (16777215 : Int32)))), .second, .val (.double (FP.i2d (p3 &&& (16777215 : Int32)))), .second, .val (.int (p4 &&& (7 : Int32))), .val (.float (own_sc (FP.i2f (p0 &&& (1048575 : Int32))) (FP.i2d ((p1 &&& (1048575 : Int32)) + (1 : Int32))) (FP.i2d (p2 &&& (16777215 : Int32))))), .unset] [(.float (FP.i2f (p0 &&& (1048575 : Int32))))]))) (fun t k => XS.fload X12.here hx rfl (hb hby at_190) rfl k) ?_
            refine OD.go (B := (T12.setTop (mkF m 194 #[.val (.int p0), .val (.int p1), .val (.int p2), .val (.int p3), .val (.int p4), .val (.int (p0 &&& (1048575 : Int32))), .val (.float (FP.i2f (p0 &&& (1048575 : Int32)))), .val (.double (FP.i2d ((p1 &&& (1048575 : Int32)) + (1 : Int32)))), .second, .val (.double (FP.i2d (p2 &&& (16777215 : Int32)))), .second, .val (.double (FP.i2d (p3 &&& (16777215 : Int32)))), .second, .val (.int (p4 &&& (7 : Int32))), .val (.float (own_sc (FP.i2f (p0 &&& (1048575 : Int32))) (FP.i2d ((p1 &&& (1048575 : Int32)) + (1 : Int32))) (FP.i2d (p2 &&& (16777215 : Int32))))), .unset] [(.double (FP.i2d ((p1 &&& (1048575 : Int32)) + (1 : Int32)))), (.float (FP.i2f (p0 &&& (1048575 : Int32))))]))) (fun t k => XS.dload X12.here hx rfl (hb hby at_192) rfl k) ?_
            refine OD.go (B := (T12.setTop (mkF m 196 #[.val (.int p0), .val (.int p1), .val (.int p2), .val (.int p3), .val (.int p4), .val (.int (p0 &&& (1048575 : Int32))), .val (.float (FP.i2f (p0 &&& (1048575 : Int32)))), .val (.double (FP.i2d ((p1 &&& (1048575 : Int32)) + (1 : Int32)))), .second, .val (.double (FP.i2d (p2 &&& (16777215 : Int32)))), .second, .val (.double (FP.i2d (p3 &&& (16777215 : Int32)))), .second, .val (.int (p4 &&& (7 : Int32))), .val (.float (own_sc (FP.i2f (p0 &&& (1048575 : Int32))) (FP.i2d ((p1 &&& (1048575 : Int32)) + (1 : Int32))) (FP.i2d (p2 &&& (16777215 : Int32))))), .unset] [(.double (FP.i2d (p2 &&& (16777215 : Int32)))), (.double (FP.i2d ((p1 &&& (1048575 : Int32)) + (1 : Int32)))), (.float (FP.i2f (p0 &&& (1048575 : Int32))))]))) (fun t k => XS.dload X12.here hx rfl (hb hby at_194) rfl k) ?_
            refine OD.go (B := (T12.setTop (mkF m 198 #[.val (.int p0), .val (.int p1), .val (.int p2), .val (.int p3), .val (.int p4), .val (.int (p0 &&& (1048575 : Int32))), .val (.float (FP.i2f (p0 &&& (1048575 : Int32)))), .val (.double (FP.i2d ((p1 &&& (1048575 : Int32)) + (1 : Int32)))), .second, .val (.double (FP.i2d (p2 &&& (16777215 : Int32)))), .second, .val (.double (FP.i2d (p3 &&& (16777215 : Int32)))), .second, .val (.int (p4 &&& (7 : Int32))), .val (.float (own_sc (FP.i2f (p0 &&& (1048575 : Int32))) (FP.i2d ((p1 &&& (1048575 : Int32)) + (1 : Int32))) (FP.i2d (p2 &&& (16777215 : Int32))))), .unset] [(.double (FP.i2d (p3 &&& (16777215 : Int32)))), (.double (FP.i2d (p2 &&& (16777215 : Int32)))), (.double (FP.i2d ((p1 &&& (1048575 : Int32)) + (1 : Int32)))), (.float (FP.i2f (p0 &&& (1048575 : Int32))))]))) (fun t k => XS.dload X12.here hx rfl (hb hby at_196) rfl k) ?_
            refine OD.go (B := (T12.setTop (mkF m 199 #[.val (.int p0), .val (.int p1), .val (.int p2), .val (.int p3), .val (.int p4), .val (.int (p0 &&& (1048575 : Int32))), .val (.float (FP.i2f (p0 &&& (1048575 : Int32)))), .val (.double (FP.i2d ((p1 &&& (1048575 : Int32)) + (1 : Int32)))), .second, .val (.double (FP.i2d (p2 &&& (16777215 : Int32)))), .second, .val (.double (FP.i2d (p3 &&& (16777215 : Int32)))), .second, .val (.int (p4 &&& (7 : Int32))), .val (.float (own_sc (FP.i2f (p0 &&& (1048575 : Int32))) (FP.i2d ((p1 &&& (1048575 : Int32)) + (1 : Int32))) (FP.i2d (p2 &&& (16777215 : Int32))))), .unset] [(.double (FP.dadd (FP.i2d (p2 &&& (16777215 : Int32))) (FP.i2d (p3 &&& (16777215 : Int32))))), (.double (FP.i2d ((p1 &&& (1048575 : Int32)) + (1 : Int32)))), (.float (FP.i2f (p0 &&& (1048575 : Int32))))]))) (fun t k => XS.daddS X12.here hx rfl (hb hby at_198) rfl q.2.1 (v := (FP.dadd (FP.i2d (p2 &&& (16777215 : Int32))) (FP.i2d (p3 &&& (16777215 : Int32))))) rfl k) ?_
            obtain ⟨_, _, ⟨T13, L13, k13, n13⟩, -, X13, ⟨Lc13, hQ13, l13, y13, z13⟩, st13⟩ := Jvm.LawKit.callS X12 hx (y := (⟨"com/example/tight_pivot/tightpivot/ProximityScore", "score", "(FDD)F"⟩ : MethodName)) hown (mvT hZ (Wd2 hw)) (mvT hZ (Wd3 hw)) (mvT hZ (Wd4 hw)) (mvT hZ (Wd5 hw)) (by decide) (backOf (W := 0) (rmS l Z a0 hw [] (FP.i2f (p0 &&& (1048575 : Int32))) (FP.i2d ((p1 &&& (1048575 : Int32)) + (1 : Int32))) (FP.dadd (FP.i2d (p2 &&& (16777215 : Int32))) (FP.i2d (p3 &&& (16777215 : Int32)))) h0 q.2.2.1) hZ (Wd5 hw) (Wd4 hw) (by decide) (by decide)) (g := (mkF m 199 #[.val (.int p0), .val (.int p1), .val (.int p2), .val (.int p3), .val (.int p4), .val (.int (p0 &&& (1048575 : Int32))), .val (.float (FP.i2f (p0 &&& (1048575 : Int32)))), .val (.double (FP.i2d ((p1 &&& (1048575 : Int32)) + (1 : Int32)))), .second, .val (.double (FP.i2d (p2 &&& (16777215 : Int32)))), .second, .val (.double (FP.i2d (p3 &&& (16777215 : Int32)))), .second, .val (.int (p4 &&& (7 : Int32))), .val (.float (own_sc (FP.i2f (p0 &&& (1048575 : Int32))) (FP.i2d ((p1 &&& (1048575 : Int32)) + (1 : Int32))) (FP.i2d (p2 &&& (16777215 : Int32))))), .unset] [(.double (FP.dadd (FP.i2d (p2 &&& (16777215 : Int32))) (FP.i2d (p3 &&& (16777215 : Int32))))), (.double (FP.i2d ((p1 &&& (1048575 : Int32)) + (1 : Int32)))), (.float (FP.i2f (p0 &&& (1048575 : Int32))))])) rfl (by rw [hml]; rfl) (argsL := [(.float (FP.i2f (p0 &&& (1048575 : Int32)))), (.double (FP.i2d ((p1 &&& (1048575 : Int32)) + (1 : Int32)))), (.double (FP.dadd (FP.i2d (p2 &&& (16777215 : Int32))) (FP.i2d (p3 &&& (16777215 : Int32)))))]) (rest := []) (lenOf pd0 rfl) rfl (by show 2 * 0 + _ ≤ _; exact Nat.le_of_eq rfl) (hb hby at_199) (fun _ _ => ⟨rfl, e12, (Nat.le_of_ble_eq_true rfl), (Nat.le_of_ble_eq_true rfl)⟩)
            dsimp only [Pt.U, Pt.locs, Pt.cells, Pt.slots] at X13 l13 y13 z13 st13 hQ13
            subst l13 y13 z13
            obtain ⟨rfl, rfl, e13⟩ := hQ13
            refine OD.go (B := (T13.setTop (mkF m 202 #[.val (.int p0), .val (.int p1), .val (.int p2), .val (.int p3), .val (.int p4), .val (.int (p0 &&& (1048575 : Int32))), .val (.float (FP.i2f (p0 &&& (1048575 : Int32)))), .val (.double (FP.i2d ((p1 &&& (1048575 : Int32)) + (1 : Int32)))), .second, .val (.double (FP.i2d (p2 &&& (16777215 : Int32)))), .second, .val (.double (FP.i2d (p3 &&& (16777215 : Int32)))), .second, .val (.int (p4 &&& (7 : Int32))), .val (.float (own_sc (FP.i2f (p0 &&& (1048575 : Int32))) (FP.i2d ((p1 &&& (1048575 : Int32)) + (1 : Int32))) (FP.i2d (p2 &&& (16777215 : Int32))))), .unset] [(.float (own_sc (FP.i2f (p0 &&& (1048575 : Int32))) (FP.i2d ((p1 &&& (1048575 : Int32)) + (1 : Int32))) (FP.dadd (FP.i2d (p2 &&& (16777215 : Int32))) (FP.i2d (p3 &&& (16777215 : Int32))))))]))) st13 ?_
            refine OD.go (B := (T13.setTop (mkF m 204 #[.val (.int p0), .val (.int p1), .val (.int p2), .val (.int p3), .val (.int p4), .val (.int (p0 &&& (1048575 : Int32))), .val (.float (FP.i2f (p0 &&& (1048575 : Int32)))), .val (.double (FP.i2d ((p1 &&& (1048575 : Int32)) + (1 : Int32)))), .second, .val (.double (FP.i2d (p2 &&& (16777215 : Int32)))), .second, .val (.double (FP.i2d (p3 &&& (16777215 : Int32)))), .second, .val (.int (p4 &&& (7 : Int32))), .val (.float (own_sc (FP.i2f (p0 &&& (1048575 : Int32))) (FP.i2d ((p1 &&& (1048575 : Int32)) + (1 : Int32))) (FP.i2d (p2 &&& (16777215 : Int32))))), .val (.float (own_sc (FP.i2f (p0 &&& (1048575 : Int32))) (FP.i2d ((p1 &&& (1048575 : Int32)) + (1 : Int32))) (FP.dadd (FP.i2d (p2 &&& (16777215 : Int32))) (FP.i2d (p3 &&& (16777215 : Int32))))))] []))) (fun t k => XS.fstore X13.here hx rfl (hb hby at_202) rfl (l' := #[.val (.int p0), .val (.int p1), .val (.int p2), .val (.int p3), .val (.int p4), .val (.int (p0 &&& (1048575 : Int32))), .val (.float (FP.i2f (p0 &&& (1048575 : Int32)))), .val (.double (FP.i2d ((p1 &&& (1048575 : Int32)) + (1 : Int32)))), .second, .val (.double (FP.i2d (p2 &&& (16777215 : Int32)))), .second, .val (.double (FP.i2d (p3 &&& (16777215 : Int32)))), .second, .val (.int (p4 &&& (7 : Int32))), .val (.float (own_sc (FP.i2f (p0 &&& (1048575 : Int32))) (FP.i2d ((p1 &&& (1048575 : Int32)) + (1 : Int32))) (FP.i2d (p2 &&& (16777215 : Int32))))), .val (.float (own_sc (FP.i2f (p0 &&& (1048575 : Int32))) (FP.i2d ((p1 &&& (1048575 : Int32)) + (1 : Int32))) (FP.dadd (FP.i2d (p2 &&& (16777215 : Int32))) (FP.i2d (p3 &&& (16777215 : Int32))))))]) rfl k) ?_
            refine OD.go (B := (T13.setTop (mkF m 205 #[.val (.int p0), .val (.int p1), .val (.int p2), .val (.int p3), .val (.int p4), .val (.int (p0 &&& (1048575 : Int32))), .val (.float (FP.i2f (p0 &&& (1048575 : Int32)))), .val (.double (FP.i2d ((p1 &&& (1048575 : Int32)) + (1 : Int32)))), .second, .val (.double (FP.i2d (p2 &&& (16777215 : Int32)))), .second, .val (.double (FP.i2d (p3 &&& (16777215 : Int32)))), .second, .val (.int (p4 &&& (7 : Int32))), .val (.float (own_sc (FP.i2f (p0 &&& (1048575 : Int32))) (FP.i2d ((p1 &&& (1048575 : Int32)) + (1 : Int32))) (FP.i2d (p2 &&& (16777215 : Int32))))), .val (.float (own_sc (FP.i2f (p0 &&& (1048575 : Int32))) (FP.i2d ((p1 &&& (1048575 : Int32)) + (1 : Int32))) (FP.dadd (FP.i2d (p2 &&& (16777215 : Int32))) (FP.i2d (p3 &&& (16777215 : Int32))))))] [(.float FP.fconst0)]))) (fun t k => XS.fconst0 X13.here hx rfl (hb hby at_204) (v := FP.fconst0) rfl k) ?_
            refine OD.go (B := (T13.setTop (mkF m 207 #[.val (.int p0), .val (.int p1), .val (.int p2), .val (.int p3), .val (.int p4), .val (.int (p0 &&& (1048575 : Int32))), .val (.float (FP.i2f (p0 &&& (1048575 : Int32)))), .val (.double (FP.i2d ((p1 &&& (1048575 : Int32)) + (1 : Int32)))), .second, .val (.double (FP.i2d (p2 &&& (16777215 : Int32)))), .second, .val (.double (FP.i2d (p3 &&& (16777215 : Int32)))), .second, .val (.int (p4 &&& (7 : Int32))), .val (.float (own_sc (FP.i2f (p0 &&& (1048575 : Int32))) (FP.i2d ((p1 &&& (1048575 : Int32)) + (1 : Int32))) (FP.i2d (p2 &&& (16777215 : Int32))))), .val (.float (own_sc (FP.i2f (p0 &&& (1048575 : Int32))) (FP.i2d ((p1 &&& (1048575 : Int32)) + (1 : Int32))) (FP.dadd (FP.i2d (p2 &&& (16777215 : Int32))) (FP.i2d (p3 &&& (16777215 : Int32))))))] [(.float (own_sc (FP.i2f (p0 &&& (1048575 : Int32))) (FP.i2d ((p1 &&& (1048575 : Int32)) + (1 : Int32))) (FP.dadd (FP.i2d (p2 &&& (16777215 : Int32))) (FP.i2d (p3 &&& (16777215 : Int32)))))), (.float FP.fconst0)]))) (fun t k => XS.fload X13.here hx rfl (hb hby at_205) rfl k) ?_
            refine OD.go (B := (T13.setTop (mkF m 208 #[.val (.int p0), .val (.int p1), .val (.int p2), .val (.int p3), .val (.int p4), .val (.int (p0 &&& (1048575 : Int32))), .val (.float (FP.i2f (p0 &&& (1048575 : Int32)))), .val (.double (FP.i2d ((p1 &&& (1048575 : Int32)) + (1 : Int32)))), .second, .val (.double (FP.i2d (p2 &&& (16777215 : Int32)))), .second, .val (.double (FP.i2d (p3 &&& (16777215 : Int32)))), .second, .val (.int (p4 &&& (7 : Int32))), .val (.float (own_sc (FP.i2f (p0 &&& (1048575 : Int32))) (FP.i2d ((p1 &&& (1048575 : Int32)) + (1 : Int32))) (FP.i2d (p2 &&& (16777215 : Int32))))), .val (.float (own_sc (FP.i2f (p0 &&& (1048575 : Int32))) (FP.i2d ((p1 &&& (1048575 : Int32)) + (1 : Int32))) (FP.dadd (FP.i2d (p2 &&& (16777215 : Int32))) (FP.i2d (p3 &&& (16777215 : Int32))))))] [(.int (cmpValue (FP.fcmp FP.fconst0 (own_sc (FP.i2f (p0 &&& (1048575 : Int32))) (FP.i2d ((p1 &&& (1048575 : Int32)) + (1 : Int32))) (FP.dadd (FP.i2d (p2 &&& (16777215 : Int32))) (FP.i2d (p3 &&& (16777215 : Int32)))))) .g))]))) (fun t k => XS.fcmpS X13.here hx rfl (hb hby at_207) rfl (v := (cmpValue (FP.fcmp FP.fconst0 (own_sc (FP.i2f (p0 &&& (1048575 : Int32))) (FP.i2d ((p1 &&& (1048575 : Int32)) + (1 : Int32))) (FP.dadd (FP.i2d (p2 &&& (16777215 : Int32))) (FP.i2d (p3 &&& (16777215 : Int32)))))) .g)) rfl k) ?_
            refine OD.go (B := (T13.setTop (mkF m 211 #[.val (.int p0), .val (.int p1), .val (.int p2), .val (.int p3), .val (.int p4), .val (.int (p0 &&& (1048575 : Int32))), .val (.float (FP.i2f (p0 &&& (1048575 : Int32)))), .val (.double (FP.i2d ((p1 &&& (1048575 : Int32)) + (1 : Int32)))), .second, .val (.double (FP.i2d (p2 &&& (16777215 : Int32)))), .second, .val (.double (FP.i2d (p3 &&& (16777215 : Int32)))), .second, .val (.int (p4 &&& (7 : Int32))), .val (.float (own_sc (FP.i2f (p0 &&& (1048575 : Int32))) (FP.i2d ((p1 &&& (1048575 : Int32)) + (1 : Int32))) (FP.i2d (p2 &&& (16777215 : Int32))))), .val (.float (own_sc (FP.i2f (p0 &&& (1048575 : Int32))) (FP.i2d ((p1 &&& (1048575 : Int32)) + (1 : Int32))) (FP.dadd (FP.i2d (p2 &&& (16777215 : Int32))) (FP.i2d (p3 &&& (16777215 : Int32))))))] []))) (fun t k => XS.ifNo X13.here hx rfl (hb hby at_208) rfl (by rw [if0]; exact (flt q.2.2.2.1).2.2.1) k) ?_
            refine OD.go (B := (T13.setTop (mkF m 213 #[.val (.int p0), .val (.int p1), .val (.int p2), .val (.int p3), .val (.int p4), .val (.int (p0 &&& (1048575 : Int32))), .val (.float (FP.i2f (p0 &&& (1048575 : Int32)))), .val (.double (FP.i2d ((p1 &&& (1048575 : Int32)) + (1 : Int32)))), .second, .val (.double (FP.i2d (p2 &&& (16777215 : Int32)))), .second, .val (.double (FP.i2d (p3 &&& (16777215 : Int32)))), .second, .val (.int (p4 &&& (7 : Int32))), .val (.float (own_sc (FP.i2f (p0 &&& (1048575 : Int32))) (FP.i2d ((p1 &&& (1048575 : Int32)) + (1 : Int32))) (FP.i2d (p2 &&& (16777215 : Int32))))), .val (.float (own_sc (FP.i2f (p0 &&& (1048575 : Int32))) (FP.i2d ((p1 &&& (1048575 : Int32)) + (1 : Int32))) (FP.dadd (FP.i2d (p2 &&& (16777215 : Int32))) (FP.i2d (p3 &&& (16777215 : Int32))))))] [(.float (own_sc (FP.i2f (p0 &&& (1048575 : Int32))) (FP.i2d ((p1 &&& (1048575 : Int32)) + (1 : Int32))) (FP.dadd (FP.i2d (p2 &&& (16777215 : Int32))) (FP.i2d (p3 &&& (16777215 : Int32))))))]))) (fun t k => XS.fload X13.here hx rfl (hb hby at_211) rfl k) ?_
            refine OD.go (B := (T13.setTop (mkF m 215 #[.val (.int p0), .val (.int p1), .val (.int p2), .val (.int p3), .val (.int p4), .val (.int (p0 &&& (1048575 : Int32))), .val (.float (FP.i2f (p0 &&& (1048575 : Int32)))), .val (.double (FP.i2d ((p1 &&& (1048575 : Int32)) + (1 : Int32)))), .second, .val (.double (FP.i2d (p2 &&& (16777215 : Int32)))), .second, .val (.double (FP.i2d (p3 &&& (16777215 : Int32)))), .second, .val (.int (p4 &&& (7 : Int32))), .val (.float (own_sc (FP.i2f (p0 &&& (1048575 : Int32))) (FP.i2d ((p1 &&& (1048575 : Int32)) + (1 : Int32))) (FP.i2d (p2 &&& (16777215 : Int32))))), .val (.float (own_sc (FP.i2f (p0 &&& (1048575 : Int32))) (FP.i2d ((p1 &&& (1048575 : Int32)) + (1 : Int32))) (FP.dadd (FP.i2d (p2 &&& (16777215 : Int32))) (FP.i2d (p3 &&& (16777215 : Int32))))))] [(.float (own_sc (FP.i2f (p0 &&& (1048575 : Int32))) (FP.i2d ((p1 &&& (1048575 : Int32)) + (1 : Int32))) (FP.i2d (p2 &&& (16777215 : Int32))))), (.float (own_sc (FP.i2f (p0 &&& (1048575 : Int32))) (FP.i2d ((p1 &&& (1048575 : Int32)) + (1 : Int32))) (FP.dadd (FP.i2d (p2 &&& (16777215 : Int32))) (FP.i2d (p3 &&& (16777215 : Int32))))))]))) (fun t k => XS.fload X13.here hx rfl (hb hby at_213) rfl k) ?_
            refine OD.go (B := (T13.setTop (mkF m 216 #[.val (.int p0), .val (.int p1), .val (.int p2), .val (.int p3), .val (.int p4), .val (.int (p0 &&& (1048575 : Int32))), .val (.float (FP.i2f (p0 &&& (1048575 : Int32)))), .val (.double (FP.i2d ((p1 &&& (1048575 : Int32)) + (1 : Int32)))), .second, .val (.double (FP.i2d (p2 &&& (16777215 : Int32)))), .second, .val (.double (FP.i2d (p3 &&& (16777215 : Int32)))), .second, .val (.int (p4 &&& (7 : Int32))), .val (.float (own_sc (FP.i2f (p0 &&& (1048575 : Int32))) (FP.i2d ((p1 &&& (1048575 : Int32)) + (1 : Int32))) (FP.i2d (p2 &&& (16777215 : Int32))))), .val (.float (own_sc (FP.i2f (p0 &&& (1048575 : Int32))) (FP.i2d ((p1 &&& (1048575 : Int32)) + (1 : Int32))) (FP.dadd (FP.i2d (p2 &&& (16777215 : Int32))) (FP.i2d (p3 &&& (16777215 : Int32))))))] [(.int (cmpValue (FP.fcmp (own_sc (FP.i2f (p0 &&& (1048575 : Int32))) (FP.i2d ((p1 &&& (1048575 : Int32)) + (1 : Int32))) (FP.dadd (FP.i2d (p2 &&& (16777215 : Int32))) (FP.i2d (p3 &&& (16777215 : Int32))))) (own_sc (FP.i2f (p0 &&& (1048575 : Int32))) (FP.i2d ((p1 &&& (1048575 : Int32)) + (1 : Int32))) (FP.i2d (p2 &&& (16777215 : Int32))))) .g))]))) (fun t k => XS.fcmpS X13.here hx rfl (hb hby at_215) rfl (v := (cmpValue (FP.fcmp (own_sc (FP.i2f (p0 &&& (1048575 : Int32))) (FP.i2d ((p1 &&& (1048575 : Int32)) + (1 : Int32))) (FP.dadd (FP.i2d (p2 &&& (16777215 : Int32))) (FP.i2d (p3 &&& (16777215 : Int32))))) (own_sc (FP.i2f (p0 &&& (1048575 : Int32))) (FP.i2d ((p1 &&& (1048575 : Int32)) + (1 : Int32))) (FP.i2d (p2 &&& (16777215 : Int32))))) .g)) rfl k) ?_
            refine OD.go (B := (T13.setTop (mkF m 219 #[.val (.int p0), .val (.int p1), .val (.int p2), .val (.int p3), .val (.int p4), .val (.int (p0 &&& (1048575 : Int32))), .val (.float (FP.i2f (p0 &&& (1048575 : Int32)))), .val (.double (FP.i2d ((p1 &&& (1048575 : Int32)) + (1 : Int32)))), .second, .val (.double (FP.i2d (p2 &&& (16777215 : Int32)))), .second, .val (.double (FP.i2d (p3 &&& (16777215 : Int32)))), .second, .val (.int (p4 &&& (7 : Int32))), .val (.float (own_sc (FP.i2f (p0 &&& (1048575 : Int32))) (FP.i2d ((p1 &&& (1048575 : Int32)) + (1 : Int32))) (FP.i2d (p2 &&& (16777215 : Int32))))), .val (.float (own_sc (FP.i2f (p0 &&& (1048575 : Int32))) (FP.i2d ((p1 &&& (1048575 : Int32)) + (1 : Int32))) (FP.dadd (FP.i2d (p2 &&& (16777215 : Int32))) (FP.i2d (p3 &&& (16777215 : Int32))))))] []))) (fun t k => XS.ifNo X13.here hx rfl (hb hby at_216) rfl (by rw [if0]; exact (flt q.2.2.2.2.1).2.2.1) k) ?_
            refine OD.go (B := (T13.setTop (mkF m 221 #[.val (.int p0), .val (.int p1), .val (.int p2), .val (.int p3), .val (.int p4), .val (.int (p0 &&& (1048575 : Int32))), .val (.float (FP.i2f (p0 &&& (1048575 : Int32)))), .val (.double (FP.i2d ((p1 &&& (1048575 : Int32)) + (1 : Int32)))), .second, .val (.double (FP.i2d (p2 &&& (16777215 : Int32)))), .second, .val (.double (FP.i2d (p3 &&& (16777215 : Int32)))), .second, .val (.int (p4 &&& (7 : Int32))), .val (.float (own_sc (FP.i2f (p0 &&& (1048575 : Int32))) (FP.i2d ((p1 &&& (1048575 : Int32)) + (1 : Int32))) (FP.i2d (p2 &&& (16777215 : Int32))))), .val (.float (own_sc (FP.i2f (p0 &&& (1048575 : Int32))) (FP.i2d ((p1 &&& (1048575 : Int32)) + (1 : Int32))) (FP.dadd (FP.i2d (p2 &&& (16777215 : Int32))) (FP.i2d (p3 &&& (16777215 : Int32))))))] [(.float (own_sc (FP.i2f (p0 &&& (1048575 : Int32))) (FP.i2d ((p1 &&& (1048575 : Int32)) + (1 : Int32))) (FP.i2d (p2 &&& (16777215 : Int32)))))]))) (fun t k => XS.fload X13.here hx rfl (hb hby at_219) rfl k) ?_
            refine OD.go (B := (T13.setTop (mkF m 223 #[.val (.int p0), .val (.int p1), .val (.int p2), .val (.int p3), .val (.int p4), .val (.int (p0 &&& (1048575 : Int32))), .val (.float (FP.i2f (p0 &&& (1048575 : Int32)))), .val (.double (FP.i2d ((p1 &&& (1048575 : Int32)) + (1 : Int32)))), .second, .val (.double (FP.i2d (p2 &&& (16777215 : Int32)))), .second, .val (.double (FP.i2d (p3 &&& (16777215 : Int32)))), .second, .val (.int (p4 &&& (7 : Int32))), .val (.float (own_sc (FP.i2f (p0 &&& (1048575 : Int32))) (FP.i2d ((p1 &&& (1048575 : Int32)) + (1 : Int32))) (FP.i2d (p2 &&& (16777215 : Int32))))), .val (.float (own_sc (FP.i2f (p0 &&& (1048575 : Int32))) (FP.i2d ((p1 &&& (1048575 : Int32)) + (1 : Int32))) (FP.dadd (FP.i2d (p2 &&& (16777215 : Int32))) (FP.i2d (p3 &&& (16777215 : Int32))))))] [(.float (FP.i2f (p0 &&& (1048575 : Int32)))), (.float (own_sc (FP.i2f (p0 &&& (1048575 : Int32))) (FP.i2d ((p1 &&& (1048575 : Int32)) + (1 : Int32))) (FP.i2d (p2 &&& (16777215 : Int32)))))]))) (fun t k => XS.fload X13.here hx rfl (hb hby at_221) rfl k) ?_
            refine OD.go (B := (T13.setTop (mkF m 224 #[.val (.int p0), .val (.int p1), .val (.int p2), .val (.int p3), .val (.int p4), .val (.int (p0 &&& (1048575 : Int32))), .val (.float (FP.i2f (p0 &&& (1048575 : Int32)))), .val (.double (FP.i2d ((p1 &&& (1048575 : Int32)) + (1 : Int32)))), .second, .val (.double (FP.i2d (p2 &&& (16777215 : Int32)))), .second, .val (.double (FP.i2d (p3 &&& (16777215 : Int32)))), .second, .val (.int (p4 &&& (7 : Int32))), .val (.float (own_sc (FP.i2f (p0 &&& (1048575 : Int32))) (FP.i2d ((p1 &&& (1048575 : Int32)) + (1 : Int32))) (FP.i2d (p2 &&& (16777215 : Int32))))), .val (.float (own_sc (FP.i2f (p0 &&& (1048575 : Int32))) (FP.i2d ((p1 &&& (1048575 : Int32)) + (1 : Int32))) (FP.dadd (FP.i2d (p2 &&& (16777215 : Int32))) (FP.i2d (p3 &&& (16777215 : Int32))))))] [(.int (cmpValue (FP.fcmp (own_sc (FP.i2f (p0 &&& (1048575 : Int32))) (FP.i2d ((p1 &&& (1048575 : Int32)) + (1 : Int32))) (FP.i2d (p2 &&& (16777215 : Int32)))) (FP.i2f (p0 &&& (1048575 : Int32)))) .g))]))) (fun t k => XS.fcmpS X13.here hx rfl (hb hby at_223) rfl (v := (cmpValue (FP.fcmp (own_sc (FP.i2f (p0 &&& (1048575 : Int32))) (FP.i2d ((p1 &&& (1048575 : Int32)) + (1 : Int32))) (FP.i2d (p2 &&& (16777215 : Int32)))) (FP.i2f (p0 &&& (1048575 : Int32)))) .g)) rfl k) ?_
            refine OD.go (B := (T13.setTop (mkF m 227 #[.val (.int p0), .val (.int p1), .val (.int p2), .val (.int p3), .val (.int p4), .val (.int (p0 &&& (1048575 : Int32))), .val (.float (FP.i2f (p0 &&& (1048575 : Int32)))), .val (.double (FP.i2d ((p1 &&& (1048575 : Int32)) + (1 : Int32)))), .second, .val (.double (FP.i2d (p2 &&& (16777215 : Int32)))), .second, .val (.double (FP.i2d (p3 &&& (16777215 : Int32)))), .second, .val (.int (p4 &&& (7 : Int32))), .val (.float (own_sc (FP.i2f (p0 &&& (1048575 : Int32))) (FP.i2d ((p1 &&& (1048575 : Int32)) + (1 : Int32))) (FP.i2d (p2 &&& (16777215 : Int32))))), .val (.float (own_sc (FP.i2f (p0 &&& (1048575 : Int32))) (FP.i2d ((p1 &&& (1048575 : Int32)) + (1 : Int32))) (FP.dadd (FP.i2d (p2 &&& (16777215 : Int32))) (FP.i2d (p3 &&& (16777215 : Int32))))))] []))) (fun t k => XS.ifNo X13.here hx rfl (hb hby at_224) rfl (by rw [if0]; exact (flt q.2.2.2.2.2).2.2.1) k) ?_
            refine OD.go (B := (T13.setTop (mkF m 228 #[.val (.int p0), .val (.int p1), .val (.int p2), .val (.int p3), .val (.int p4), .val (.int (p0 &&& (1048575 : Int32))), .val (.float (FP.i2f (p0 &&& (1048575 : Int32)))), .val (.double (FP.i2d ((p1 &&& (1048575 : Int32)) + (1 : Int32)))), .second, .val (.double (FP.i2d (p2 &&& (16777215 : Int32)))), .second, .val (.double (FP.i2d (p3 &&& (16777215 : Int32)))), .second, .val (.int (p4 &&& (7 : Int32))), .val (.float (own_sc (FP.i2f (p0 &&& (1048575 : Int32))) (FP.i2d ((p1 &&& (1048575 : Int32)) + (1 : Int32))) (FP.i2d (p2 &&& (16777215 : Int32))))), .val (.float (own_sc (FP.i2f (p0 &&& (1048575 : Int32))) (FP.i2d ((p1 &&& (1048575 : Int32)) + (1 : Int32))) (FP.dadd (FP.i2d (p2 &&& (16777215 : Int32))) (FP.i2d (p3 &&& (16777215 : Int32))))))] [(.int (1 : Int32))]))) (fun t k => XS.iconst X13.here hx rfl (hb hby at_227) k) ?_
            refine OD.go (B := (T13.setTop (mkF m 232 #[.val (.int p0), .val (.int p1), .val (.int p2), .val (.int p3), .val (.int p4), .val (.int (p0 &&& (1048575 : Int32))), .val (.float (FP.i2f (p0 &&& (1048575 : Int32)))), .val (.double (FP.i2d ((p1 &&& (1048575 : Int32)) + (1 : Int32)))), .second, .val (.double (FP.i2d (p2 &&& (16777215 : Int32)))), .second, .val (.double (FP.i2d (p3 &&& (16777215 : Int32)))), .second, .val (.int (p4 &&& (7 : Int32))), .val (.float (own_sc (FP.i2f (p0 &&& (1048575 : Int32))) (FP.i2d ((p1 &&& (1048575 : Int32)) + (1 : Int32))) (FP.i2d (p2 &&& (16777215 : Int32))))), .val (.float (own_sc (FP.i2f (p0 &&& (1048575 : Int32))) (FP.i2d ((p1 &&& (1048575 : Int32)) + (1 : Int32))) (FP.dadd (FP.i2d (p2 &&& (16777215 : Int32))) (FP.i2d (p3 &&& (16777215 : Int32))))))] [(.int (1 : Int32))]))) (fun t k => XS.goto X13.here hx rfl (pc0 := 228) (pc' := 232) rfl (hb hby at_228) (by decide) (by decide) k) ?_
            exact OD.ret X13 hx hlk (t := .boolean) Bd.returns rfl (Or.inl ⟨rfl, Or.inr (Or.inl rfl), _, rfl⟩) (hb hby at_232) (Nat.le_of_ble_eq_true rfl) (Nat.le_of_ble_eq_true rfl) ⟨rfl, Fr.nil _⟩
          · refine OD.go (B := (s₁.setTop (mkF m 233 #[.val (.int p0), .val (.int p1), .val (.int p2), .val (.int p3), .val (.int p4), .val (.int (p0 &&& (1048575 : Int32))), .val (.float (FP.i2f (p0 &&& (1048575 : Int32)))), .val (.double (FP.i2d ((p1 &&& (1048575 : Int32)) + (1 : Int32)))), .second, .val (.double (FP.i2d (p2 &&& (16777215 : Int32)))), .second, .val (.double (FP.i2d (p3 &&& (16777215 : Int32)))), .second, .val (.int (p4 &&& (7 : Int32))), .unset, .unset] []))) (fun t k => XS.icmpYes X0.here hx rfl (pc0 := 176) (pc' := 233) rfl (hb hby at_176) rfl (feq c176_11).2 (by decide) (by decide) k) ?_
            refine OD.go (B := (s₁.setTop (mkF m 235 #[.val (.int p0), .val (.int p1), .val (.int p2), .val (.int p3), .val (.int p4), .val (.int (p0 &&& (1048575 : Int32))), .val (.float (FP.i2f (p0 &&& (1048575 : Int32)))), .val (.double (FP.i2d ((p1 &&& (1048575 : Int32)) + (1 : Int32)))), .second, .val (.double (FP.i2d (p2 &&& (16777215 : Int32)))), .second, .val (.double (FP.i2d (p3 &&& (16777215 : Int32)))), .second, .val (.int (p4 &&& (7 : Int32))), .unset, .unset] [(.int (p4 &&& (7 : Int32)))]))) (fun t k => XS.iload X0.here hx rfl (hb hby at_233) rfl k) ?_
            refine OD.go (B := (s₁.setTop (mkF m 236 #[.val (.int p0), .val (.int p1), .val (.int p2), .val (.int p3), .val (.int p4), .val (.int (p0 &&& (1048575 : Int32))), .val (.float (FP.i2f (p0 &&& (1048575 : Int32)))), .val (.double (FP.i2d ((p1 &&& (1048575 : Int32)) + (1 : Int32)))), .second, .val (.double (FP.i2d (p2 &&& (16777215 : Int32)))), .second, .val (.double (FP.i2d (p3 &&& (16777215 : Int32)))), .second, .val (.int (p4 &&& (7 : Int32))), .unset, .unset] [(.int (5 : Int32)), (.int (p4 &&& (7 : Int32)))]))) (fun t k => XS.iconst X0.here hx rfl (hb hby at_235) k) ?_
            by_cases c236_14 : (p4 &&& (7 : Int32)) = (5 : Int32)
            · refine OD.go (B := (s₁.setTop (mkF m 239 #[.val (.int p0), .val (.int p1), .val (.int p2), .val (.int p3), .val (.int p4), .val (.int (p0 &&& (1048575 : Int32))), .val (.float (FP.i2f (p0 &&& (1048575 : Int32)))), .val (.double (FP.i2d ((p1 &&& (1048575 : Int32)) + (1 : Int32)))), .second, .val (.double (FP.i2d (p2 &&& (16777215 : Int32)))), .second, .val (.double (FP.i2d (p3 &&& (16777215 : Int32)))), .second, .val (.int (p4 &&& (7 : Int32))), .unset, .unset] []))) (fun t k => XS.icmpNo X0.here hx rfl (hb hby at_236) rfl (teq c236_14).2 k) ?_
              have q := own_m5 hvB hB hvP hP0 hP hvD hD
              refine OD.go (B := (s₁.setTop (mkF m 241 #[.val (.int p0), .val (.int p1), .val (.int p2), .val (.int p3), .val (.int p4), .val (.int (p0 &&& (1048575 : Int32))), .val (.float (FP.i2f (p0 &&& (1048575 : Int32)))), .val (.double (FP.i2d ((p1 &&& (1048575 : Int32)) + (1 : Int32)))), .second, .val (.double (FP.i2d (p2 &&& (16777215 : Int32)))), .second, .val (.double (FP.i2d (p3 &&& (16777215 : Int32)))), .second, .val (.int (p4 &&& (7 : Int32))), .unset, .unset] [(.float (FP.i2f (p0 &&& (1048575 : Int32))))]))) (fun t k => XS.fload X0.here hx rfl (hb hby at_239) rfl k) ?_
              refine OD.go (B := (s₁.setTop (mkF m 243 #[.val (.int p0), .val (.int p1), .val (.int p2), .val (.int p3), .val (.int p4), .val (.int (p0 &&& (1048575 : Int32))), .val (.float (FP.i2f (p0 &&& (1048575 : Int32)))), .val (.double (FP.i2d ((p1 &&& (1048575 : Int32)) + (1 : Int32)))), .second, .val (.double (FP.i2d (p2 &&& (16777215 : Int32)))), .second, .val (.double (FP.i2d (p3 &&& (16777215 : Int32)))), .second, .val (.int (p4 &&& (7 : Int32))), .unset, .unset] [(.double (FP.i2d ((p1 &&& (1048575 : Int32)) + (1 : Int32)))), (.float (FP.i2f (p0 &&& (1048575 : Int32))))]))) (fun t k => XS.dload X0.here hx rfl (hb hby at_241) rfl k) ?_
              refine OD.go (B := (s₁.setTop (mkF m 245 #[.val (.int p0), .val (.int p1), .val (.int p2), .val (.int p3), .val (.int p4), .val (.int (p0 &&& (1048575 : Int32))), .val (.float (FP.i2f (p0 &&& (1048575 : Int32)))), .val (.double (FP.i2d ((p1 &&& (1048575 : Int32)) + (1 : Int32)))), .second, .val (.double (FP.i2d (p2 &&& (16777215 : Int32)))), .second, .val (.double (FP.i2d (p3 &&& (16777215 : Int32)))), .second, .val (.int (p4 &&& (7 : Int32))), .unset, .unset] [(.double (FP.i2d (p2 &&& (16777215 : Int32)))), (.double (FP.i2d ((p1 &&& (1048575 : Int32)) + (1 : Int32)))), (.float (FP.i2f (p0 &&& (1048575 : Int32))))]))) (fun t k => XS.dload X0.here hx rfl (hb hby at_243) rfl k) ?_
              obtain ⟨_, _, ⟨T15, L15, k15, n15⟩, -, X15, ⟨Lc15, hQ15, l15, y15, z15⟩, st15⟩ := Jvm.LawKit.callS X0 hx (y := (⟨"com/example/tight_pivot/tightpivot/ProximityScore", "score", "(FDD)F"⟩ : MethodName)) hown (mvT hZ (Wd2 hw)) (mvT hZ (Wd3 hw)) (mvT hZ (Wd4 hw)) (mvT hZ (Wd5 hw)) (by decide) (backOf (W := 0) (rmS l Z a0 hw [] (FP.i2f (p0 &&& (1048575 : Int32))) (FP.i2d ((p1 &&& (1048575 : Int32)) + (1 : Int32))) (FP.i2d (p2 &&& (16777215 : Int32))) h0 q.1) hZ (Wd5 hw) (Wd4 hw) (by decide) (by decide)) (g := (mkF m 245 #[.val (.int p0), .val (.int p1), .val (.int p2), .val (.int p3), .val (.int p4), .val (.int (p0 &&& (1048575 : Int32))), .val (.float (FP.i2f (p0 &&& (1048575 : Int32)))), .val (.double (FP.i2d ((p1 &&& (1048575 : Int32)) + (1 : Int32)))), .second, .val (.double (FP.i2d (p2 &&& (16777215 : Int32)))), .second, .val (.double (FP.i2d (p3 &&& (16777215 : Int32)))), .second, .val (.int (p4 &&& (7 : Int32))), .unset, .unset] [(.double (FP.i2d (p2 &&& (16777215 : Int32)))), (.double (FP.i2d ((p1 &&& (1048575 : Int32)) + (1 : Int32)))), (.float (FP.i2f (p0 &&& (1048575 : Int32))))])) rfl (by rw [hml]; rfl) (argsL := [(.float (FP.i2f (p0 &&& (1048575 : Int32)))), (.double (FP.i2d ((p1 &&& (1048575 : Int32)) + (1 : Int32)))), (.double (FP.i2d (p2 &&& (16777215 : Int32))))]) (rest := []) (lenOf pd0 rfl) rfl (by show 2 * 0 + _ ≤ _; exact Nat.le_of_eq rfl) (hb hby at_245) (fun _ _ => ⟨rfl, e0, (Nat.le_of_ble_eq_true rfl), (Nat.le_of_ble_eq_true rfl)⟩)
              dsimp only [Pt.U, Pt.locs, Pt.cells, Pt.slots] at X15 l15 y15 z15 st15 hQ15
              subst l15 y15 z15
              obtain ⟨rfl, rfl, e15⟩ := hQ15
              refine OD.go (B := (T15.setTop (mkF m 248 #[.val (.int p0), .val (.int p1), .val (.int p2), .val (.int p3), .val (.int p4), .val (.int (p0 &&& (1048575 : Int32))), .val (.float (FP.i2f (p0 &&& (1048575 : Int32)))), .val (.double (FP.i2d ((p1 &&& (1048575 : Int32)) + (1 : Int32)))), .second, .val (.double (FP.i2d (p2 &&& (16777215 : Int32)))), .second, .val (.double (FP.i2d (p3 &&& (16777215 : Int32)))), .second, .val (.int (p4 &&& (7 : Int32))), .unset, .unset] [(.float (own_sc (FP.i2f (p0 &&& (1048575 : Int32))) (FP.i2d ((p1 &&& (1048575 : Int32)) + (1 : Int32))) (FP.i2d (p2 &&& (16777215 : Int32)))))]))) st15 ?_
              refine OD.go (B := (T15.setTop (mkF m 250 #[.val (.int p0), .val (.int p1), .val (.int p2), .val (.int p3), .val (.int p4), .val (.int (p0 &&& (1048575 : Int32))), .val (.float (FP.i2f (p0 &&& (1048575 : Int32)))), .val (.double (FP.i2d ((p1 &&& (1048575 : Int32)) + (1 : Int32)))), .second, .val (.double (FP.i2d (p2 &&& (16777215 : Int32)))), .second, .val (.double (FP.i2d (p3 &&& (16777215 : Int32)))), .second, .val (.int (p4 &&& (7 : Int32))), .val (.float (own_sc (FP.i2f (p0 &&& (1048575 : Int32))) (FP.i2d ((p1 &&& (1048575 : Int32)) + (1 : Int32))) (FP.i2d (p2 &&& (16777215 : Int32))))), .unset] []))) (fun t k => XS.fstore X15.here hx rfl (hb hby at_248) rfl (l' := #[.val (.int p0), .val (.int p1), .val (.int p2), .val (.int p3), .val (.int p4), .val (.int (p0 &&& (1048575 : Int32))), .val (.float (FP.i2f (p0 &&& (1048575 : Int32)))), .val (.double (FP.i2d ((p1 &&& (1048575 : Int32)) + (1 : Int32)))), .second, .val (.double (FP.i2d (p2 &&& (16777215 : Int32)))), .second, .val (.double (FP.i2d (p3 &&& (16777215 : Int32)))), .second, .val (.int (p4 &&& (7 : Int32))), .val (.float (own_sc (FP.i2f (p0 &&& (1048575 : Int32))) (FP.i2d ((p1 &&& (1048575 : Int32)) + (1 : Int32))) (FP.i2d (p2 &&& (16777215 : Int32))))), .unset]) rfl k) ?_
              refine OD.go (B := (T15.setTop (mkF m 252 #[.val (.int p0), .val (.int p1), .val (.int p2), .val (.int p3), .val (.int p4), .val (.int (p0 &&& (1048575 : Int32))), .val (.float (FP.i2f (p0 &&& (1048575 : Int32)))), .val (.double (FP.i2d ((p1 &&& (1048575 : Int32)) + (1 : Int32)))), .second, .val (.double (FP.i2d (p2 &&& (16777215 : Int32)))), .second, .val (.double (FP.i2d (p3 &&& (16777215 : Int32)))), .second, .val (.int (p4 &&& (7 : Int32))), .val (.float (own_sc (FP.i2f (p0 &&& (1048575 : Int32))) (FP.i2d ((p1 &&& (1048575 : Int32)) + (1 : Int32))) (FP.i2d (p2 &&& (16777215 : Int32))))), .unset] [(.float (FP.i2f (p0 &&& (1048575 : Int32))))]))) (fun t k => XS.fload X15.here hx rfl (hb hby at_250) rfl k) ?_
              refine OD.go (B := (T15.setTop (mkF m 254 #[.val (.int p0), .val (.int p1), .val (.int p2), .val (.int p3), .val (.int p4), .val (.int (p0 &&& (1048575 : Int32))), .val (.float (FP.i2f (p0 &&& (1048575 : Int32)))), .val (.double (FP.i2d ((p1 &&& (1048575 : Int32)) + (1 : Int32)))), .second, .val (.double (FP.i2d (p2 &&& (16777215 : Int32)))), .second, .val (.double (FP.i2d (p3 &&& (16777215 : Int32)))), .second, .val (.int (p4 &&& (7 : Int32))), .val (.float (own_sc (FP.i2f (p0 &&& (1048575 : Int32))) (FP.i2d ((p1 &&& (1048575 : Int32)) + (1 : Int32))) (FP.i2d (p2 &&& (16777215 : Int32))))), .unset] [(.double (FP.i2d ((p1 &&& (1048575 : Int32)) + (1 : Int32)))), (.float (FP.i2f (p0 &&& (1048575 : Int32))))]))) (fun t k => XS.dload X15.here hx rfl (hb hby at_252) rfl k) ?_
              refine OD.go (B := (T15.setTop (mkF m 257 #[.val (.int p0), .val (.int p1), .val (.int p2), .val (.int p3), .val (.int p4), .val (.int (p0 &&& (1048575 : Int32))), .val (.float (FP.i2f (p0 &&& (1048575 : Int32)))), .val (.double (FP.i2d ((p1 &&& (1048575 : Int32)) + (1 : Int32)))), .second, .val (.double (FP.i2d (p2 &&& (16777215 : Int32)))), .second, .val (.double (FP.i2d (p3 &&& (16777215 : Int32)))), .second, .val (.int (p4 &&& (7 : Int32))), .val (.float (own_sc (FP.i2f (p0 &&& (1048575 : Int32))) (FP.i2d ((p1 &&& (1048575 : Int32)) + (1 : Int32))) (FP.i2d (p2 &&& (16777215 : Int32))))), .unset] [(.double (4652218415073722368 : UInt64)), (.double (FP.i2d ((p1 &&& (1048575 : Int32)) + (1 : Int32)))), (.float (FP.i2f (p0 &&& (1048575 : Int32))))]))) (fun t k => X15.ldc2DoubleC hx hown (mv hZ (Wd10 hw)) (g := (mkF m 254 #[.val (.int p0), .val (.int p1), .val (.int p2), .val (.int p3), .val (.int p4), .val (.int (p0 &&& (1048575 : Int32))), .val (.float (FP.i2f (p0 &&& (1048575 : Int32)))), .val (.double (FP.i2d ((p1 &&& (1048575 : Int32)) + (1 : Int32)))), .second, .val (.double (FP.i2d (p2 &&& (16777215 : Int32)))), .second, .val (.double (FP.i2d (p3 &&& (16777215 : Int32)))), .second, .val (.int (p4 &&& (7 : Int32))), .val (.float (own_sc (FP.i2f (p0 &&& (1048575 : Int32))) (FP.i2d ((p1 &&& (1048575 : Int32)) + (1 : Int32))) (FP.i2d (p2 &&& (16777215 : Int32))))), .unset] [(.double (FP.i2d ((p1 &&& (1048575 : Int32)) + (1 : Int32)))), (.float (FP.i2f (p0 &&& (1048575 : Int32))))])) rfl (hb hby at_254) _ k) ?_
              refine OD.go (B := (T15.setTop (mkF m 258 #[.val (.int p0), .val (.int p1), .val (.int p2), .val (.int p3), .val (.int p4), .val (.int (p0 &&& (1048575 : Int32))), .val (.float (FP.i2f (p0 &&& (1048575 : Int32)))), .val (.double (FP.i2d ((p1 &&& (1048575 : Int32)) + (1 : Int32)))), .second, .val (.double (FP.i2d (p2 &&& (16777215 : Int32)))), .second, .val (.double (FP.i2d (p3 &&& (16777215 : Int32)))), .second, .val (.int (p4 &&& (7 : Int32))), .val (.float (own_sc (FP.i2f (p0 &&& (1048575 : Int32))) (FP.i2d ((p1 &&& (1048575 : Int32)) + (1 : Int32))) (FP.i2d (p2 &&& (16777215 : Int32))))), .unset] [(.double (FP.dmul (FP.i2d ((p1 &&& (1048575 : Int32)) + (1 : Int32))) (4652218415073722368 : UInt64))), (.float (FP.i2f (p0 &&& (1048575 : Int32))))]))) (fun t k => XS.dmulS X15.here hx rfl (hb hby at_257) rfl q.2.1 (v := (FP.dmul (FP.i2d ((p1 &&& (1048575 : Int32)) + (1 : Int32))) (4652218415073722368 : UInt64))) rfl k) ?_
              refine OD.go (B := (T15.setTop (mkF m 260 #[.val (.int p0), .val (.int p1), .val (.int p2), .val (.int p3), .val (.int p4), .val (.int (p0 &&& (1048575 : Int32))), .val (.float (FP.i2f (p0 &&& (1048575 : Int32)))), .val (.double (FP.i2d ((p1 &&& (1048575 : Int32)) + (1 : Int32)))), .second, .val (.double (FP.i2d (p2 &&& (16777215 : Int32)))), .second, .val (.double (FP.i2d (p3 &&& (16777215 : Int32)))), .second, .val (.int (p4 &&& (7 : Int32))), .val (.float (own_sc (FP.i2f (p0 &&& (1048575 : Int32))) (FP.i2d ((p1 &&& (1048575 : Int32)) + (1 : Int32))) (FP.i2d (p2 &&& (16777215 : Int32))))), .unset] [(.double (FP.i2d (p2 &&& (16777215 : Int32)))), (.double (FP.dmul (FP.i2d ((p1 &&& (1048575 : Int32)) + (1 : Int32))) (4652218415073722368 : UInt64))), (.float (FP.i2f (p0 &&& (1048575 : Int32))))]))) (fun t k => XS.dload X15.here hx rfl (hb hby at_258) rfl k) ?_
              refine OD.go (B := (T15.setTop (mkF m 263 #[.val (.int p0), .val (.int p1), .val (.int p2), .val (.int p3), .val (.int p4), .val (.int (p0 &&& (1048575 : Int32))), .val (.float (FP.i2f (p0 &&& (1048575 : Int32)))), .val (.double (FP.i2d ((p1 &&& (1048575 : Int32)) + (1 : Int32)))), .second, .val (.double (FP.i2d (p2 &&& (16777215 : Int32)))), .second, .val (.double (FP.i2d (p3 &&& (16777215 : Int32)))), .second, .val (.int (p4 &&& (7 : Int32))), .val (.float (own_sc (FP.i2f (p0 &&& (1048575 : Int32))) (FP.i2d ((p1 &&& (1048575 : Int32)) + (1 : Int32))) (FP.i2d (p2 &&& (16777215 : Int32))))), .unset] [(.double (4652218415073722368 : UInt64)), (.double (FP.i2d (p2 &&& (16777215 : Int32)))), (.double (FP.dmul (FP.i2d ((p1 &&& (1048575 : Int32)) + (1 : Int32))) (4652218415073722368 : UInt64))), (.float (FP.i2f (p0 &&& (1048575 : Int32))))]))) (fun t k => X15.ldc2DoubleC hx hown (mv hZ (Wd10 hw)) (g := (mkF m 260 #[.val (.int p0), .val (.int p1), .val (.int p2), .val (.int p3), .val (.int p4), .val (.int (p0 &&& (1048575 : Int32))), .val (.float (FP.i2f (p0 &&& (1048575 : Int32)))), .val (.double (FP.i2d ((p1 &&& (1048575 : Int32)) + (1 : Int32)))), .second, .val (.double (FP.i2d (p2 &&& (16777215 : Int32)))), .second, .val (.double (FP.i2d (p3 &&& (16777215 : Int32)))), .second, .val (.int (p4 &&& (7 : Int32))), .val (.float (own_sc (FP.i2f (p0 &&& (1048575 : Int32))) (FP.i2d ((p1 &&& (1048575 : Int32)) + (1 : Int32))) (FP.i2d (p2 &&& (16777215 : Int32))))), .unset] [(.double (FP.i2d (p2 &&& (16777215 : Int32)))), (.double (FP.dmul (FP.i2d ((p1 &&& (1048575 : Int32)) + (1 : Int32))) (4652218415073722368 : UInt64))), (.float (FP.i2f (p0 &&& (1048575 : Int32))))])) rfl (hb hby at_260) _ k) ?_
              refine OD.go (B := (T15.setTop (mkF m 264 #[.val (.int p0), .val (.int p1), .val (.int p2), .val (.int p3), .val (.int p4), .val (.int (p0 &&& (1048575 : Int32))), .val (.float (FP.i2f (p0 &&& (1048575 : Int32)))), .val (.double (FP.i2d ((p1 &&& (1048575 : Int32)) + (1 : Int32)))), .second, .val (.double (FP.i2d (p2 &&& (16777215 : Int32)))), .second, .val (.double (FP.i2d (p3 &&& (16777215 : Int32)))), .second, .val (.int (p4 &&& (7 : Int32))), .val (.float (own_sc (FP.i2f (p0 &&& (1048575 : Int32))) (FP.i2d ((p1 &&& (1048575 : Int32)) + (1 : Int32))) (FP.i2d (p2 &&& (16777215 : Int32))))), .unset] [(.double (FP.dmul (FP.i2d (p2 &&& (16777215 : Int32))) (4652218415073722368 : UInt64))), (.double (FP.dmul (FP.i2d ((p1 &&& (1048575 : Int32)) + (1 : Int32))) (4652218415073722368 : UInt64))), (.float (FP.i2f (p0 &&& (1048575 : Int32))))]))) (fun t k => XS.dmulS X15.here hx rfl (hb hby at_263) rfl q.2.2.1 (v := (FP.dmul (FP.i2d (p2 &&& (16777215 : Int32))) (4652218415073722368 : UInt64))) rfl k) ?_
              obtain ⟨_, _, ⟨T16, L16, k16, n16⟩, -, X16, ⟨Lc16, hQ16, l16, y16, z16⟩, st16⟩ := Jvm.LawKit.callS X15 hx (y := (⟨"com/example/tight_pivot/tightpivot/ProximityScore", "score", "(FDD)F"⟩ : MethodName)) hown (mvT hZ (Wd2 hw)) (mvT hZ (Wd3 hw)) (mvT hZ (Wd4 hw)) (mvT hZ (Wd5 hw)) (by decide) (backOf (W := 0) (rmS l Z a0 hw [] (FP.i2f (p0 &&& (1048575 : Int32))) (FP.dmul (FP.i2d ((p1 &&& (1048575 : Int32)) + (1 : Int32))) (4652218415073722368 : UInt64)) (FP.dmul (FP.i2d (p2 &&& (16777215 : Int32))) (4652218415073722368 : UInt64)) h0 q.2.2.2.1) hZ (Wd5 hw) (Wd4 hw) (by decide) (by decide)) (g := (mkF m 264 #[.val (.int p0), .val (.int p1), .val (.int p2), .val (.int p3), .val (.int p4), .val (.int (p0 &&& (1048575 : Int32))), .val (.float (FP.i2f (p0 &&& (1048575 : Int32)))), .val (.double (FP.i2d ((p1 &&& (1048575 : Int32)) + (1 : Int32)))), .second, .val (.double (FP.i2d (p2 &&& (16777215 : Int32)))), .second, .val (.double (FP.i2d (p3 &&& (16777215 : Int32)))), .second, .val (.int (p4 &&& (7 : Int32))), .val (.float (own_sc (FP.i2f (p0 &&& (1048575 : Int32))) (FP.i2d ((p1 &&& (1048575 : Int32)) + (1 : Int32))) (FP.i2d (p2 &&& (16777215 : Int32))))), .unset] [(.double (FP.dmul (FP.i2d (p2 &&& (16777215 : Int32))) (4652218415073722368 : UInt64))), (.double (FP.dmul (FP.i2d ((p1 &&& (1048575 : Int32)) + (1 : Int32))) (4652218415073722368 : UInt64))), (.float (FP.i2f (p0 &&& (1048575 : Int32))))])) rfl (by rw [hml]; rfl) (argsL := [(.float (FP.i2f (p0 &&& (1048575 : Int32)))), (.double (FP.dmul (FP.i2d ((p1 &&& (1048575 : Int32)) + (1 : Int32))) (4652218415073722368 : UInt64))), (.double (FP.dmul (FP.i2d (p2 &&& (16777215 : Int32))) (4652218415073722368 : UInt64)))]) (rest := []) (lenOf pd0 rfl) rfl (by show 2 * 0 + _ ≤ _; exact Nat.le_of_eq rfl) (hb hby at_264) (fun _ _ => ⟨rfl, e15, (Nat.le_of_ble_eq_true rfl), (Nat.le_of_ble_eq_true rfl)⟩)
              dsimp only [Pt.U, Pt.locs, Pt.cells, Pt.slots] at X16 l16 y16 z16 st16 hQ16
              subst l16 y16 z16
              obtain ⟨rfl, rfl, e16⟩ := hQ16
              refine OD.go (B := (T16.setTop (mkF m 267 #[.val (.int p0), .val (.int p1), .val (.int p2), .val (.int p3), .val (.int p4), .val (.int (p0 &&& (1048575 : Int32))), .val (.float (FP.i2f (p0 &&& (1048575 : Int32)))), .val (.double (FP.i2d ((p1 &&& (1048575 : Int32)) + (1 : Int32)))), .second, .val (.double (FP.i2d (p2 &&& (16777215 : Int32)))), .second, .val (.double (FP.i2d (p3 &&& (16777215 : Int32)))), .second, .val (.int (p4 &&& (7 : Int32))), .val (.float (own_sc (FP.i2f (p0 &&& (1048575 : Int32))) (FP.i2d ((p1 &&& (1048575 : Int32)) + (1 : Int32))) (FP.i2d (p2 &&& (16777215 : Int32))))), .unset] [(.float (own_sc (FP.i2f (p0 &&& (1048575 : Int32))) (FP.dmul (FP.i2d ((p1 &&& (1048575 : Int32)) + (1 : Int32))) (4652218415073722368 : UInt64)) (FP.dmul (FP.i2d (p2 &&& (16777215 : Int32))) (4652218415073722368 : UInt64))))]))) st16 ?_
              refine OD.go (B := (T16.setTop (mkF m 269 #[.val (.int p0), .val (.int p1), .val (.int p2), .val (.int p3), .val (.int p4), .val (.int (p0 &&& (1048575 : Int32))), .val (.float (FP.i2f (p0 &&& (1048575 : Int32)))), .val (.double (FP.i2d ((p1 &&& (1048575 : Int32)) + (1 : Int32)))), .second, .val (.double (FP.i2d (p2 &&& (16777215 : Int32)))), .second, .val (.double (FP.i2d (p3 &&& (16777215 : Int32)))), .second, .val (.int (p4 &&& (7 : Int32))), .val (.float (own_sc (FP.i2f (p0 &&& (1048575 : Int32))) (FP.i2d ((p1 &&& (1048575 : Int32)) + (1 : Int32))) (FP.i2d (p2 &&& (16777215 : Int32))))), .val (.float (own_sc (FP.i2f (p0 &&& (1048575 : Int32))) (FP.dmul (FP.i2d ((p1 &&& (1048575 : Int32)) + (1 : Int32))) (4652218415073722368 : UInt64)) (FP.dmul (FP.i2d (p2 &&& (16777215 : Int32))) (4652218415073722368 : UInt64))))] []))) (fun t k => XS.fstore X16.here hx rfl (hb hby at_267) rfl (l' := #[.val (.int p0), .val (.int p1), .val (.int p2), .val (.int p3), .val (.int p4), .val (.int (p0 &&& (1048575 : Int32))), .val (.float (FP.i2f (p0 &&& (1048575 : Int32)))), .val (.double (FP.i2d ((p1 &&& (1048575 : Int32)) + (1 : Int32)))), .second, .val (.double (FP.i2d (p2 &&& (16777215 : Int32)))), .second, .val (.double (FP.i2d (p3 &&& (16777215 : Int32)))), .second, .val (.int (p4 &&& (7 : Int32))), .val (.float (own_sc (FP.i2f (p0 &&& (1048575 : Int32))) (FP.i2d ((p1 &&& (1048575 : Int32)) + (1 : Int32))) (FP.i2d (p2 &&& (16777215 : Int32))))), .val (.float (own_sc (FP.i2f (p0 &&& (1048575 : Int32))) (FP.dmul (FP.i2d ((p1 &&& (1048575 : Int32)) + (1 : Int32))) (4652218415073722368 : UInt64)) (FP.dmul (FP.i2d (p2 &&& (16777215 : Int32))) (4652218415073722368 : UInt64))))]) rfl k) ?_
              refine OD.go (B := (T16.setTop (mkF m 271 #[.val (.int p0), .val (.int p1), .val (.int p2), .val (.int p3), .val (.int p4), .val (.int (p0 &&& (1048575 : Int32))), .val (.float (FP.i2f (p0 &&& (1048575 : Int32)))), .val (.double (FP.i2d ((p1 &&& (1048575 : Int32)) + (1 : Int32)))), .second, .val (.double (FP.i2d (p2 &&& (16777215 : Int32)))), .second, .val (.double (FP.i2d (p3 &&& (16777215 : Int32)))), .second, .val (.int (p4 &&& (7 : Int32))), .val (.float (own_sc (FP.i2f (p0 &&& (1048575 : Int32))) (FP.i2d ((p1 &&& (1048575 : Int32)) + (1 : Int32))) (FP.i2d (p2 &&& (16777215 : Int32))))), .val (.float (own_sc (FP.i2f (p0 &&& (1048575 : Int32))) (FP.dmul (FP.i2d ((p1 &&& (1048575 : Int32)) + (1 : Int32))) (4652218415073722368 : UInt64)) (FP.dmul (FP.i2d (p2 &&& (16777215 : Int32))) (4652218415073722368 : UInt64))))] [(.float (own_sc (FP.i2f (p0 &&& (1048575 : Int32))) (FP.i2d ((p1 &&& (1048575 : Int32)) + (1 : Int32))) (FP.i2d (p2 &&& (16777215 : Int32)))))]))) (fun t k => XS.fload X16.here hx rfl (hb hby at_269) rfl k) ?_
              refine OD.go (B := (T16.setTop (mkF m 273 #[.val (.int p0), .val (.int p1), .val (.int p2), .val (.int p3), .val (.int p4), .val (.int (p0 &&& (1048575 : Int32))), .val (.float (FP.i2f (p0 &&& (1048575 : Int32)))), .val (.double (FP.i2d ((p1 &&& (1048575 : Int32)) + (1 : Int32)))), .second, .val (.double (FP.i2d (p2 &&& (16777215 : Int32)))), .second, .val (.double (FP.i2d (p3 &&& (16777215 : Int32)))), .second, .val (.int (p4 &&& (7 : Int32))), .val (.float (own_sc (FP.i2f (p0 &&& (1048575 : Int32))) (FP.i2d ((p1 &&& (1048575 : Int32)) + (1 : Int32))) (FP.i2d (p2 &&& (16777215 : Int32))))), .val (.float (own_sc (FP.i2f (p0 &&& (1048575 : Int32))) (FP.dmul (FP.i2d ((p1 &&& (1048575 : Int32)) + (1 : Int32))) (4652218415073722368 : UInt64)) (FP.dmul (FP.i2d (p2 &&& (16777215 : Int32))) (4652218415073722368 : UInt64))))] [(.float (own_sc (FP.i2f (p0 &&& (1048575 : Int32))) (FP.dmul (FP.i2d ((p1 &&& (1048575 : Int32)) + (1 : Int32))) (4652218415073722368 : UInt64)) (FP.dmul (FP.i2d (p2 &&& (16777215 : Int32))) (4652218415073722368 : UInt64)))), (.float (own_sc (FP.i2f (p0 &&& (1048575 : Int32))) (FP.i2d ((p1 &&& (1048575 : Int32)) + (1 : Int32))) (FP.i2d (p2 &&& (16777215 : Int32)))))]))) (fun t k => XS.fload X16.here hx rfl (hb hby at_271) rfl k) ?_
              refine OD.go (B := (T16.setTop (mkF m 274 #[.val (.int p0), .val (.int p1), .val (.int p2), .val (.int p3), .val (.int p4), .val (.int (p0 &&& (1048575 : Int32))), .val (.float (FP.i2f (p0 &&& (1048575 : Int32)))), .val (.double (FP.i2d ((p1 &&& (1048575 : Int32)) + (1 : Int32)))), .second, .val (.double (FP.i2d (p2 &&& (16777215 : Int32)))), .second, .val (.double (FP.i2d (p3 &&& (16777215 : Int32)))), .second, .val (.int (p4 &&& (7 : Int32))), .val (.float (own_sc (FP.i2f (p0 &&& (1048575 : Int32))) (FP.i2d ((p1 &&& (1048575 : Int32)) + (1 : Int32))) (FP.i2d (p2 &&& (16777215 : Int32))))), .val (.float (own_sc (FP.i2f (p0 &&& (1048575 : Int32))) (FP.dmul (FP.i2d ((p1 &&& (1048575 : Int32)) + (1 : Int32))) (4652218415073722368 : UInt64)) (FP.dmul (FP.i2d (p2 &&& (16777215 : Int32))) (4652218415073722368 : UInt64))))] [(.int (cmpValue (FP.fcmp (own_sc (FP.i2f (p0 &&& (1048575 : Int32))) (FP.i2d ((p1 &&& (1048575 : Int32)) + (1 : Int32))) (FP.i2d (p2 &&& (16777215 : Int32)))) (own_sc (FP.i2f (p0 &&& (1048575 : Int32))) (FP.dmul (FP.i2d ((p1 &&& (1048575 : Int32)) + (1 : Int32))) (4652218415073722368 : UInt64)) (FP.dmul (FP.i2d (p2 &&& (16777215 : Int32))) (4652218415073722368 : UInt64)))) .l))]))) (fun t k => XS.fcmpS X16.here hx rfl (hb hby at_273) rfl (v := (cmpValue (FP.fcmp (own_sc (FP.i2f (p0 &&& (1048575 : Int32))) (FP.i2d ((p1 &&& (1048575 : Int32)) + (1 : Int32))) (FP.i2d (p2 &&& (16777215 : Int32)))) (own_sc (FP.i2f (p0 &&& (1048575 : Int32))) (FP.dmul (FP.i2d ((p1 &&& (1048575 : Int32)) + (1 : Int32))) (4652218415073722368 : UInt64)) (FP.dmul (FP.i2d (p2 &&& (16777215 : Int32))) (4652218415073722368 : UInt64)))) .l)) rfl k) ?_
              refine OD.go (B := (T16.setTop (mkF m 277 #[.val (.int p0), .val (.int p1), .val (.int p2), .val (.int p3), .val (.int p4), .val (.int (p0 &&& (1048575 : Int32))), .val (.float (FP.i2f (p0 &&& (1048575 : Int32)))), .val (.double (FP.i2d ((p1 &&& (1048575 : Int32)) + (1 : Int32)))), .second, .val (.double (FP.i2d (p2 &&& (16777215 : Int32)))), .second, .val (.double (FP.i2d (p3 &&& (16777215 : Int32)))), .second, .val (.int (p4 &&& (7 : Int32))), .val (.float (own_sc (FP.i2f (p0 &&& (1048575 : Int32))) (FP.i2d ((p1 &&& (1048575 : Int32)) + (1 : Int32))) (FP.i2d (p2 &&& (16777215 : Int32))))), .val (.float (own_sc (FP.i2f (p0 &&& (1048575 : Int32))) (FP.dmul (FP.i2d ((p1 &&& (1048575 : Int32)) + (1 : Int32))) (4652218415073722368 : UInt64)) (FP.dmul (FP.i2d (p2 &&& (16777215 : Int32))) (4652218415073722368 : UInt64))))] []))) (fun t k => XS.ifNo X16.here hx rfl (hb hby at_274) rfl (by rw [if0]; exact (teq q.2.2.2.2).2) k) ?_
              refine OD.go (B := (T16.setTop (mkF m 278 #[.val (.int p0), .val (.int p1), .val (.int p2), .val (.int p3), .val (.int p4), .val (.int (p0 &&& (1048575 : Int32))), .val (.float (FP.i2f (p0 &&& (1048575 : Int32)))), .val (.double (FP.i2d ((p1 &&& (1048575 : Int32)) + (1 : Int32)))), .second, .val (.double (FP.i2d (p2 &&& (16777215 : Int32)))), .second, .val (.double (FP.i2d (p3 &&& (16777215 : Int32)))), .second, .val (.int (p4 &&& (7 : Int32))), .val (.float (own_sc (FP.i2f (p0 &&& (1048575 : Int32))) (FP.i2d ((p1 &&& (1048575 : Int32)) + (1 : Int32))) (FP.i2d (p2 &&& (16777215 : Int32))))), .val (.float (own_sc (FP.i2f (p0 &&& (1048575 : Int32))) (FP.dmul (FP.i2d ((p1 &&& (1048575 : Int32)) + (1 : Int32))) (4652218415073722368 : UInt64)) (FP.dmul (FP.i2d (p2 &&& (16777215 : Int32))) (4652218415073722368 : UInt64))))] [(.int (1 : Int32))]))) (fun t k => XS.iconst X16.here hx rfl (hb hby at_277) k) ?_
              refine OD.go (B := (T16.setTop (mkF m 282 #[.val (.int p0), .val (.int p1), .val (.int p2), .val (.int p3), .val (.int p4), .val (.int (p0 &&& (1048575 : Int32))), .val (.float (FP.i2f (p0 &&& (1048575 : Int32)))), .val (.double (FP.i2d ((p1 &&& (1048575 : Int32)) + (1 : Int32)))), .second, .val (.double (FP.i2d (p2 &&& (16777215 : Int32)))), .second, .val (.double (FP.i2d (p3 &&& (16777215 : Int32)))), .second, .val (.int (p4 &&& (7 : Int32))), .val (.float (own_sc (FP.i2f (p0 &&& (1048575 : Int32))) (FP.i2d ((p1 &&& (1048575 : Int32)) + (1 : Int32))) (FP.i2d (p2 &&& (16777215 : Int32))))), .val (.float (own_sc (FP.i2f (p0 &&& (1048575 : Int32))) (FP.dmul (FP.i2d ((p1 &&& (1048575 : Int32)) + (1 : Int32))) (4652218415073722368 : UInt64)) (FP.dmul (FP.i2d (p2 &&& (16777215 : Int32))) (4652218415073722368 : UInt64))))] [(.int (1 : Int32))]))) (fun t k => XS.goto X16.here hx rfl (pc0 := 278) (pc' := 282) rfl (hb hby at_278) (by decide) (by decide) k) ?_
              exact OD.ret X16 hx hlk (t := .boolean) Bd.returns rfl (Or.inl ⟨rfl, Or.inr (Or.inl rfl), _, rfl⟩) (hb hby at_282) (Nat.le_of_ble_eq_true rfl) (Nat.le_of_ble_eq_true rfl) ⟨rfl, Fr.nil _⟩
            · refine OD.go (B := (s₁.setTop (mkF m 283 #[.val (.int p0), .val (.int p1), .val (.int p2), .val (.int p3), .val (.int p4), .val (.int (p0 &&& (1048575 : Int32))), .val (.float (FP.i2f (p0 &&& (1048575 : Int32)))), .val (.double (FP.i2d ((p1 &&& (1048575 : Int32)) + (1 : Int32)))), .second, .val (.double (FP.i2d (p2 &&& (16777215 : Int32)))), .second, .val (.double (FP.i2d (p3 &&& (16777215 : Int32)))), .second, .val (.int (p4 &&& (7 : Int32))), .unset, .unset] []))) (fun t k => XS.icmpYes X0.here hx rfl (pc0 := 236) (pc' := 283) rfl (hb hby at_236) rfl (feq c236_14).2 (by decide) (by decide) k) ?_
              refine OD.go (B := (s₁.setTop (mkF m 285 #[.val (.int p0), .val (.int p1), .val (.int p2), .val (.int p3), .val (.int p4), .val (.int (p0 &&& (1048575 : Int32))), .val (.float (FP.i2f (p0 &&& (1048575 : Int32)))), .val (.double (FP.i2d ((p1 &&& (1048575 : Int32)) + (1 : Int32)))), .second, .val (.double (FP.i2d (p2 &&& (16777215 : Int32)))), .second, .val (.double (FP.i2d (p3 &&& (16777215 : Int32)))), .second, .val (.int (p4 &&& (7 : Int32))), .unset, .unset] [(.int (p4 &&& (7 : Int32)))]))) (fun t k => XS.iload X0.here hx rfl (hb hby at_283) rfl k) ?_
              refine OD.go (B := (s₁.setTop (mkF m 287 #[.val (.int p0), .val (.int p1), .val (.int p2), .val (.int p3), .val (.int p4), .val (.int (p0 &&& (1048575 : Int32))), .val (.float (FP.i2f (p0 &&& (1048575 : Int32)))), .val (.double (FP.i2d ((p1 &&& (1048575 : Int32)) + (1 : Int32)))), .second, .val (.double (FP.i2d (p2 &&& (16777215 : Int32)))), .second, .val (.double (FP.i2d (p3 &&& (16777215 : Int32)))), .second, .val (.int (p4 &&& (7 : Int32))), .unset, .unset] [(.int (6 : Int32)), (.int (p4 &&& (7 : Int32)))]))) (fun t k => XS.bipush X0.here hx rfl (hb hby at_285) k) ?_
              by_cases c287_17 : (p4 &&& (7 : Int32)) = (6 : Int32)
              · refine OD.go (B := (s₁.setTop (mkF m 290 #[.val (.int p0), .val (.int p1), .val (.int p2), .val (.int p3), .val (.int p4), .val (.int (p0 &&& (1048575 : Int32))), .val (.float (FP.i2f (p0 &&& (1048575 : Int32)))), .val (.double (FP.i2d ((p1 &&& (1048575 : Int32)) + (1 : Int32)))), .second, .val (.double (FP.i2d (p2 &&& (16777215 : Int32)))), .second, .val (.double (FP.i2d (p3 &&& (16777215 : Int32)))), .second, .val (.int (p4 &&& (7 : Int32))), .unset, .unset] []))) (fun t k => XS.icmpNo X0.here hx rfl (hb hby at_287) rfl (teq c287_17).2 k) ?_
                have q := own_m6 hvB hB hvP hP0 hP hvD hD hvE hE
                refine OD.go (B := (s₁.setTop (mkF m 292 #[.val (.int p0), .val (.int p1), .val (.int p2), .val (.int p3), .val (.int p4), .val (.int (p0 &&& (1048575 : Int32))), .val (.float (FP.i2f (p0 &&& (1048575 : Int32)))), .val (.double (FP.i2d ((p1 &&& (1048575 : Int32)) + (1 : Int32)))), .second, .val (.double (FP.i2d (p2 &&& (16777215 : Int32)))), .second, .val (.double (FP.i2d (p3 &&& (16777215 : Int32)))), .second, .val (.int (p4 &&& (7 : Int32))), .unset, .unset] [(.float (FP.i2f (p0 &&& (1048575 : Int32))))]))) (fun t k => XS.fload X0.here hx rfl (hb hby at_290) rfl k) ?_
                refine OD.go (B := (s₁.setTop (mkF m 294 #[.val (.int p0), .val (.int p1), .val (.int p2), .val (.int p3), .val (.int p4), .val (.int (p0 &&& (1048575 : Int32))), .val (.float (FP.i2f (p0 &&& (1048575 : Int32)))), .val (.double (FP.i2d ((p1 &&& (1048575 : Int32)) + (1 : Int32)))), .second, .val (.double (FP.i2d (p2 &&& (16777215 : Int32)))), .second, .val (.double (FP.i2d (p3 &&& (16777215 : Int32)))), .second, .val (.int (p4 &&& (7 : Int32))), .unset, .unset] [(.double (FP.i2d ((p1 &&& (1048575 : Int32)) + (1 : Int32)))), (.float (FP.i2f (p0 &&& (1048575 : Int32))))]))) (fun t k => XS.dload X0.here hx rfl (hb hby at_292) rfl k) ?_
                refine OD.go (B := (s₁.setTop (mkF m 296 #[.val (.int p0), .val (.int p1), .val (.int p2), .val (.int p3), .val (.int p4), .val (.int (p0 &&& (1048575 : Int32))), .val (.float (FP.i2f (p0 &&& (1048575 : Int32)))), .val (.double (FP.i2d ((p1 &&& (1048575 : Int32)) + (1 : Int32)))), .second, .val (.double (FP.i2d (p2 &&& (16777215 : Int32)))), .second, .val (.double (FP.i2d (p3 &&& (16777215 : Int32)))), .second, .val (.int (p4 &&& (7 : Int32))), .unset, .unset] [(.double (FP.i2d (p2 &&& (16777215 : Int32)))), (.double (FP.i2d ((p1 &&& (1048575 : Int32)) + (1 : Int32)))), (.float (FP.i2f (p0 &&& (1048575 : Int32))))]))) (fun t k => XS.dload X0.here hx rfl (hb hby at_294) rfl k) ?_
                obtain ⟨_, _, ⟨T18, L18, k18, n18⟩, -, X18, ⟨Lc18, hQ18, l18, y18, z18⟩, st18⟩ := Jvm.LawKit.callS X0 hx (y := (⟨"com/example/tight_pivot/tightpivot/ProximityScore", "score", "(FDD)F"⟩ : MethodName)) hown (mvT hZ (Wd2 hw)) (mvT hZ (Wd3 hw)) (mvT hZ (Wd4 hw)) (mvT hZ (Wd5 hw)) (by decide) (backOf (W := 0) (rmS l Z a0 hw [] (FP.i2f (p0 &&& (1048575 : Int32))) (FP.i2d ((p1 &&& (1048575 : Int32)) + (1 : Int32))) (FP.i2d (p2 &&& (16777215 : Int32))) h0 q.1) hZ (Wd5 hw) (Wd4 hw) (by decide) (by decide)) (g := (mkF m 296 #[.val (.int p0), .val (.int p1), .val (.int p2), .val (.int p3), .val (.int p4), .val (.int (p0 &&& (1048575 : Int32))), .val (.float (FP.i2f (p0 &&& (1048575 : Int32)))), .val (.double (FP.i2d ((p1 &&& (1048575 : Int32)) + (1 : Int32)))), .second, .val (.double (FP.i2d (p2 &&& (16777215 : Int32)))), .second, .val (.double (FP.i2d (p3 &&& (16777215 : Int32)))), .second, .val (.int (p4 &&& (7 : Int32))), .unset, .unset] [(.double (FP.i2d (p2 &&& (16777215 : Int32)))), (.double (FP.i2d ((p1 &&& (1048575 : Int32)) + (1 : Int32)))), (.float (FP.i2f (p0 &&& (1048575 : Int32))))])) rfl (by rw [hml]; rfl) (argsL := [(.float (FP.i2f (p0 &&& (1048575 : Int32)))), (.double (FP.i2d ((p1 &&& (1048575 : Int32)) + (1 : Int32)))), (.double (FP.i2d (p2 &&& (16777215 : Int32))))]) (rest := []) (lenOf pd0 rfl) rfl (by show 2 * 0 + _ ≤ _; exact Nat.le_of_eq rfl) (hb hby at_296) (fun _ _ => ⟨rfl, e0, (Nat.le_of_ble_eq_true rfl), (Nat.le_of_ble_eq_true rfl)⟩)
                dsimp only [Pt.U, Pt.locs, Pt.cells, Pt.slots] at X18 l18 y18 z18 st18 hQ18
                subst l18 y18 z18
                obtain ⟨rfl, rfl, e18⟩ := hQ18
                refine OD.go (B := (T18.setTop (mkF m 299 #[.val (.int p0), .val (.int p1), .val (.int p2), .val (.int p3), .val (.int p4), .val (.int (p0 &&& (1048575 : Int32))), .val (.float (FP.i2f (p0 &&& (1048575 : Int32)))), .val (.double (FP.i2d ((p1 &&& (1048575 : Int32)) + (1 : Int32)))), .second, .val (.double (FP.i2d (p2 &&& (16777215 : Int32)))), .second, .val (.double (FP.i2d (p3 &&& (16777215 : Int32)))), .second, .val (.int (p4 &&& (7 : Int32))), .unset, .unset] [(.float (own_sc (FP.i2f (p0 &&& (1048575 : Int32))) (FP.i2d ((p1 &&& (1048575 : Int32)) + (1 : Int32))) (FP.i2d (p2 &&& (16777215 : Int32)))))]))) st18 ?_
                refine OD.go (B := (T18.setTop (mkF m 301 #[.val (.int p0), .val (.int p1), .val (.int p2), .val (.int p3), .val (.int p4), .val (.int (p0 &&& (1048575 : Int32))), .val (.float (FP.i2f (p0 &&& (1048575 : Int32)))), .val (.double (FP.i2d ((p1 &&& (1048575 : Int32)) + (1 : Int32)))), .second, .val (.double (FP.i2d (p2 &&& (16777215 : Int32)))), .second, .val (.double (FP.i2d (p3 &&& (16777215 : Int32)))), .second, .val (.int (p4 &&& (7 : Int32))), .val (.float (own_sc (FP.i2f (p0 &&& (1048575 : Int32))) (FP.i2d ((p1 &&& (1048575 : Int32)) + (1 : Int32))) (FP.i2d (p2 &&& (16777215 : Int32))))), .unset] []))) (fun t k => XS.fstore X18.here hx rfl (hb hby at_299) rfl (l' := #[.val (.int p0), .val (.int p1), .val (.int p2), .val (.int p3), .val (.int p4), .val (.int (p0 &&& (1048575 : Int32))), .val (.float (FP.i2f (p0 &&& (1048575 : Int32)))), .val (.double (FP.i2d ((p1 &&& (1048575 : Int32)) + (1 : Int32)))), .second, .val (.double (FP.i2d (p2 &&& (16777215 : Int32)))), .second, .val (.double (FP.i2d (p3 &&& (16777215 : Int32)))), .second, .val (.int (p4 &&& (7 : Int32))), .val (.float (own_sc (FP.i2f (p0 &&& (1048575 : Int32))) (FP.i2d ((p1 &&& (1048575 : Int32)) + (1 : Int32))) (FP.i2d (p2 &&& (16777215 : Int32))))), .unset]) rfl k) ?_
                refine OD.go (B := (T18.setTop (mkF m 303 #[.val (.int p0), .val (.int p1), .val (.int p2), .val (.int p3), .val (.int p4), .val (.int (p0 &&& (1048575 : Int32))), .val (.float (FP.i2f (p0 &&& (1048575 : Int32)))), .val (.double (FP.i2d ((p1 &&& (1048575 : Int32)) + (1 : Int32)))), .second, .val (.double (FP.i2d (p2 &&& (16777215 : Int32)))), .second, .val (.double (FP.i2d (p3 &&& (16777215 : Int32)))), .second, .val (.int (p4 &&& (7 : Int32))), .val (.float (own_sc (FP.i2f (p0 &&& (1048575 : Int32))) (FP.i2d ((p1 &&& (1048575 : Int32)) + (1 : Int32))) (FP.i2d (p2 &&& (16777215 : Int32))))), .unset] [(.float (FP.i2f (p0 &&& (1048575 : Int32))))]))) (fun t k => XS.fload X18.here hx rfl (hb hby at_301) rfl k) ?_
                refine OD.go (B := (T18.setTop (mkF m 305 #[.val (.int p0), .val (.int p1), .val (.int p2), .val (.int p3), .val (.int p4), .val (.int (p0 &&& (1048575 : Int32))), .val (.float (FP.i2f (p0 &&& (1048575 : Int32)))), .val (.double (FP.i2d ((p1 &&& (1048575 : Int32)) + (1 : Int32)))), .second, .val (.double (FP.i2d (p2 &&& (16777215 : Int32)))), .second, .val (.double (FP.i2d (p3 &&& (16777215 : Int32)))), .second, .val (.int (p4 &&& (7 : Int32))), .val (.float (own_sc (FP.i2f (p0 &&& (1048575 : Int32))) (FP.i2d ((p1 &&& (1048575 : Int32)) + (1 : Int32))) (FP.i2d (p2 &&& (16777215 : Int32))))), .unset] [(.double (FP.i2d ((p1 &&& (1048575 : Int32)) + (1 : Int32)))), (.float (FP.i2f (p0 &&& (1048575 : Int32))))]))) (fun t k => XS.dload X18.here hx rfl (hb hby at_303) rfl k) ?_
                refine OD.go (B := (T18.setTop (mkF m 307 #[.val (.int p0), .val (.int p1), .val (.int p2), .val (.int p3), .val (.int p4), .val (.int (p0 &&& (1048575 : Int32))), .val (.float (FP.i2f (p0 &&& (1048575 : Int32)))), .val (.double (FP.i2d ((p1 &&& (1048575 : Int32)) + (1 : Int32)))), .second, .val (.double (FP.i2d (p2 &&& (16777215 : Int32)))), .second, .val (.double (FP.i2d (p3 &&& (16777215 : Int32)))), .second, .val (.int (p4 &&& (7 : Int32))), .val (.float (own_sc (FP.i2f (p0 &&& (1048575 : Int32))) (FP.i2d ((p1 &&& (1048575 : Int32)) + (1 : Int32))) (FP.i2d (p2 &&& (16777215 : Int32))))), .unset] [(.double (FP.i2d (p3 &&& (16777215 : Int32)))), (.double (FP.i2d ((p1 &&& (1048575 : Int32)) + (1 : Int32)))), (.float (FP.i2f (p0 &&& (1048575 : Int32))))]))) (fun t k => XS.dload X18.here hx rfl (hb hby at_305) rfl k) ?_
                refine OD.go (B := (T18.setTop (mkF m 308 #[.val (.int p0), .val (.int p1), .val (.int p2), .val (.int p3), .val (.int p4), .val (.int (p0 &&& (1048575 : Int32))), .val (.float (FP.i2f (p0 &&& (1048575 : Int32)))), .val (.double (FP.i2d ((p1 &&& (1048575 : Int32)) + (1 : Int32)))), .second, .val (.double (FP.i2d (p2 &&& (16777215 : Int32)))), .second, .val (.double (FP.i2d (p3 &&& (16777215 : Int32)))), .second, .val (.int (p4 &&& (7 : Int32))), .val (.float (own_sc (FP.i2f (p0 &&& (1048575 : Int32))) (FP.i2d ((p1 &&& (1048575 : Int32)) + (1 : Int32))) (FP.i2d (p2 &&& (16777215 : Int32))))), .unset] [(.double (FP.dadd (FP.i2d ((p1 &&& (1048575 : Int32)) + (1 : Int32))) (FP.i2d (p3 &&& (16777215 : Int32))))), (.float (FP.i2f (p0 &&& (1048575 : Int32))))]))) (fun t k => XS.daddS X18.here hx rfl (hb hby at_307) rfl q.2.1 (v := (FP.dadd (FP.i2d ((p1 &&& (1048575 : Int32)) + (1 : Int32))) (FP.i2d (p3 &&& (16777215 : Int32))))) rfl k) ?_
                refine OD.go (B := (T18.setTop (mkF m 310 #[.val (.int p0), .val (.int p1), .val (.int p2), .val (.int p3), .val (.int p4), .val (.int (p0 &&& (1048575 : Int32))), .val (.float (FP.i2f (p0 &&& (1048575 : Int32)))), .val (.double (FP.i2d ((p1 &&& (1048575 : Int32)) + (1 : Int32)))), .second, .val (.double (FP.i2d (p2 &&& (16777215 : Int32)))), .second, .val (.double (FP.i2d (p3 &&& (16777215 : Int32)))), .second, .val (.int (p4 &&& (7 : Int32))), .val (.float (own_sc (FP.i2f (p0 &&& (1048575 : Int32))) (FP.i2d ((p1 &&& (1048575 : Int32)) + (1 : Int32))) (FP.i2d (p2 &&& (16777215 : Int32))))), .unset] [(.double (FP.i2d (p2 &&& (16777215 : Int32)))), (.double (FP.dadd (FP.i2d ((p1 &&& (1048575 : Int32)) + (1 : Int32))) (FP.i2d (p3 &&& (16777215 : Int32))))), (.float (FP.i2f (p0 &&& (1048575 : Int32))))]))) (fun t k => XS.dload X18.here hx rfl (hb hby at_308) rfl k) ?_
                obtain ⟨_, _, ⟨T19, L19, k19, n19⟩, -, X19, ⟨Lc19, hQ19, l19, y19, z19⟩, st19⟩ := Jvm.LawKit.callS X18 hx (y := (⟨"com/example/tight_pivot/tightpivot/ProximityScore", "score", "(FDD)F"⟩ : MethodName)) hown (mvT hZ (Wd2 hw)) (mvT hZ (Wd3 hw)) (mvT hZ (Wd4 hw)) (mvT hZ (Wd5 hw)) (by decide) (backOf (W := 0) (rmS l Z a0 hw [] (FP.i2f (p0 &&& (1048575 : Int32))) (FP.dadd (FP.i2d ((p1 &&& (1048575 : Int32)) + (1 : Int32))) (FP.i2d (p3 &&& (16777215 : Int32)))) (FP.i2d (p2 &&& (16777215 : Int32))) h0 q.2.2.1) hZ (Wd5 hw) (Wd4 hw) (by decide) (by decide)) (g := (mkF m 310 #[.val (.int p0), .val (.int p1), .val (.int p2), .val (.int p3), .val (.int p4), .val (.int (p0 &&& (1048575 : Int32))), .val (.float (FP.i2f (p0 &&& (1048575 : Int32)))), .val (.double (FP.i2d ((p1 &&& (1048575 : Int32)) + (1 : Int32)))), .second, .val (.double (FP.i2d (p2 &&& (16777215 : Int32)))), .second, .val (.double (FP.i2d (p3 &&& (16777215 : Int32)))), .second, .val (.int (p4 &&& (7 : Int32))), .val (.float (own_sc (FP.i2f (p0 &&& (1048575 : Int32))) (FP.i2d ((p1 &&& (1048575 : Int32)) + (1 : Int32))) (FP.i2d (p2 &&& (16777215 : Int32))))), .unset] [(.double (FP.i2d (p2 &&& (16777215 : Int32)))), (.double (FP.dadd (FP.i2d ((p1 &&& (1048575 : Int32)) + (1 : Int32))) (FP.i2d (p3 &&& (16777215 : Int32))))), (.float (FP.i2f (p0 &&& (1048575 : Int32))))])) rfl (by rw [hml]; rfl) (argsL := [(.float (FP.i2f (p0 &&& (1048575 : Int32)))), (.double (FP.dadd (FP.i2d ((p1 &&& (1048575 : Int32)) + (1 : Int32))) (FP.i2d (p3 &&& (16777215 : Int32))))), (.double (FP.i2d (p2 &&& (16777215 : Int32))))]) (rest := []) (lenOf pd0 rfl) rfl (by show 2 * 0 + _ ≤ _; exact Nat.le_of_eq rfl) (hb hby at_310) (fun _ _ => ⟨rfl, e18, (Nat.le_of_ble_eq_true rfl), (Nat.le_of_ble_eq_true rfl)⟩)
                dsimp only [Pt.U, Pt.locs, Pt.cells, Pt.slots] at X19 l19 y19 z19 st19 hQ19
                subst l19 y19 z19
                obtain ⟨rfl, rfl, e19⟩ := hQ19
                refine OD.go (B := (T19.setTop (mkF m 313 #[.val (.int p0), .val (.int p1), .val (.int p2), .val (.int p3), .val (.int p4), .val (.int (p0 &&& (1048575 : Int32))), .val (.float (FP.i2f (p0 &&& (1048575 : Int32)))), .val (.double (FP.i2d ((p1 &&& (1048575 : Int32)) + (1 : Int32)))), .second, .val (.double (FP.i2d (p2 &&& (16777215 : Int32)))), .second, .val (.double (FP.i2d (p3 &&& (16777215 : Int32)))), .second, .val (.int (p4 &&& (7 : Int32))), .val (.float (own_sc (FP.i2f (p0 &&& (1048575 : Int32))) (FP.i2d ((p1 &&& (1048575 : Int32)) + (1 : Int32))) (FP.i2d (p2 &&& (16777215 : Int32))))), .unset] [(.float (own_sc (FP.i2f (p0 &&& (1048575 : Int32))) (FP.dadd (FP.i2d ((p1 &&& (1048575 : Int32)) + (1 : Int32))) (FP.i2d (p3 &&& (16777215 : Int32)))) (FP.i2d (p2 &&& (16777215 : Int32)))))]))) st19 ?_
                refine OD.go (B := (T19.setTop (mkF m 315 #[.val (.int p0), .val (.int p1), .val (.int p2), .val (.int p3), .val (.int p4), .val (.int (p0 &&& (1048575 : Int32))), .val (.float (FP.i2f (p0 &&& (1048575 : Int32)))), .val (.double (FP.i2d ((p1 &&& (1048575 : Int32)) + (1 : Int32)))), .second, .val (.double (FP.i2d (p2 &&& (16777215 : Int32)))), .second, .val (.double (FP.i2d (p3 &&& (16777215 : Int32)))), .second, .val (.int (p4 &&& (7 : Int32))), .val (.float (own_sc (FP.i2f (p0 &&& (1048575 : Int32))) (FP.i2d ((p1 &&& (1048575 : Int32)) + (1 : Int32))) (FP.i2d (p2 &&& (16777215 : Int32))))), .val (.float (own_sc (FP.i2f (p0 &&& (1048575 : Int32))) (FP.dadd (FP.i2d ((p1 &&& (1048575 : Int32)) + (1 : Int32))) (FP.i2d (p3 &&& (16777215 : Int32)))) (FP.i2d (p2 &&& (16777215 : Int32)))))] []))) (fun t k => XS.fstore X19.here hx rfl (hb hby at_313) rfl (l' := #[.val (.int p0), .val (.int p1), .val (.int p2), .val (.int p3), .val (.int p4), .val (.int (p0 &&& (1048575 : Int32))), .val (.float (FP.i2f (p0 &&& (1048575 : Int32)))), .val (.double (FP.i2d ((p1 &&& (1048575 : Int32)) + (1 : Int32)))), .second, .val (.double (FP.i2d (p2 &&& (16777215 : Int32)))), .second, .val (.double (FP.i2d (p3 &&& (16777215 : Int32)))), .second, .val (.int (p4 &&& (7 : Int32))), .val (.float (own_sc (FP.i2f (p0 &&& (1048575 : Int32))) (FP.i2d ((p1 &&& (1048575 : Int32)) + (1 : Int32))) (FP.i2d (p2 &&& (16777215 : Int32))))), .val (.float (own_sc (FP.i2f (p0 &&& (1048575 : Int32))) (FP.dadd (FP.i2d ((p1 &&& (1048575 : Int32)) + (1 : Int32))) (FP.i2d (p3 &&& (16777215 : Int32)))) (FP.i2d (p2 &&& (16777215 : Int32)))))]) rfl k) ?_
                refine OD.go (B := (T19.setTop (mkF m 316 #[.val (.int p0), .val (.int p1), .val (.int p2), .val (.int p3), .val (.int p4), .val (.int (p0 &&& (1048575 : Int32))), .val (.float (FP.i2f (p0 &&& (1048575 : Int32)))), .val (.double (FP.i2d ((p1 &&& (1048575 : Int32)) + (1 : Int32)))), .second, .val (.double (FP.i2d (p2 &&& (16777215 : Int32)))), .second, .val (.double (FP.i2d (p3 &&& (16777215 : Int32)))), .second, .val (.int (p4 &&& (7 : Int32))), .val (.float (own_sc (FP.i2f (p0 &&& (1048575 : Int32))) (FP.i2d ((p1 &&& (1048575 : Int32)) + (1 : Int32))) (FP.i2d (p2 &&& (16777215 : Int32))))), .val (.float (own_sc (FP.i2f (p0 &&& (1048575 : Int32))) (FP.dadd (FP.i2d ((p1 &&& (1048575 : Int32)) + (1 : Int32))) (FP.i2d (p3 &&& (16777215 : Int32)))) (FP.i2d (p2 &&& (16777215 : Int32)))))] [(.float FP.fconst0)]))) (fun t k => XS.fconst0 X19.here hx rfl (hb hby at_315) (v := FP.fconst0) rfl k) ?_
                refine OD.go (B := (T19.setTop (mkF m 318 #[.val (.int p0), .val (.int p1), .val (.int p2), .val (.int p3), .val (.int p4), .val (.int (p0 &&& (1048575 : Int32))), .val (.float (FP.i2f (p0 &&& (1048575 : Int32)))), .val (.double (FP.i2d ((p1 &&& (1048575 : Int32)) + (1 : Int32)))), .second, .val (.double (FP.i2d (p2 &&& (16777215 : Int32)))), .second, .val (.double (FP.i2d (p3 &&& (16777215 : Int32)))), .second, .val (.int (p4 &&& (7 : Int32))), .val (.float (own_sc (FP.i2f (p0 &&& (1048575 : Int32))) (FP.i2d ((p1 &&& (1048575 : Int32)) + (1 : Int32))) (FP.i2d (p2 &&& (16777215 : Int32))))), .val (.float (own_sc (FP.i2f (p0 &&& (1048575 : Int32))) (FP.dadd (FP.i2d ((p1 &&& (1048575 : Int32)) + (1 : Int32))) (FP.i2d (p3 &&& (16777215 : Int32)))) (FP.i2d (p2 &&& (16777215 : Int32)))))] [(.float (own_sc (FP.i2f (p0 &&& (1048575 : Int32))) (FP.i2d ((p1 &&& (1048575 : Int32)) + (1 : Int32))) (FP.i2d (p2 &&& (16777215 : Int32))))), (.float FP.fconst0)]))) (fun t k => XS.fload X19.here hx rfl (hb hby at_316) rfl k) ?_
                refine OD.go (B := (T19.setTop (mkF m 319 #[.val (.int p0), .val (.int p1), .val (.int p2), .val (.int p3), .val (.int p4), .val (.int (p0 &&& (1048575 : Int32))), .val (.float (FP.i2f (p0 &&& (1048575 : Int32)))), .val (.double (FP.i2d ((p1 &&& (1048575 : Int32)) + (1 : Int32)))), .second, .val (.double (FP.i2d (p2 &&& (16777215 : Int32)))), .second, .val (.double (FP.i2d (p3 &&& (16777215 : Int32)))), .second, .val (.int (p4 &&& (7 : Int32))), .val (.float (own_sc (FP.i2f (p0 &&& (1048575 : Int32))) (FP.i2d ((p1 &&& (1048575 : Int32)) + (1 : Int32))) (FP.i2d (p2 &&& (16777215 : Int32))))), .val (.float (own_sc (FP.i2f (p0 &&& (1048575 : Int32))) (FP.dadd (FP.i2d ((p1 &&& (1048575 : Int32)) + (1 : Int32))) (FP.i2d (p3 &&& (16777215 : Int32)))) (FP.i2d (p2 &&& (16777215 : Int32)))))] [(.int (cmpValue (FP.fcmp FP.fconst0 (own_sc (FP.i2f (p0 &&& (1048575 : Int32))) (FP.i2d ((p1 &&& (1048575 : Int32)) + (1 : Int32))) (FP.i2d (p2 &&& (16777215 : Int32))))) .g))]))) (fun t k => XS.fcmpS X19.here hx rfl (hb hby at_318) rfl (v := (cmpValue (FP.fcmp FP.fconst0 (own_sc (FP.i2f (p0 &&& (1048575 : Int32))) (FP.i2d ((p1 &&& (1048575 : Int32)) + (1 : Int32))) (FP.i2d (p2 &&& (16777215 : Int32))))) .g)) rfl k) ?_
                refine OD.go (B := (T19.setTop (mkF m 322 #[.val (.int p0), .val (.int p1), .val (.int p2), .val (.int p3), .val (.int p4), .val (.int (p0 &&& (1048575 : Int32))), .val (.float (FP.i2f (p0 &&& (1048575 : Int32)))), .val (.double (FP.i2d ((p1 &&& (1048575 : Int32)) + (1 : Int32)))), .second, .val (.double (FP.i2d (p2 &&& (16777215 : Int32)))), .second, .val (.double (FP.i2d (p3 &&& (16777215 : Int32)))), .second, .val (.int (p4 &&& (7 : Int32))), .val (.float (own_sc (FP.i2f (p0 &&& (1048575 : Int32))) (FP.i2d ((p1 &&& (1048575 : Int32)) + (1 : Int32))) (FP.i2d (p2 &&& (16777215 : Int32))))), .val (.float (own_sc (FP.i2f (p0 &&& (1048575 : Int32))) (FP.dadd (FP.i2d ((p1 &&& (1048575 : Int32)) + (1 : Int32))) (FP.i2d (p3 &&& (16777215 : Int32)))) (FP.i2d (p2 &&& (16777215 : Int32)))))] []))) (fun t k => XS.ifNo X19.here hx rfl (hb hby at_319) rfl (by rw [if0]; exact (flt q.2.2.2.1).2.2.1) k) ?_
                refine OD.go (B := (T19.setTop (mkF m 324 #[.val (.int p0), .val (.int p1), .val (.int p2), .val (.int p3), .val (.int p4), .val (.int (p0 &&& (1048575 : Int32))), .val (.float (FP.i2f (p0 &&& (1048575 : Int32)))), .val (.double (FP.i2d ((p1 &&& (1048575 : Int32)) + (1 : Int32)))), .second, .val (.double (FP.i2d (p2 &&& (16777215 : Int32)))), .second, .val (.double (FP.i2d (p3 &&& (16777215 : Int32)))), .second, .val (.int (p4 &&& (7 : Int32))), .val (.float (own_sc (FP.i2f (p0 &&& (1048575 : Int32))) (FP.i2d ((p1 &&& (1048575 : Int32)) + (1 : Int32))) (FP.i2d (p2 &&& (16777215 : Int32))))), .val (.float (own_sc (FP.i2f (p0 &&& (1048575 : Int32))) (FP.dadd (FP.i2d ((p1 &&& (1048575 : Int32)) + (1 : Int32))) (FP.i2d (p3 &&& (16777215 : Int32)))) (FP.i2d (p2 &&& (16777215 : Int32)))))] [(.float (own_sc (FP.i2f (p0 &&& (1048575 : Int32))) (FP.i2d ((p1 &&& (1048575 : Int32)) + (1 : Int32))) (FP.i2d (p2 &&& (16777215 : Int32)))))]))) (fun t k => XS.fload X19.here hx rfl (hb hby at_322) rfl k) ?_
                refine OD.go (B := (T19.setTop (mkF m 326 #[.val (.int p0), .val (.int p1), .val (.int p2), .val (.int p3), .val (.int p4), .val (.int (p0 &&& (1048575 : Int32))), .val (.float (FP.i2f (p0 &&& (1048575 : Int32)))), .val (.double (FP.i2d ((p1 &&& (1048575 : Int32)) + (1 : Int32)))), .second, .val (.double (FP.i2d (p2 &&& (16777215 : Int32)))), .second, .val (.double (FP.i2d (p3 &&& (16777215 : Int32)))), .second, .val (.int (p4 &&& (7 : Int32))), .val (.float (own_sc (FP.i2f (p0 &&& (1048575 : Int32))) (FP.i2d ((p1 &&& (1048575 : Int32)) + (1 : Int32))) (FP.i2d (p2 &&& (16777215 : Int32))))), .val (.float (own_sc (FP.i2f (p0 &&& (1048575 : Int32))) (FP.dadd (FP.i2d ((p1 &&& (1048575 : Int32)) + (1 : Int32))) (FP.i2d (p3 &&& (16777215 : Int32)))) (FP.i2d (p2 &&& (16777215 : Int32)))))] [(.float (own_sc (FP.i2f (p0 &&& (1048575 : Int32))) (FP.dadd (FP.i2d ((p1 &&& (1048575 : Int32)) + (1 : Int32))) (FP.i2d (p3 &&& (16777215 : Int32)))) (FP.i2d (p2 &&& (16777215 : Int32))))), (.float (own_sc (FP.i2f (p0 &&& (1048575 : Int32))) (FP.i2d ((p1 &&& (1048575 : Int32)) + (1 : Int32))) (FP.i2d (p2 &&& (16777215 : Int32)))))]))) (fun t k => XS.fload X19.here hx rfl (hb hby at_324) rfl k) ?_
                refine OD.go (B := (T19.setTop (mkF m 327 #[.val (.int p0), .val (.int p1), .val (.int p2), .val (.int p3), .val (.int p4), .val (.int (p0 &&& (1048575 : Int32))), .val (.float (FP.i2f (p0 &&& (1048575 : Int32)))), .val (.double (FP.i2d ((p1 &&& (1048575 : Int32)) + (1 : Int32)))), .second, .val (.double (FP.i2d (p2 &&& (16777215 : Int32)))), .second, .val (.double (FP.i2d (p3 &&& (16777215 : Int32)))), .second, .val (.int (p4 &&& (7 : Int32))), .val (.float (own_sc (FP.i2f (p0 &&& (1048575 : Int32))) (FP.i2d ((p1 &&& (1048575 : Int32)) + (1 : Int32))) (FP.i2d (p2 &&& (16777215 : Int32))))), .val (.float (own_sc (FP.i2f (p0 &&& (1048575 : Int32))) (FP.dadd (FP.i2d ((p1 &&& (1048575 : Int32)) + (1 : Int32))) (FP.i2d (p3 &&& (16777215 : Int32)))) (FP.i2d (p2 &&& (16777215 : Int32)))))] [(.int (cmpValue (FP.fcmp (own_sc (FP.i2f (p0 &&& (1048575 : Int32))) (FP.i2d ((p1 &&& (1048575 : Int32)) + (1 : Int32))) (FP.i2d (p2 &&& (16777215 : Int32)))) (own_sc (FP.i2f (p0 &&& (1048575 : Int32))) (FP.dadd (FP.i2d ((p1 &&& (1048575 : Int32)) + (1 : Int32))) (FP.i2d (p3 &&& (16777215 : Int32)))) (FP.i2d (p2 &&& (16777215 : Int32))))) .g))]))) (fun t k => XS.fcmpS X19.here hx rfl (hb hby at_326) rfl (v := (cmpValue (FP.fcmp (own_sc (FP.i2f (p0 &&& (1048575 : Int32))) (FP.i2d ((p1 &&& (1048575 : Int32)) + (1 : Int32))) (FP.i2d (p2 &&& (16777215 : Int32)))) (own_sc (FP.i2f (p0 &&& (1048575 : Int32))) (FP.dadd (FP.i2d ((p1 &&& (1048575 : Int32)) + (1 : Int32))) (FP.i2d (p3 &&& (16777215 : Int32)))) (FP.i2d (p2 &&& (16777215 : Int32))))) .g)) rfl k) ?_
                refine OD.go (B := (T19.setTop (mkF m 330 #[.val (.int p0), .val (.int p1), .val (.int p2), .val (.int p3), .val (.int p4), .val (.int (p0 &&& (1048575 : Int32))), .val (.float (FP.i2f (p0 &&& (1048575 : Int32)))), .val (.double (FP.i2d ((p1 &&& (1048575 : Int32)) + (1 : Int32)))), .second, .val (.double (FP.i2d (p2 &&& (16777215 : Int32)))), .second, .val (.double (FP.i2d (p3 &&& (16777215 : Int32)))), .second, .val (.int (p4 &&& (7 : Int32))), .val (.float (own_sc (FP.i2f (p0 &&& (1048575 : Int32))) (FP.i2d ((p1 &&& (1048575 : Int32)) + (1 : Int32))) (FP.i2d (p2 &&& (16777215 : Int32))))), .val (.float (own_sc (FP.i2f (p0 &&& (1048575 : Int32))) (FP.dadd (FP.i2d ((p1 &&& (1048575 : Int32)) + (1 : Int32))) (FP.i2d (p3 &&& (16777215 : Int32)))) (FP.i2d (p2 &&& (16777215 : Int32)))))] []))) (fun t k => XS.ifNo X19.here hx rfl (hb hby at_327) rfl (by rw [if0]; exact (flt q.2.2.2.2.1).2.2.1) k) ?_
                refine OD.go (B := (T19.setTop (mkF m 332 #[.val (.int p0), .val (.int p1), .val (.int p2), .val (.int p3), .val (.int p4), .val (.int (p0 &&& (1048575 : Int32))), .val (.float (FP.i2f (p0 &&& (1048575 : Int32)))), .val (.double (FP.i2d ((p1 &&& (1048575 : Int32)) + (1 : Int32)))), .second, .val (.double (FP.i2d (p2 &&& (16777215 : Int32)))), .second, .val (.double (FP.i2d (p3 &&& (16777215 : Int32)))), .second, .val (.int (p4 &&& (7 : Int32))), .val (.float (own_sc (FP.i2f (p0 &&& (1048575 : Int32))) (FP.i2d ((p1 &&& (1048575 : Int32)) + (1 : Int32))) (FP.i2d (p2 &&& (16777215 : Int32))))), .val (.float (own_sc (FP.i2f (p0 &&& (1048575 : Int32))) (FP.dadd (FP.i2d ((p1 &&& (1048575 : Int32)) + (1 : Int32))) (FP.i2d (p3 &&& (16777215 : Int32)))) (FP.i2d (p2 &&& (16777215 : Int32)))))] [(.float (own_sc (FP.i2f (p0 &&& (1048575 : Int32))) (FP.dadd (FP.i2d ((p1 &&& (1048575 : Int32)) + (1 : Int32))) (FP.i2d (p3 &&& (16777215 : Int32)))) (FP.i2d (p2 &&& (16777215 : Int32)))))]))) (fun t k => XS.fload X19.here hx rfl (hb hby at_330) rfl k) ?_
                refine OD.go (B := (T19.setTop (mkF m 334 #[.val (.int p0), .val (.int p1), .val (.int p2), .val (.int p3), .val (.int p4), .val (.int (p0 &&& (1048575 : Int32))), .val (.float (FP.i2f (p0 &&& (1048575 : Int32)))), .val (.double (FP.i2d ((p1 &&& (1048575 : Int32)) + (1 : Int32)))), .second, .val (.double (FP.i2d (p2 &&& (16777215 : Int32)))), .second, .val (.double (FP.i2d (p3 &&& (16777215 : Int32)))), .second, .val (.int (p4 &&& (7 : Int32))), .val (.float (own_sc (FP.i2f (p0 &&& (1048575 : Int32))) (FP.i2d ((p1 &&& (1048575 : Int32)) + (1 : Int32))) (FP.i2d (p2 &&& (16777215 : Int32))))), .val (.float (own_sc (FP.i2f (p0 &&& (1048575 : Int32))) (FP.dadd (FP.i2d ((p1 &&& (1048575 : Int32)) + (1 : Int32))) (FP.i2d (p3 &&& (16777215 : Int32)))) (FP.i2d (p2 &&& (16777215 : Int32)))))] [(.float (FP.i2f (p0 &&& (1048575 : Int32)))), (.float (own_sc (FP.i2f (p0 &&& (1048575 : Int32))) (FP.dadd (FP.i2d ((p1 &&& (1048575 : Int32)) + (1 : Int32))) (FP.i2d (p3 &&& (16777215 : Int32)))) (FP.i2d (p2 &&& (16777215 : Int32)))))]))) (fun t k => XS.fload X19.here hx rfl (hb hby at_332) rfl k) ?_
                refine OD.go (B := (T19.setTop (mkF m 335 #[.val (.int p0), .val (.int p1), .val (.int p2), .val (.int p3), .val (.int p4), .val (.int (p0 &&& (1048575 : Int32))), .val (.float (FP.i2f (p0 &&& (1048575 : Int32)))), .val (.double (FP.i2d ((p1 &&& (1048575 : Int32)) + (1 : Int32)))), .second, .val (.double (FP.i2d (p2 &&& (16777215 : Int32)))), .second, .val (.double (FP.i2d (p3 &&& (16777215 : Int32)))), .second, .val (.int (p4 &&& (7 : Int32))), .val (.float (own_sc (FP.i2f (p0 &&& (1048575 : Int32))) (FP.i2d ((p1 &&& (1048575 : Int32)) + (1 : Int32))) (FP.i2d (p2 &&& (16777215 : Int32))))), .val (.float (own_sc (FP.i2f (p0 &&& (1048575 : Int32))) (FP.dadd (FP.i2d ((p1 &&& (1048575 : Int32)) + (1 : Int32))) (FP.i2d (p3 &&& (16777215 : Int32)))) (FP.i2d (p2 &&& (16777215 : Int32)))))] [(.int (cmpValue (FP.fcmp (own_sc (FP.i2f (p0 &&& (1048575 : Int32))) (FP.dadd (FP.i2d ((p1 &&& (1048575 : Int32)) + (1 : Int32))) (FP.i2d (p3 &&& (16777215 : Int32)))) (FP.i2d (p2 &&& (16777215 : Int32)))) (FP.i2f (p0 &&& (1048575 : Int32)))) .g))]))) (fun t k => XS.fcmpS X19.here hx rfl (hb hby at_334) rfl (v := (cmpValue (FP.fcmp (own_sc (FP.i2f (p0 &&& (1048575 : Int32))) (FP.dadd (FP.i2d ((p1 &&& (1048575 : Int32)) + (1 : Int32))) (FP.i2d (p3 &&& (16777215 : Int32)))) (FP.i2d (p2 &&& (16777215 : Int32)))) (FP.i2f (p0 &&& (1048575 : Int32)))) .g)) rfl k) ?_
                refine OD.go (B := (T19.setTop (mkF m 338 #[.val (.int p0), .val (.int p1), .val (.int p2), .val (.int p3), .val (.int p4), .val (.int (p0 &&& (1048575 : Int32))), .val (.float (FP.i2f (p0 &&& (1048575 : Int32)))), .val (.double (FP.i2d ((p1 &&& (1048575 : Int32)) + (1 : Int32)))), .second, .val (.double (FP.i2d (p2 &&& (16777215 : Int32)))), .second, .val (.double (FP.i2d (p3 &&& (16777215 : Int32)))), .second, .val (.int (p4 &&& (7 : Int32))), .val (.float (own_sc (FP.i2f (p0 &&& (1048575 : Int32))) (FP.i2d ((p1 &&& (1048575 : Int32)) + (1 : Int32))) (FP.i2d (p2 &&& (16777215 : Int32))))), .val (.float (own_sc (FP.i2f (p0 &&& (1048575 : Int32))) (FP.dadd (FP.i2d ((p1 &&& (1048575 : Int32)) + (1 : Int32))) (FP.i2d (p3 &&& (16777215 : Int32)))) (FP.i2d (p2 &&& (16777215 : Int32)))))] []))) (fun t k => XS.ifNo X19.here hx rfl (hb hby at_335) rfl (by rw [if0]; exact (flt q.2.2.2.2.2).2.2.1) k) ?_
                refine OD.go (B := (T19.setTop (mkF m 339 #[.val (.int p0), .val (.int p1), .val (.int p2), .val (.int p3), .val (.int p4), .val (.int (p0 &&& (1048575 : Int32))), .val (.float (FP.i2f (p0 &&& (1048575 : Int32)))), .val (.double (FP.i2d ((p1 &&& (1048575 : Int32)) + (1 : Int32)))), .second, .val (.double (FP.i2d (p2 &&& (16777215 : Int32)))), .second, .val (.double (FP.i2d (p3 &&& (16777215 : Int32)))), .second, .val (.int (p4 &&& (7 : Int32))), .val (.float (own_sc (FP.i2f (p0 &&& (1048575 : Int32))) (FP.i2d ((p1 &&& (1048575 : Int32)) + (1 : Int32))) (FP.i2d (p2 &&& (16777215 : Int32))))), .val (.float (own_sc (FP.i2f (p0 &&& (1048575 : Int32))) (FP.dadd (FP.i2d ((p1 &&& (1048575 : Int32)) + (1 : Int32))) (FP.i2d (p3 &&& (16777215 : Int32)))) (FP.i2d (p2 &&& (16777215 : Int32)))))] [(.int (1 : Int32))]))) (fun t k => XS.iconst X19.here hx rfl (hb hby at_338) k) ?_
                refine OD.go (B := (T19.setTop (mkF m 343 #[.val (.int p0), .val (.int p1), .val (.int p2), .val (.int p3), .val (.int p4), .val (.int (p0 &&& (1048575 : Int32))), .val (.float (FP.i2f (p0 &&& (1048575 : Int32)))), .val (.double (FP.i2d ((p1 &&& (1048575 : Int32)) + (1 : Int32)))), .second, .val (.double (FP.i2d (p2 &&& (16777215 : Int32)))), .second, .val (.double (FP.i2d (p3 &&& (16777215 : Int32)))), .second, .val (.int (p4 &&& (7 : Int32))), .val (.float (own_sc (FP.i2f (p0 &&& (1048575 : Int32))) (FP.i2d ((p1 &&& (1048575 : Int32)) + (1 : Int32))) (FP.i2d (p2 &&& (16777215 : Int32))))), .val (.float (own_sc (FP.i2f (p0 &&& (1048575 : Int32))) (FP.dadd (FP.i2d ((p1 &&& (1048575 : Int32)) + (1 : Int32))) (FP.i2d (p3 &&& (16777215 : Int32)))) (FP.i2d (p2 &&& (16777215 : Int32)))))] [(.int (1 : Int32))]))) (fun t k => XS.goto X19.here hx rfl (pc0 := 339) (pc' := 343) rfl (hb hby at_339) (by decide) (by decide) k) ?_
                exact OD.ret X19 hx hlk (t := .boolean) Bd.returns rfl (Or.inl ⟨rfl, Or.inr (Or.inl rfl), _, rfl⟩) (hb hby at_343) (Nat.le_of_ble_eq_true rfl) (Nat.le_of_ble_eq_true rfl) ⟨rfl, Fr.nil _⟩
              · refine OD.go (B := (s₁.setTop (mkF m 344 #[.val (.int p0), .val (.int p1), .val (.int p2), .val (.int p3), .val (.int p4), .val (.int (p0 &&& (1048575 : Int32))), .val (.float (FP.i2f (p0 &&& (1048575 : Int32)))), .val (.double (FP.i2d ((p1 &&& (1048575 : Int32)) + (1 : Int32)))), .second, .val (.double (FP.i2d (p2 &&& (16777215 : Int32)))), .second, .val (.double (FP.i2d (p3 &&& (16777215 : Int32)))), .second, .val (.int (p4 &&& (7 : Int32))), .unset, .unset] []))) (fun t k => XS.icmpYes X0.here hx rfl (pc0 := 287) (pc' := 344) rfl (hb hby at_287) rfl (feq c287_17).2 (by decide) (by decide) k) ?_
                have q := own_m7 hvB hB hvP hP0 hP hvD hD
                refine OD.go (B := (s₁.setTop (mkF m 346 #[.val (.int p0), .val (.int p1), .val (.int p2), .val (.int p3), .val (.int p4), .val (.int (p0 &&& (1048575 : Int32))), .val (.float (FP.i2f (p0 &&& (1048575 : Int32)))), .val (.double (FP.i2d ((p1 &&& (1048575 : Int32)) + (1 : Int32)))), .second, .val (.double (FP.i2d (p2 &&& (16777215 : Int32)))), .second, .val (.double (FP.i2d (p3 &&& (16777215 : Int32)))), .second, .val (.int (p4 &&& (7 : Int32))), .unset, .unset] [(.float (FP.i2f (p0 &&& (1048575 : Int32))))]))) (fun t k => XS.fload X0.here hx rfl (hb hby at_344) rfl k) ?_
                refine OD.go (B := (s₁.setTop (mkF m 348 #[.val (.int p0), .val (.int p1), .val (.int p2), .val (.int p3), .val (.int p4), .val (.int (p0 &&& (1048575 : Int32))), .val (.float (FP.i2f (p0 &&& (1048575 : Int32)))), .val (.double (FP.i2d ((p1 &&& (1048575 : Int32)) + (1 : Int32)))), .second, .val (.double (FP.i2d (p2 &&& (16777215 : Int32)))), .second, .val (.double (FP.i2d (p3 &&& (16777215 : Int32)))), .second, .val (.int (p4 &&& (7 : Int32))), .unset, .unset] [(.double (FP.i2d ((p1 &&& (1048575 : Int32)) + (1 : Int32)))), (.float (FP.i2f (p0 &&& (1048575 : Int32))))]))) (fun t k => XS.dload X0.here hx rfl (hb hby at_346) rfl k) ?_
                refine OD.go (B := (s₁.setTop (mkF m 350 #[.val (.int p0), .val (.int p1), .val (.int p2), .val (.int p3), .val (.int p4), .val (.int (p0 &&& (1048575 : Int32))), .val (.float (FP.i2f (p0 &&& (1048575 : Int32)))), .val (.double (FP.i2d ((p1 &&& (1048575 : Int32)) + (1 : Int32)))), .second, .val (.double (FP.i2d (p2 &&& (16777215 : Int32)))), .second, .val (.double (FP.i2d (p3 &&& (16777215 : Int32)))), .second, .val (.int (p4 &&& (7 : Int32))), .unset, .unset] [(.double (FP.i2d (p2 &&& (16777215 : Int32)))), (.double (FP.i2d ((p1 &&& (1048575 : Int32)) + (1 : Int32)))), (.float (FP.i2f (p0 &&& (1048575 : Int32))))]))) (fun t k => XS.dload X0.here hx rfl (hb hby at_348) rfl k) ?_
                obtain ⟨_, _, ⟨T20, L20, k20, n20⟩, -, X20, ⟨Lc20, hQ20, l20, y20, z20⟩, st20⟩ := Jvm.LawKit.callS X0 hx (y := (⟨"com/example/tight_pivot/tightpivot/ProximityScore", "score", "(FDD)F"⟩ : MethodName)) hown (mvT hZ (Wd2 hw)) (mvT hZ (Wd3 hw)) (mvT hZ (Wd4 hw)) (mvT hZ (Wd5 hw)) (by decide) (backOf (W := 0) (rmS l Z a0 hw [] (FP.i2f (p0 &&& (1048575 : Int32))) (FP.i2d ((p1 &&& (1048575 : Int32)) + (1 : Int32))) (FP.i2d (p2 &&& (16777215 : Int32))) h0 q.1) hZ (Wd5 hw) (Wd4 hw) (by decide) (by decide)) (g := (mkF m 350 #[.val (.int p0), .val (.int p1), .val (.int p2), .val (.int p3), .val (.int p4), .val (.int (p0 &&& (1048575 : Int32))), .val (.float (FP.i2f (p0 &&& (1048575 : Int32)))), .val (.double (FP.i2d ((p1 &&& (1048575 : Int32)) + (1 : Int32)))), .second, .val (.double (FP.i2d (p2 &&& (16777215 : Int32)))), .second, .val (.double (FP.i2d (p3 &&& (16777215 : Int32)))), .second, .val (.int (p4 &&& (7 : Int32))), .unset, .unset] [(.double (FP.i2d (p2 &&& (16777215 : Int32)))), (.double (FP.i2d ((p1 &&& (1048575 : Int32)) + (1 : Int32)))), (.float (FP.i2f (p0 &&& (1048575 : Int32))))])) rfl (by rw [hml]; rfl) (argsL := [(.float (FP.i2f (p0 &&& (1048575 : Int32)))), (.double (FP.i2d ((p1 &&& (1048575 : Int32)) + (1 : Int32)))), (.double (FP.i2d (p2 &&& (16777215 : Int32))))]) (rest := []) (lenOf pd0 rfl) rfl (by show 2 * 0 + _ ≤ _; exact Nat.le_of_eq rfl) (hb hby at_350) (fun _ _ => ⟨rfl, e0, (Nat.le_of_ble_eq_true rfl), (Nat.le_of_ble_eq_true rfl)⟩)
                dsimp only [Pt.U, Pt.locs, Pt.cells, Pt.slots] at X20 l20 y20 z20 st20 hQ20
                subst l20 y20 z20
                obtain ⟨rfl, rfl, e20⟩ := hQ20
                refine OD.go (B := (T20.setTop (mkF m 353 #[.val (.int p0), .val (.int p1), .val (.int p2), .val (.int p3), .val (.int p4), .val (.int (p0 &&& (1048575 : Int32))), .val (.float (FP.i2f (p0 &&& (1048575 : Int32)))), .val (.double (FP.i2d ((p1 &&& (1048575 : Int32)) + (1 : Int32)))), .second, .val (.double (FP.i2d (p2 &&& (16777215 : Int32)))), .second, .val (.double (FP.i2d (p3 &&& (16777215 : Int32)))), .second, .val (.int (p4 &&& (7 : Int32))), .unset, .unset] [(.float (own_sc (FP.i2f (p0 &&& (1048575 : Int32))) (FP.i2d ((p1 &&& (1048575 : Int32)) + (1 : Int32))) (FP.i2d (p2 &&& (16777215 : Int32)))))]))) st20 ?_
                refine OD.go (B := (T20.setTop (mkF m 355 #[.val (.int p0), .val (.int p1), .val (.int p2), .val (.int p3), .val (.int p4), .val (.int (p0 &&& (1048575 : Int32))), .val (.float (FP.i2f (p0 &&& (1048575 : Int32)))), .val (.double (FP.i2d ((p1 &&& (1048575 : Int32)) + (1 : Int32)))), .second, .val (.double (FP.i2d (p2 &&& (16777215 : Int32)))), .second, .val (.double (FP.i2d (p3 &&& (16777215 : Int32)))), .second, .val (.int (p4 &&& (7 : Int32))), .val (.float (own_sc (FP.i2f (p0 &&& (1048575 : Int32))) (FP.i2d ((p1 &&& (1048575 : Int32)) + (1 : Int32))) (FP.i2d (p2 &&& (16777215 : Int32))))), .unset] []))) (fun t k => XS.fstore X20.here hx rfl (hb hby at_353) rfl (l' := #[.val (.int p0), .val (.int p1), .val (.int p2), .val (.int p3), .val (.int p4), .val (.int (p0 &&& (1048575 : Int32))), .val (.float (FP.i2f (p0 &&& (1048575 : Int32)))), .val (.double (FP.i2d ((p1 &&& (1048575 : Int32)) + (1 : Int32)))), .second, .val (.double (FP.i2d (p2 &&& (16777215 : Int32)))), .second, .val (.double (FP.i2d (p3 &&& (16777215 : Int32)))), .second, .val (.int (p4 &&& (7 : Int32))), .val (.float (own_sc (FP.i2f (p0 &&& (1048575 : Int32))) (FP.i2d ((p1 &&& (1048575 : Int32)) + (1 : Int32))) (FP.i2d (p2 &&& (16777215 : Int32))))), .unset]) rfl k) ?_
                refine OD.go (B := (T20.setTop (mkF m 357 #[.val (.int p0), .val (.int p1), .val (.int p2), .val (.int p3), .val (.int p4), .val (.int (p0 &&& (1048575 : Int32))), .val (.float (FP.i2f (p0 &&& (1048575 : Int32)))), .val (.double (FP.i2d ((p1 &&& (1048575 : Int32)) + (1 : Int32)))), .second, .val (.double (FP.i2d (p2 &&& (16777215 : Int32)))), .second, .val (.double (FP.i2d (p3 &&& (16777215 : Int32)))), .second, .val (.int (p4 &&& (7 : Int32))), .val (.float (own_sc (FP.i2f (p0 &&& (1048575 : Int32))) (FP.i2d ((p1 &&& (1048575 : Int32)) + (1 : Int32))) (FP.i2d (p2 &&& (16777215 : Int32))))), .unset] [(.float (FP.i2f (p0 &&& (1048575 : Int32))))]))) (fun t k => XS.fload X20.here hx rfl (hb hby at_355) rfl k) ?_
                refine OD.go (B := (T20.setTop (mkF m 358 #[.val (.int p0), .val (.int p1), .val (.int p2), .val (.int p3), .val (.int p4), .val (.int (p0 &&& (1048575 : Int32))), .val (.float (FP.i2f (p0 &&& (1048575 : Int32)))), .val (.double (FP.i2d ((p1 &&& (1048575 : Int32)) + (1 : Int32)))), .second, .val (.double (FP.i2d (p2 &&& (16777215 : Int32)))), .second, .val (.double (FP.i2d (p3 &&& (16777215 : Int32)))), .second, .val (.int (p4 &&& (7 : Int32))), .val (.float (own_sc (FP.i2f (p0 &&& (1048575 : Int32))) (FP.i2d ((p1 &&& (1048575 : Int32)) + (1 : Int32))) (FP.i2d (p2 &&& (16777215 : Int32))))), .unset] [(.float FP.fconst2), (.float (FP.i2f (p0 &&& (1048575 : Int32))))]))) (fun t k => XS.fconst2 X20.here hx rfl (hb hby at_357) (v := FP.fconst2) rfl k) ?_
                refine OD.go (B := (T20.setTop (mkF m 359 #[.val (.int p0), .val (.int p1), .val (.int p2), .val (.int p3), .val (.int p4), .val (.int (p0 &&& (1048575 : Int32))), .val (.float (FP.i2f (p0 &&& (1048575 : Int32)))), .val (.double (FP.i2d ((p1 &&& (1048575 : Int32)) + (1 : Int32)))), .second, .val (.double (FP.i2d (p2 &&& (16777215 : Int32)))), .second, .val (.double (FP.i2d (p3 &&& (16777215 : Int32)))), .second, .val (.int (p4 &&& (7 : Int32))), .val (.float (own_sc (FP.i2f (p0 &&& (1048575 : Int32))) (FP.i2d ((p1 &&& (1048575 : Int32)) + (1 : Int32))) (FP.i2d (p2 &&& (16777215 : Int32))))), .unset] [(.float (FP.fmul (FP.i2f (p0 &&& (1048575 : Int32))) FP.fconst2))]))) (fun t k => XS.fmulS X20.here hx rfl (hb hby at_358) rfl q.2.1 (v := (FP.fmul (FP.i2f (p0 &&& (1048575 : Int32))) FP.fconst2)) rfl k) ?_
                refine OD.go (B := (T20.setTop (mkF m 361 #[.val (.int p0), .val (.int p1), .val (.int p2), .val (.int p3), .val (.int p4), .val (.int (p0 &&& (1048575 : Int32))), .val (.float (FP.i2f (p0 &&& (1048575 : Int32)))), .val (.double (FP.i2d ((p1 &&& (1048575 : Int32)) + (1 : Int32)))), .second, .val (.double (FP.i2d (p2 &&& (16777215 : Int32)))), .second, .val (.double (FP.i2d (p3 &&& (16777215 : Int32)))), .second, .val (.int (p4 &&& (7 : Int32))), .val (.float (own_sc (FP.i2f (p0 &&& (1048575 : Int32))) (FP.i2d ((p1 &&& (1048575 : Int32)) + (1 : Int32))) (FP.i2d (p2 &&& (16777215 : Int32))))), .unset] [(.double (FP.i2d ((p1 &&& (1048575 : Int32)) + (1 : Int32)))), (.float (FP.fmul (FP.i2f (p0 &&& (1048575 : Int32))) FP.fconst2))]))) (fun t k => XS.dload X20.here hx rfl (hb hby at_359) rfl k) ?_
                refine OD.go (B := (T20.setTop (mkF m 363 #[.val (.int p0), .val (.int p1), .val (.int p2), .val (.int p3), .val (.int p4), .val (.int (p0 &&& (1048575 : Int32))), .val (.float (FP.i2f (p0 &&& (1048575 : Int32)))), .val (.double (FP.i2d ((p1 &&& (1048575 : Int32)) + (1 : Int32)))), .second, .val (.double (FP.i2d (p2 &&& (16777215 : Int32)))), .second, .val (.double (FP.i2d (p3 &&& (16777215 : Int32)))), .second, .val (.int (p4 &&& (7 : Int32))), .val (.float (own_sc (FP.i2f (p0 &&& (1048575 : Int32))) (FP.i2d ((p1 &&& (1048575 : Int32)) + (1 : Int32))) (FP.i2d (p2 &&& (16777215 : Int32))))), .unset] [(.double (FP.i2d (p2 &&& (16777215 : Int32)))), (.double (FP.i2d ((p1 &&& (1048575 : Int32)) + (1 : Int32)))), (.float (FP.fmul (FP.i2f (p0 &&& (1048575 : Int32))) FP.fconst2))]))) (fun t k => XS.dload X20.here hx rfl (hb hby at_361) rfl k) ?_
                obtain ⟨_, _, ⟨T21, L21, k21, n21⟩, -, X21, ⟨Lc21, hQ21, l21, y21, z21⟩, st21⟩ := Jvm.LawKit.callS X20 hx (y := (⟨"com/example/tight_pivot/tightpivot/ProximityScore", "score", "(FDD)F"⟩ : MethodName)) hown (mvT hZ (Wd2 hw)) (mvT hZ (Wd3 hw)) (mvT hZ (Wd4 hw)) (mvT hZ (Wd5 hw)) (by decide) (backOf (W := 0) (rmS l Z a0 hw [] (FP.fmul (FP.i2f (p0 &&& (1048575 : Int32))) FP.fconst2) (FP.i2d ((p1 &&& (1048575 : Int32)) + (1 : Int32))) (FP.i2d (p2 &&& (16777215 : Int32))) h0 q.2.2.1) hZ (Wd5 hw) (Wd4 hw) (by decide) (by decide)) (g := (mkF m 363 #[.val (.int p0), .val (.int p1), .val (.int p2), .val (.int p3), .val (.int p4), .val (.int (p0 &&& (1048575 : Int32))), .val (.float (FP.i2f (p0 &&& (1048575 : Int32)))), .val (.double (FP.i2d ((p1 &&& (1048575 : Int32)) + (1 : Int32)))), .second, .val (.double (FP.i2d (p2 &&& (16777215 : Int32)))), .second, .val (.double (FP.i2d (p3 &&& (16777215 : Int32)))), .second, .val (.int (p4 &&& (7 : Int32))), .val (.float (own_sc (FP.i2f (p0 &&& (1048575 : Int32))) (FP.i2d ((p1 &&& (1048575 : Int32)) + (1 : Int32))) (FP.i2d (p2 &&& (16777215 : Int32))))), .unset] [(.double (FP.i2d (p2 &&& (16777215 : Int32)))), (.double (FP.i2d ((p1 &&& (1048575 : Int32)) + (1 : Int32)))), (.float (FP.fmul (FP.i2f (p0 &&& (1048575 : Int32))) FP.fconst2))])) rfl (by rw [hml]; rfl) (argsL := [(.float (FP.fmul (FP.i2f (p0 &&& (1048575 : Int32))) FP.fconst2)), (.double (FP.i2d ((p1 &&& (1048575 : Int32)) + (1 : Int32)))), (.double (FP.i2d (p2 &&& (16777215 : Int32))))]) (rest := []) (lenOf pd0 rfl) rfl (by show 2 * 0 + _ ≤ _; exact Nat.le_of_eq rfl) (hb hby at_363) (fun _ _ => ⟨rfl, e20, (Nat.le_of_ble_eq_true rfl), (Nat.le_of_ble_eq_true rfl)⟩)
                dsimp only [Pt.U, Pt.locs, Pt.cells, Pt.slots] at X21 l21 y21 z21 st21 hQ21
                subst l21 y21 z21
                obtain ⟨rfl, rfl, e21⟩ := hQ21
                refine OD.go (B := (T21.setTop (mkF m 366 #[.val (.int p0), .val (.int p1), .val (.int p2), .val (.int p3), .val (.int p4), .val (.int (p0 &&& (1048575 : Int32))), .val (.float (FP.i2f (p0 &&& (1048575 : Int32)))), .val (.double (FP.i2d ((p1 &&& (1048575 : Int32)) + (1 : Int32)))), .second, .val (.double (FP.i2d (p2 &&& (16777215 : Int32)))), .second, .val (.double (FP.i2d (p3 &&& (16777215 : Int32)))), .second, .val (.int (p4 &&& (7 : Int32))), .val (.float (own_sc (FP.i2f (p0 &&& (1048575 : Int32))) (FP.i2d ((p1 &&& (1048575 : Int32)) + (1 : Int32))) (FP.i2d (p2 &&& (16777215 : Int32))))), .unset] [(.float (own_sc (FP.fmul (FP.i2f (p0 &&& (1048575 : Int32))) FP.fconst2) (FP.i2d ((p1 &&& (1048575 : Int32)) + (1 : Int32))) (FP.i2d (p2 &&& (16777215 : Int32)))))]))) st21 ?_
                refine OD.go (B := (T21.setTop (mkF m 368 #[.val (.int p0), .val (.int p1), .val (.int p2), .val (.int p3), .val (.int p4), .val (.int (p0 &&& (1048575 : Int32))), .val (.float (FP.i2f (p0 &&& (1048575 : Int32)))), .val (.double (FP.i2d ((p1 &&& (1048575 : Int32)) + (1 : Int32)))), .second, .val (.double (FP.i2d (p2 &&& (16777215 : Int32)))), .second, .val (.double (FP.i2d (p3 &&& (16777215 : Int32)))), .second, .val (.int (p4 &&& (7 : Int32))), .val (.float (own_sc (FP.i2f (p0 &&& (1048575 : Int32))) (FP.i2d ((p1 &&& (1048575 : Int32)) + (1 : Int32))) (FP.i2d (p2 &&& (16777215 : Int32))))), .val (.float (own_sc (FP.fmul (FP.i2f (p0 &&& (1048575 : Int32))) FP.fconst2) (FP.i2d ((p1 &&& (1048575 : Int32)) + (1 : Int32))) (FP.i2d (p2 &&& (16777215 : Int32)))))] []))) (fun t k => XS.fstore X21.here hx rfl (hb hby at_366) rfl (l' := #[.val (.int p0), .val (.int p1), .val (.int p2), .val (.int p3), .val (.int p4), .val (.int (p0 &&& (1048575 : Int32))), .val (.float (FP.i2f (p0 &&& (1048575 : Int32)))), .val (.double (FP.i2d ((p1 &&& (1048575 : Int32)) + (1 : Int32)))), .second, .val (.double (FP.i2d (p2 &&& (16777215 : Int32)))), .second, .val (.double (FP.i2d (p3 &&& (16777215 : Int32)))), .second, .val (.int (p4 &&& (7 : Int32))), .val (.float (own_sc (FP.i2f (p0 &&& (1048575 : Int32))) (FP.i2d ((p1 &&& (1048575 : Int32)) + (1 : Int32))) (FP.i2d (p2 &&& (16777215 : Int32))))), .val (.float (own_sc (FP.fmul (FP.i2f (p0 &&& (1048575 : Int32))) FP.fconst2) (FP.i2d ((p1 &&& (1048575 : Int32)) + (1 : Int32))) (FP.i2d (p2 &&& (16777215 : Int32)))))]) rfl k) ?_
                refine OD.go (B := (T21.setTop (mkF m 370 #[.val (.int p0), .val (.int p1), .val (.int p2), .val (.int p3), .val (.int p4), .val (.int (p0 &&& (1048575 : Int32))), .val (.float (FP.i2f (p0 &&& (1048575 : Int32)))), .val (.double (FP.i2d ((p1 &&& (1048575 : Int32)) + (1 : Int32)))), .second, .val (.double (FP.i2d (p2 &&& (16777215 : Int32)))), .second, .val (.double (FP.i2d (p3 &&& (16777215 : Int32)))), .second, .val (.int (p4 &&& (7 : Int32))), .val (.float (own_sc (FP.i2f (p0 &&& (1048575 : Int32))) (FP.i2d ((p1 &&& (1048575 : Int32)) + (1 : Int32))) (FP.i2d (p2 &&& (16777215 : Int32))))), .val (.float (own_sc (FP.fmul (FP.i2f (p0 &&& (1048575 : Int32))) FP.fconst2) (FP.i2d ((p1 &&& (1048575 : Int32)) + (1 : Int32))) (FP.i2d (p2 &&& (16777215 : Int32)))))] [(.float (own_sc (FP.fmul (FP.i2f (p0 &&& (1048575 : Int32))) FP.fconst2) (FP.i2d ((p1 &&& (1048575 : Int32)) + (1 : Int32))) (FP.i2d (p2 &&& (16777215 : Int32)))))]))) (fun t k => XS.fload X21.here hx rfl (hb hby at_368) rfl k) ?_
                refine OD.go (B := (T21.setTop (mkF m 371 #[.val (.int p0), .val (.int p1), .val (.int p2), .val (.int p3), .val (.int p4), .val (.int (p0 &&& (1048575 : Int32))), .val (.float (FP.i2f (p0 &&& (1048575 : Int32)))), .val (.double (FP.i2d ((p1 &&& (1048575 : Int32)) + (1 : Int32)))), .second, .val (.double (FP.i2d (p2 &&& (16777215 : Int32)))), .second, .val (.double (FP.i2d (p3 &&& (16777215 : Int32)))), .second, .val (.int (p4 &&& (7 : Int32))), .val (.float (own_sc (FP.i2f (p0 &&& (1048575 : Int32))) (FP.i2d ((p1 &&& (1048575 : Int32)) + (1 : Int32))) (FP.i2d (p2 &&& (16777215 : Int32))))), .val (.float (own_sc (FP.fmul (FP.i2f (p0 &&& (1048575 : Int32))) FP.fconst2) (FP.i2d ((p1 &&& (1048575 : Int32)) + (1 : Int32))) (FP.i2d (p2 &&& (16777215 : Int32)))))] [(.float FP.fconst2), (.float (own_sc (FP.fmul (FP.i2f (p0 &&& (1048575 : Int32))) FP.fconst2) (FP.i2d ((p1 &&& (1048575 : Int32)) + (1 : Int32))) (FP.i2d (p2 &&& (16777215 : Int32)))))]))) (fun t k => XS.fconst2 X21.here hx rfl (hb hby at_370) (v := FP.fconst2) rfl k) ?_
                refine OD.go (B := (T21.setTop (mkF m 373 #[.val (.int p0), .val (.int p1), .val (.int p2), .val (.int p3), .val (.int p4), .val (.int (p0 &&& (1048575 : Int32))), .val (.float (FP.i2f (p0 &&& (1048575 : Int32)))), .val (.double (FP.i2d ((p1 &&& (1048575 : Int32)) + (1 : Int32)))), .second, .val (.double (FP.i2d (p2 &&& (16777215 : Int32)))), .second, .val (.double (FP.i2d (p3 &&& (16777215 : Int32)))), .second, .val (.int (p4 &&& (7 : Int32))), .val (.float (own_sc (FP.i2f (p0 &&& (1048575 : Int32))) (FP.i2d ((p1 &&& (1048575 : Int32)) + (1 : Int32))) (FP.i2d (p2 &&& (16777215 : Int32))))), .val (.float (own_sc (FP.fmul (FP.i2f (p0 &&& (1048575 : Int32))) FP.fconst2) (FP.i2d ((p1 &&& (1048575 : Int32)) + (1 : Int32))) (FP.i2d (p2 &&& (16777215 : Int32)))))] [(.float (own_sc (FP.i2f (p0 &&& (1048575 : Int32))) (FP.i2d ((p1 &&& (1048575 : Int32)) + (1 : Int32))) (FP.i2d (p2 &&& (16777215 : Int32))))), (.float FP.fconst2), (.float (own_sc (FP.fmul (FP.i2f (p0 &&& (1048575 : Int32))) FP.fconst2) (FP.i2d ((p1 &&& (1048575 : Int32)) + (1 : Int32))) (FP.i2d (p2 &&& (16777215 : Int32)))))]))) (fun t k => XS.fload X21.here hx rfl (hb hby at_371) rfl k) ?_
                refine OD.go (B := (T21.setTop (mkF m 374 #[.val (.int p0), .val (.int p1), .val (.int p2), .val (.int p3), .val (.int p4), .val (.int (p0 &&& (1048575 : Int32))), .val (.float (FP.i2f (p0 &&& (1048575 : Int32)))), .val (.double (FP.i2d ((p1 &&& (1048575 : Int32)) + (1 : Int32)))), .second, .val (.double (FP.i2d (p2 &&& (16777215 : Int32)))), .second, .val (.double (FP.i2d (p3 &&& (16777215 : Int32)))), .second, .val (.int (p4 &&& (7 : Int32))), .val (.float (own_sc (FP.i2f (p0 &&& (1048575 : Int32))) (FP.i2d ((p1 &&& (1048575 : Int32)) + (1 : Int32))) (FP.i2d (p2 &&& (16777215 : Int32))))), .val (.float (own_sc (FP.fmul (FP.i2f (p0 &&& (1048575 : Int32))) FP.fconst2) (FP.i2d ((p1 &&& (1048575 : Int32)) + (1 : Int32))) (FP.i2d (p2 &&& (16777215 : Int32)))))] [(.float (FP.fmul FP.fconst2 (own_sc (FP.i2f (p0 &&& (1048575 : Int32))) (FP.i2d ((p1 &&& (1048575 : Int32)) + (1 : Int32))) (FP.i2d (p2 &&& (16777215 : Int32)))))), (.float (own_sc (FP.fmul (FP.i2f (p0 &&& (1048575 : Int32))) FP.fconst2) (FP.i2d ((p1 &&& (1048575 : Int32)) + (1 : Int32))) (FP.i2d (p2 &&& (16777215 : Int32)))))]))) (fun t k => XS.fmulS X21.here hx rfl (hb hby at_373) rfl q.2.2.2.1 (v := (FP.fmul FP.fconst2 (own_sc (FP.i2f (p0 &&& (1048575 : Int32))) (FP.i2d ((p1 &&& (1048575 : Int32)) + (1 : Int32))) (FP.i2d (p2 &&& (16777215 : Int32)))))) rfl k) ?_
                refine OD.go (B := (T21.setTop (mkF m 375 #[.val (.int p0), .val (.int p1), .val (.int p2), .val (.int p3), .val (.int p4), .val (.int (p0 &&& (1048575 : Int32))), .val (.float (FP.i2f (p0 &&& (1048575 : Int32)))), .val (.double (FP.i2d ((p1 &&& (1048575 : Int32)) + (1 : Int32)))), .second, .val (.double (FP.i2d (p2 &&& (16777215 : Int32)))), .second, .val (.double (FP.i2d (p3 &&& (16777215 : Int32)))), .second, .val (.int (p4 &&& (7 : Int32))), .val (.float (own_sc (FP.i2f (p0 &&& (1048575 : Int32))) (FP.i2d ((p1 &&& (1048575 : Int32)) + (1 : Int32))) (FP.i2d (p2 &&& (16777215 : Int32))))), .val (.float (own_sc (FP.fmul (FP.i2f (p0 &&& (1048575 : Int32))) FP.fconst2) (FP.i2d ((p1 &&& (1048575 : Int32)) + (1 : Int32))) (FP.i2d (p2 &&& (16777215 : Int32)))))] [(.int (cmpValue (FP.fcmp (own_sc (FP.fmul (FP.i2f (p0 &&& (1048575 : Int32))) FP.fconst2) (FP.i2d ((p1 &&& (1048575 : Int32)) + (1 : Int32))) (FP.i2d (p2 &&& (16777215 : Int32)))) (FP.fmul FP.fconst2 (own_sc (FP.i2f (p0 &&& (1048575 : Int32))) (FP.i2d ((p1 &&& (1048575 : Int32)) + (1 : Int32))) (FP.i2d (p2 &&& (16777215 : Int32)))))) .l))]))) (fun t k => XS.fcmpS X21.here hx rfl (hb hby at_374) rfl (v := (cmpValue (FP.fcmp (own_sc (FP.fmul (FP.i2f (p0 &&& (1048575 : Int32))) FP.fconst2) (FP.i2d ((p1 &&& (1048575 : Int32)) + (1 : Int32))) (FP.i2d (p2 &&& (16777215 : Int32)))) (FP.fmul FP.fconst2 (own_sc (FP.i2f (p0 &&& (1048575 : Int32))) (FP.i2d ((p1 &&& (1048575 : Int32)) + (1 : Int32))) (FP.i2d (p2 &&& (16777215 : Int32)))))) .l)) rfl k) ?_
                refine OD.go (B := (T21.setTop (mkF m 378 #[.val (.int p0), .val (.int p1), .val (.int p2), .val (.int p3), .val (.int p4), .val (.int (p0 &&& (1048575 : Int32))), .val (.float (FP.i2f (p0 &&& (1048575 : Int32)))), .val (.double (FP.i2d ((p1 &&& (1048575 : Int32)) + (1 : Int32)))), .second, .val (.double (FP.i2d (p2 &&& (16777215 : Int32)))), .second, .val (.double (FP.i2d (p3 &&& (16777215 : Int32)))), .second, .val (.int (p4 &&& (7 : Int32))), .val (.float (own_sc (FP.i2f (p0 &&& (1048575 : Int32))) (FP.i2d ((p1 &&& (1048575 : Int32)) + (1 : Int32))) (FP.i2d (p2 &&& (16777215 : Int32))))), .val (.float (own_sc (FP.fmul (FP.i2f (p0 &&& (1048575 : Int32))) FP.fconst2) (FP.i2d ((p1 &&& (1048575 : Int32)) + (1 : Int32))) (FP.i2d (p2 &&& (16777215 : Int32)))))] []))) (fun t k => XS.ifNo X21.here hx rfl (hb hby at_375) rfl (by rw [if0]; exact (teq q.2.2.2.2).2) k) ?_
                refine OD.go (B := (T21.setTop (mkF m 379 #[.val (.int p0), .val (.int p1), .val (.int p2), .val (.int p3), .val (.int p4), .val (.int (p0 &&& (1048575 : Int32))), .val (.float (FP.i2f (p0 &&& (1048575 : Int32)))), .val (.double (FP.i2d ((p1 &&& (1048575 : Int32)) + (1 : Int32)))), .second, .val (.double (FP.i2d (p2 &&& (16777215 : Int32)))), .second, .val (.double (FP.i2d (p3 &&& (16777215 : Int32)))), .second, .val (.int (p4 &&& (7 : Int32))), .val (.float (own_sc (FP.i2f (p0 &&& (1048575 : Int32))) (FP.i2d ((p1 &&& (1048575 : Int32)) + (1 : Int32))) (FP.i2d (p2 &&& (16777215 : Int32))))), .val (.float (own_sc (FP.fmul (FP.i2f (p0 &&& (1048575 : Int32))) FP.fconst2) (FP.i2d ((p1 &&& (1048575 : Int32)) + (1 : Int32))) (FP.i2d (p2 &&& (16777215 : Int32)))))] [(.int (1 : Int32))]))) (fun t k => XS.iconst X21.here hx rfl (hb hby at_378) k) ?_
                refine OD.go (B := (T21.setTop (mkF m 383 #[.val (.int p0), .val (.int p1), .val (.int p2), .val (.int p3), .val (.int p4), .val (.int (p0 &&& (1048575 : Int32))), .val (.float (FP.i2f (p0 &&& (1048575 : Int32)))), .val (.double (FP.i2d ((p1 &&& (1048575 : Int32)) + (1 : Int32)))), .second, .val (.double (FP.i2d (p2 &&& (16777215 : Int32)))), .second, .val (.double (FP.i2d (p3 &&& (16777215 : Int32)))), .second, .val (.int (p4 &&& (7 : Int32))), .val (.float (own_sc (FP.i2f (p0 &&& (1048575 : Int32))) (FP.i2d ((p1 &&& (1048575 : Int32)) + (1 : Int32))) (FP.i2d (p2 &&& (16777215 : Int32))))), .val (.float (own_sc (FP.fmul (FP.i2f (p0 &&& (1048575 : Int32))) FP.fconst2) (FP.i2d ((p1 &&& (1048575 : Int32)) + (1 : Int32))) (FP.i2d (p2 &&& (16777215 : Int32)))))] [(.int (1 : Int32))]))) (fun t k => XS.goto X21.here hx rfl (pc0 := 379) (pc' := 383) rfl (hb hby at_379) (by decide) (by decide) k) ?_
                exact OD.ret X21 hx hlk (t := .boolean) Bd.returns rfl (Or.inl ⟨rfl, Or.inr (Or.inl rfl), _, rfl⟩) (hb hby at_383) (Nat.le_of_ble_eq_true rfl) (Nat.le_of_ble_eq_true rfl) ⟨rfl, Fr.nil _⟩
set_option maxRecDepth 65536 in
set_option maxHeartbeats 40000000 in
theorem comes_1 {Post : Tables → Env → Array Value → State → Outcome → State → Prop} (hpost : ∀ tb e args s v u, (limb_1_1.after args s (.returned v) u = true ∧ limb_1_2.after args s (.returned v) u = true ∧ True) → FrameEnd s (.returned v) u (Jvm.fieldLocs frame_1_writes args s ++ Jvm.arrayLocs frame_1_arrays args s ++ Jvm.staticLocs frame_1_statics s) 0 0 → Post tb e args s (.returned v) u) :
    ArmFor flags0 classFile x code maxLocals ret World_1 tables_1 room_1 Calls_1 rest_1 Pre_1 Post := by
  intro l hfl _ _ p e ha hc hk s m args below hf hA hF happ hP
  obtain ⟨hcalls, hrest, hpre⟩ := hP
  obtain ⟨-, -, -, hnamed, -, -, -, hat⟩ := (Spec.applies_iff hf).mp happ
  obtain ⟨hg, hn⟩ := and_e (Cond.before_iff.mp (show (Jvm.Cond.and given_1 narrow_1).before args s = true from hpre))
  obtain ⟨hg0, hr0⟩ := and_e hg
  obtain ⟨hg1, hr1⟩ := and_e hr0
  obtain ⟨hg2, hr2⟩ := and_e hr1
  obtain ⟨hg3, hr3⟩ := and_e hr2
  obtain ⟨hg4, hr4⟩ := and_e hr3
  obtain ⟨w0, w1, w2, w3, w4, rfl⟩ : ∃ w0 w1 w2 w3 w4 : Value, args = #[w0, w1, w2, w3, w4] := by
    have hs : args.size = 5 := by simpa [Cond.value, given_1] using hg0
    obtain ⟨L⟩ := args
    match L, hs with
    | [w0, w1, w2, w3, w4], _ => exact ⟨w0, w1, w2, w3, w4, rfl⟩
  have hw := fun d (hd : d ∈ tables_1) => atoms_spec (ws := Jvm.Cond.code x code maxLocals ret :: tables_1) hat d (List.mem_cons_of_mem _ hd)
  obtain ⟨i0, ei0⟩ := is_v hg1
  obtain rfl : w0 = (.int i0) := Option.some.inj ei0
  obtain ⟨i1, ei1⟩ := is_v hg2
  obtain rfl : w1 = (.int i1) := Option.some.inj ei1
  obtain ⟨i2, ei2⟩ := is_v hg3
  obtain rfl : w2 = (.int i2) := Option.some.inj ei2
  obtain ⟨i3, ei3⟩ := is_v hg4
  obtain rfl : w3 = (.int i3) := Option.some.inj ei3
  obtain ⟨i4, ei4⟩ := is_v hr4
  obtain rfl : w4 = (.int i4) := Option.some.inj ei4
  obtain ⟨n, o, h1, h2, h3, _, L, rfl, ⟨rfl, N⟩, hq⟩ := rm0 l s _ hw tables_1 i0 i1 i2 i3 i4 s.heap  p e ha hc hk s m _ below hf ((Spec.applies_iff_loose hf).mp happ).1 ⟨rfl, State.Warmed39.refl s, rfl⟩ trivial
  refine ⟨n, _, h1, h2, h3, hpost _ _ _ _ _ _ ⟨Cond.after_iff.mpr rfl, Cond.after_iff.mpr (eq_i res_at (Term.int_eval (1)) rfl), trivial⟩ ⟨hq.1, hq.2.1, (hq.2.2.sift fun y hy => Or.inr (N y hy)).mono (by decide) (by decide)⟩⟩
theorem main_1_1 : Claimed_1_1 := comes_1 fun _ _ _ _ _ _ h hF => ⟨h.1, hF⟩
theorem main_1_2 : Claimed_1_2 := comes_1 fun _ _ _ _ _ _ h hF => ⟨h.2.1, hF⟩
end Jvm.Pilot.@@N@@
namespace Jvm.Pilot.@@N@@
open Jvm Jvm.ClassFile Sem Op Lib Jvm.Free Jvm.Stand Jvm.Pilot.@@N@@.Jvm.D
/-! MADE BY PROGRAM (witnessworld.py) out of the Statement's table words and the real class files: 9 classes; the members and pool entries that the words name. The judged class is class 1, her method 1. -/
namespace start1
open Jvm.ClassFile
def u (s : String) : CpInfo := .utf8 (stringToUtf16 s)
/-- a pool by its gaps: so many unusable entries, then the entry; so many at the end -/
def gap : Nat → List CpInfo → List CpInfo
  | 0, r => r
  | n + 1, r => .unusable :: gap n r
def poolList (es : List (Nat × CpInfo)) (last : Nat) : List CpInfo := es.foldr (fun e r => gap e.1 (e.2 :: r)) (gap last [])
def pool (es : List (Nat × CpInfo)) (last : Nat) : Array CpInfo := ⟨poolList es last⟩
def fileOf (pool : Array CpInfo) (this : Nat) (attrs : Array Attribute := #[]) (ms : Array MethodInfo := #[]) (fl : Nat := 33) (sup : Nat := 0) (ifs : Array Nat := #[]) (fds : Array FieldInfo := #[]) : ClassFile where
  minorVersion := 0
  majorVersion := 65
  constantPool := pool
  accessFlags := fl
  thisClass := this
  superClass := sup
  interfaces := ifs
  fields := fds
  methods := ms
  attributes := attrs
def plain (name : String) (sup : Option ClassId) : Class where
  name := name
  kind := .ordinary
  loader := none
  accessFlags := 33
  super := sup
  interfaces := #[]
  cf := none
  fields := #[]
  methods := #[]
  instanceTypes := #[]
  staticTypes := #[]
  resolved := #[]
  callSites := []
  init := .initialized
  statics := none
  mirror := none

def pool0 : Array CpInfo := pool [(5, u "<init>"), (0, u "()V"), (1, .class_ 10), (1, u "java/lang/Object")] 113

def k0m0 : Method := { name := "<init>", desc := "()V", sig := { parameters := [], returnType := none }, accessFlags := 1, code := none }
/-- java/lang/Object -/
def k0 : Class := { plain "java/lang/Object" none with
  accessFlags := 33
  interfaces := #[]
  cf := some (fileOf pool0 8 #[] #[{ accessFlags := 1, nameIndex := 5, descriptorIndex := 6, attributes := #[] }] 33 0 #[] #[])
  fields := #[]
  methods := #[k0m0]
  instanceTypes := #[]
  staticTypes := #[]
  resolved := Array.replicate 124 none
  statics := none }

def pool1 : Array CpInfo := pool [(2, .class_ 4), (1, u "java/lang/Object"), (0, u "<init>"), (0, u "()V"), (0, .integer 1048575), (0, .integer 16777215), (0, .methodref 10 11), (0, .class_ 12), (0, .nameAndType 13 14), (0, u "com/example/tight_pivot/tightpivot/ProximityScore"), (0, u "score"), (0, u "(FDD)F"), (0, .float 1056964608), (0, .double 4613937818241073152), (1, .float 1048576000), (2, .double 9218868437227405312), (1, .double 9218868437227405311), (1, .double 4652218415073722368), (1, .class_ 28), (0, u "com/example/tight_pivot/tightpivot/ProximityScoreScorePinLaw"), (2, u "law"), (0, u "(IIIII)Z")] 3

def k1m0 : Method := { name := "<init>", desc := "()V", sig := { parameters := [], returnType := none }, accessFlags := 2, code := none }
def k1c1 : Code := { maxStack := 7, maxLocals := 16, code := code, exceptionTable := #[], attributes := #[] }
def k1m1 : Method := { name := "law", desc := "(IIIII)Z", sig := { parameters := [.int, .int, .int, .int, .int], returnType := some .boolean }, accessFlags := 9, code := some k1c1 }
/-- com/example/tight_pivot/tightpivot/ProximityScoreScorePinLaw -/
def k1 : Class := { plain "com/example/tight_pivot/tightpivot/ProximityScoreScorePinLaw" (some 0) with
  accessFlags := 49
  interfaces := #[]
  cf := some (fileOf pool1 27 #[] #[{ accessFlags := 2, nameIndex := 5, descriptorIndex := 6, attributes := #[] }, { accessFlags := 9, nameIndex := 31, descriptorIndex := 32, attributes := #[] }] 49 2 #[] #[])
  fields := #[]
  methods := #[k1m0, k1m1]
  instanceTypes := #[]
  staticTypes := #[]
  resolved := Array.replicate 36 none
  statics := none }

def pool2 : Array CpInfo := pool [(2, .class_ 4), (1, u "java/lang/Object"), (0, u "<init>"), (0, u "()V"), (2, .float 2139095039), (11, .double 9218868437227405311), (5, .class_ 28), (0, u "com/example/tight_pivot/tightpivot/ProximityScore"), (2, u "score"), (0, u "(FDD)F")] 22

def k2m0 : Method := { name := "<init>", desc := "()V", sig := { parameters := [], returnType := none }, accessFlags := 2, code := none }
def k2c1 : Code := { maxStack := 6, maxLocals := 7, code := prog_5_method_2_code, exceptionTable := #[], attributes := #[] }
def k2m1 : Method := { name := "score", desc := "(FDD)F", sig := { parameters := [.float, .double, .double], returnType := some .float }, accessFlags := 9, code := some k2c1 }
/-- com/example/tight_pivot/tightpivot/ProximityScore -/
def k2 : Class := { plain "com/example/tight_pivot/tightpivot/ProximityScore" (some 0) with
  accessFlags := 49
  interfaces := #[]
  cf := some (fileOf pool2 27 #[] #[{ accessFlags := 2, nameIndex := 5, descriptorIndex := 6, attributes := #[] }, { accessFlags := 9, nameIndex := 31, descriptorIndex := 32, attributes := #[] }] 49 2 #[] #[])
  fields := #[]
  methods := #[k2m0, k2m1]
  instanceTypes := #[]
  staticTypes := #[]
  resolved := Array.replicate 55 none
  statics := none }

def pool3 : Array CpInfo := pool [(1, u "java/lang/Cloneable"), (0, .class_ 1), (0, u "java/lang/Object"), (0, .class_ 3)] 3

/-- java/lang/Cloneable -/
def k3 : Class := { plain "java/lang/Cloneable" (some 0) with
  accessFlags := 1537
  interfaces := #[]
  cf := some (fileOf pool3 2 #[] #[] 1537 4 #[] #[])
  fields := #[]
  methods := #[]
  instanceTypes := #[]
  staticTypes := #[]
  resolved := Array.replicate 8 none
  statics := none }

def pool4 : Array CpInfo := pool [(1, u "java/io/Serializable"), (0, .class_ 1), (0, u "java/lang/Object"), (0, .class_ 3)] 3

/-- java/io/Serializable -/
def k4 : Class := { plain "java/io/Serializable" (some 0) with
  accessFlags := 1537
  interfaces := #[]
  cf := some (fileOf pool4 2 #[] #[] 1537 4 #[] #[])
  fields := #[]
  methods := #[]
  instanceTypes := #[]
  staticTypes := #[]
  resolved := Array.replicate 8 none
  statics := none }

/-- the primitive byte -/
def k5 : Class := { plain "byte" none with kind := .primitive 'B', accessFlags := 0x411 }
/-- [B -/
def k6 : Class := { plain "[B" (some 0) with kind := .array 5 .byte, interfaces := #[3, 4], accessFlags := 1041 }

/-- the primitive int -/
def k7 : Class := { plain "int" none with kind := .primitive 'I', accessFlags := 0x411 }
/-- [I -/
def k8 : Class := { plain "[I" (some 0) with kind := .array 7 .int, interfaces := #[3, 4], accessFlags := 1041 }

def heap : Heap := #[]
def classes : Array Class := #[k0, k1, k2, k3, k4, k5, k6, k7, k8]
def interned : List (Array UInt16 × Addr) := []
def slotsUsed : Nat := 0
def theMethod : MethodId := ⟨1, 1⟩
def args0 : Array Value := #[.int 1, .int 2, .int 3, .int 4, .int 4]
def aboutOver (below : List Frame) : State where
  vm := { classes := classes, interned := interned.toArray }
  heap := heap
  slotsUsed := slotsUsed
  threads := #[{ frames := .invoking theMethod args0 :: below }]
def below0 : List Frame := [.native { method := ⟨0, 0⟩, args := #[] }]
def about1 : State := aboutOver below0
def p0 : Program := .bare "" "" ""
def e0 : Env := launch0.env 0 0 0
theorem w_frames : about1.frames = Frame.invoking theMethod args0 :: below0 := rfl
set_option maxRecDepth 65536 in
theorem w_args : argsFit about1.vm theMethod args0 = true := by decide +kernel
set_option maxRecDepth 65536 in
theorem w_heap : heapFits about1 = true := by decide +kernel
set_option maxRecDepth 65536 in
theorem w_runnable : about1.curStatus? = some .runnable := by decide +kernel
set_option maxRecDepth 65536 in
theorem w_alone : about1.alone = true := by decide +kernel
set_option maxRecDepth 65536 in
theorem w_named : about1.methodNamed? x = some theMethod := by decide +kernel
set_option maxRecDepth 65536 in
theorem w_hears : about1.hears theMethod below0 = true := by decide +kernel
set_option maxRecDepth 65536 in
theorem w_ripe : about1.ripe theMethod args0 below0 = true := by decide +kernel
theorem w_running : about1.status = .running := rfl
set_option maxRecDepth 65536 in
theorem w_room : about1.hasRoom e0.platform room_1 = true :=
  launch0.hasRoom_least _ room_1 (by decide +kernel) (by decide +kernel) (by decide +kernel) (by decide +kernel) (by decide +kernel) (by decide +kernel)
theorem allAtoms_all (ts : List Jvm.Cond) (a : Array Jvm.Value) (st : Jvm.State) : (allAtoms ts).before a st = ts.all (fun c => c.before a st) := by
  induction ts with
  | nil => rfl
  | cons c t ih =>
    show (Jvm.Cond.and c (allAtoms t)).before a st = _
    rw [Jvm.Cond.before_and, ih, List.all_cons]
def words1 : List Jvm.Cond := Jvm.Cond.code x code maxLocals ret :: tables_1
/-- a 'code' word, met by the world's own term for the bytes: nothing is compared byte by byte -/
theorem code_word {y : MethodName} {bytes : ByteArray} {mx : Nat} {rt : Option FieldType} {a : Array Value} {s : State} {m : MethodId} {meth : Method} {c : Code} (h1 : s.methodNamed? y = some m) (h2 : s.vm.method? m = some meth) (h3 : meth.code = some c) (h4 : c.code = bytes)
    (h5 : (c.maxLocals == mx && c.exceptionTable.isEmpty && decide (c.maxStack ≤ mostOperands) && decide (meth.sig.returnType = rt) && !meth.locks && decide (parseMethodDescriptor y.desc = some meth.sig)) = true) : (Jvm.Cond.code y bytes mx rt).before a s = true := by
  simp only [Bool.and_eq_true, beq_iff_eq, Bool.not_eq_true', decide_eq_true_eq] at h5
  obtain ⟨⟨⟨⟨⟨g1, g2⟩, g3⟩, g4⟩, g5⟩, g6⟩ := h5
  simp [Cond.before, Cond.holds, Cond.value, h1, h2, h3, h4, g1, g2, g3, g4, g5, g6]
def isCode : Jvm.Cond → Bool
  | .code _ _ _ _ => true
  | _ => false
theorem all_split {L : List Jvm.Cond} {P : Jvm.Cond → Bool} (h1 : L.all (fun c => isCode c || P c) = true) (h2 : ∀ c ∈ L.filter isCode, P c = true) : L.all P = true := by
  refine List.all_eq_true.mpr fun c hc => ?_
  have h := List.all_eq_true.mp h1 c hc
  rcases Bool.eq_false_or_eq_true (isCode c) with hi | hi
  · exact h2 c (List.mem_filter.mpr ⟨hc, hi⟩)
  · simpa [hi] using h
set_option maxRecDepth 65536 in
theorem w_c0 : (Jvm.Cond.code x code maxLocals ret).before args0 about1 = true := code_word (m := ⟨1, 1⟩) (meth := k1m1) (c := k1c1) (by decide +kernel) rfl rfl rfl (by decide +kernel)
set_option maxRecDepth 65536 in
theorem w_c1 : (Jvm.Cond.code ({ cls := "com/example/tight_pivot/tightpivot/ProximityScore", name := "score", desc := "(FDD)F" } : Jvm.MethodName) prog_5_method_2_code (7 : Nat) (Option.some Jvm.ClassFile.FieldType.float)).before args0 about1 = true := code_word (m := ⟨2, 1⟩) (meth := k2m1) (c := k2c1) (by decide +kernel) rfl rfl rfl (by decide +kernel)
def codes1 : List Jvm.Cond := [Jvm.Cond.code x code maxLocals ret, Jvm.Cond.code ({ cls := "com/example/tight_pivot/tightpivot/ProximityScore", name := "score", desc := "(FDD)F" } : Jvm.MethodName) prog_5_method_2_code (7 : Nat) (Option.some Jvm.ClassFile.FieldType.float)]
set_option maxRecDepth 65536 in
theorem codes_eq : words1.filter isCode = codes1 := rfl
theorem w_codes : ∀ c ∈ words1.filter isCode, c.before args0 about1 = true := by
  rw [codes_eq]
  intro c hc
  simp only [codes1, List.mem_cons, List.not_mem_nil, or_false] at hc
  rcases hc with rfl | rfl
  · exact w_c0
  · exact w_c1
set_option maxRecDepth 65536 in
theorem w_t1 : words1.all (fun c => isCode c || c.before args0 about1) = true := by decide +kernel
theorem w_tables : (allAtoms (Jvm.Cond.code x code maxLocals ret :: tables_1)).before args0 about1 = true := by
  rw [allAtoms_all]
  show words1.all (fun c => c.before args0 about1) = true
  refine all_split ?_ w_codes
  rw [w_t1]
set_option maxRecDepth 65536 in
theorem w_case : (Jvm.Cond.and given_1 narrow_1).before args0 about1 = true := by decide +kernel
theorem w_applies : (headSpec (Jvm.Cond.code x code maxLocals ret :: tables_1) room_1).applies x e0.platform about1 = true :=
  (Spec.applies_iff w_frames).mpr ⟨w_running, w_runnable, w_alone, w_named, w_hears, w_ripe, w_room, w_tables⟩
theorem atStart : AtStart classFile x code maxLocals ret World_1 tables_1 room_1 Calls_1 rest_1 Pre_1 launch0 p0 e0 about1 theMethod args0 below0 :=
  ⟨lists_1, trivial, launch0.admits_env _ _ _, launch0.least_env, fairChoices_fair.cas, fairChoices_fair.clock, w_frames, w_args, w_heap, w_applies, trivial, trivial, w_case⟩
end start1
theorem witness_1 : WitnessClaimed_1 := ⟨start1.p0, start1.e0, start1.about1, start1.theMethod, start1.args0, start1.below0, start1.atStart⟩
end Jvm.Pilot.@@N@@
