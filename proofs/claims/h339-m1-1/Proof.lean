import JvmDerived
import JvmDerived.Pilot.@@N@@Statement
import JvmDerived.Pilot.@@N@@Code
set_option linter.unusedVariables false
set_option linter.unusedSimpArgs false
namespace Jvm.Pilot.@@N@@
namespace Own
open Jvm Jvm.FP.Core Jvm.Op
/-- the magnitude, in units of 2^-1074 -/
def zm (x : UInt64) : Nat := zmag b64 (val64 x)
/-- a number that is neither below nought nor an infinity -/
def Pos (x : UInt64) : Prop := ∃ c q, val64 x = .fin false c q
theorem qmin64 : b64.qmin = -1074 := by decide +kernel
theorem pow_one64 : 2 ^ (0 - b64.qmin).toNat = one64 := by rw [Int.zero_sub]; exact pow_qmin64
theorem Pos.ne {x : UInt64} (h : Pos x) : val64 x ≠ .nan := by obtain ⟨c, q, h⟩ := h; rw [h]; exact fun z => nomatch z
theorem Pos.zval {x : UInt64} (h : Pos x) : zval b64 (val64 x) = (zm x : Int) := by
  obtain ⟨c, q, h⟩ := h
  unfold zm Jvm.FP.Core.zval
  rw [h]
  rfl
theorem pos_cmp {x y : UInt64} (hx : Pos x) (hy : Pos y) : dcmp x y = some (compare (zm x : Int) (zm y : Int)) := by
  rw [dcmp_zval hx.ne hy.ne, hx.zval, hy.zval]
theorem rr_le {A B : Nat} {V : Datum} (hB : 0 < B) (hV : FP.Core.fits b64 V) (hn : V ≠ .nan) (h : A * one64 ≤ zmag b64 V * B) : zmag b64 (roundRatio b64 false A B 0) ≤ zmag b64 V := by
  refine zmag_roundRatio_le good_b64 hB hV hn (Int.le_refl _) (by rw [qmin64]; decide) ?_
  unfold inUnits
  rw [pow_one64, Int.sub_self]
  simpa using h
theorem rr_ge {A B : Nat} {V : Datum} (hB : 0 < B) (hV : FP.Core.fits b64 V) (h : zmag b64 V * B ≤ A * one64) : zmag b64 V ≤ zmag b64 (roundRatio b64 false A B 0) := by
  refine zmag_roundRatio_ge good_b64 hB hV (Int.le_refl _) (by rw [qmin64]; decide) ?_
  unfold inUnits
  rw [pow_one64, Int.sub_self]
  simpa using h
/-- the rounding of a whole number -/
theorem l2d_rr {a : Int64} (h : 0 ≤ a.toInt) : val64 (l2d a) = roundRatio b64 false a.toInt.toNat 1 0 := by
  rw [val64_l2d]
  show roundRatio b64 (decide (a.toInt < 0)) a.toInt.natAbs 1 0 = _
  rw [decide_eq_false (by omega), show a.toInt.natAbs = a.toInt.toNat from by omega]
theorem l2d_pos {a : Int64} (h : 0 ≤ a.toInt) : Pos (l2d a) := by
  obtain ⟨c, q, e⟩ := l2d_shape a
  rw [decide_eq_false (by omega)] at e
  exact ⟨c, q, e⟩
theorem near {A c q c' q'} (h : roundRatio b64 false A 1 0 = .fin false c q) (hf : FP.Core.fits b64 (.fin false c' q')) : ((A * one64 : Nat) - (zmag b64 (.fin false c q) : Nat) : Int).natAbs ≤ ((A * one64 : Nat) - (zmag b64 (.fin false c' q') : Nat) : Int).natAbs := by
  have n := roundRatio_nearest good_b64 (Nat.one_pos) h hf.1 hf.2.1 (Int.le_refl _) (by rw [qmin64]; decide)
  unfold distance at n
  have e : inUnits A 0 b64.qmin = A * one64 := by unfold inUnits; rw [pow_one64]
  rw [e] at n
  simpa [zmag] using n
theorem l2d_mono {a b : Int64} (ha : 0 ≤ a.toInt) (h : a.toInt ≤ b.toInt) : zm (l2d a) ≤ zm (l2d b) := by
  obtain ⟨c, q, ea⟩ := l2d_pos ha
  obtain ⟨c', q', eb⟩ := l2d_pos (a := b) (by omega)
  have fa := val64_fits (l2d a)
  have fb := val64_fits (l2d b)
  have ra := l2d_rr ha
  have rb := l2d_rr (a := b) (by omega)
  unfold zm
  have hle : a.toInt.toNat ≤ b.toInt.toNat := by omega
  generalize a.toInt.toNat = A at *
  generalize b.toInt.toNat = B at *
  refine Nat.le_of_not_lt fun hlt => ?_
  have u := one64_pos
  have hAB : A * one64 ≤ B * one64 := Nat.mul_le_mul_right _ hle
  -- v < w
  have k1 : ¬ A * one64 ≤ zmag b64 (val64 (l2d b)) := fun z => by
    have := rr_le (A := A) (B := 1) Nat.one_pos fb (l2d_pos (a := b) (by omega)).ne (by simpa using z)
    rw [← ra] at this
    omega
  have k2 : ¬ zmag b64 (val64 (l2d a)) ≤ B * one64 := fun z => by
    have := rr_ge (A := B) (B := 1) Nat.one_pos fa (by simpa using z)
    rw [← rb] at this
    omega
  rw [ea] at ra fa
  rw [eb] at rb fb
  have n1 := near ra.symm fb
  have n2 := near rb.symm fa
  rw [ea, eb] at hlt
  rw [eb] at k1
  rw [ea] at k2
  have hz : Datum.fin false c q = Datum.fin false c' q' → zmag b64 (.fin false c q) = zmag b64 (.fin false c' q') := fun h => congrArg _ h
  generalize zmag b64 (.fin false c q) = w at *
  generalize zmag b64 (.fin false c' q') = v at *
  have e1 : A * one64 = B * one64 := by omega
  have e2 : A = B := Nat.eq_of_mul_eq_mul_right u e1
  subst e2
  have := hz (ra.trans rb.symm)
  omega
theorem log_le {n : Nat} (hn : 0 < n) (hb : n < 2 ^ 62) : n.log2 ≤ 61 := by
  have := (Nat.log2_lt (by omega)).mpr hb
  omega
theorem leading_one {n : Nat} (hn : 0 < n) : leading n 1 = (n.log2 : Int) := by
  unfold leading
  have h := Nat.log2_self_le (n := n) (by omega)
  have e : Nat.log2 1 = 0 := by decide
  simp only [e]
  rw [if_pos]
  · omega
  · simpa using h
theorem rr_dbl {n : Nat} (hn : 0 < n) (hb : n < 2 ^ 62) : ∃ c q, roundRatio b64 false n 1 0 = .fin false c q ∧ roundRatio b64 false (2 * n) 1 0 = .fin false c (q + 1) := by
  have e1 : roundRatio b64 false (2 * n) 1 0 = roundRatio b64 false n 1 1 := roundRatio_congr Nat.one_pos Nat.one_pos (by simp; omega)
  rw [e1]
  have hl := log_le hn hb
  have hp : b64.p = 53 := rfl
  have hm : b64.qmax = 971 := by decide +kernel
  have q0 : quantum b64 n 1 0 = (n.log2 : Int) - 52 := by unfold quantum; rw [leading_one hn, qmin64, hp]; omega
  have q1 : quantum b64 n 1 1 = (n.log2 : Int) - 52 + 1 := by unfold quantum; rw [leading_one hn, qmin64, hp]; omega
  unfold roundRatio
  rw [if_neg (by omega), if_neg (by omega), q0, q1]
  unfold roundAt
  have u1 : unitsNum n 1 ((n.log2 : Int) - 52 + 1) = unitsNum n 0 ((n.log2 : Int) - 52) := by unfold unitsNum; congr 2; omega
  have u2 : unitsDen 1 1 ((n.log2 : Int) - 52 + 1) = unitsDen 1 0 ((n.log2 : Int) - 52) := by unfold unitsDen; congr 2; omega
  rw [u1, u2]
  generalize nearest _ _ = N
  unfold settle bound
  rw [hm]
  by_cases hN : N < 2 ^ b64.p
  · rw [if_pos hN, if_pos hN, if_pos (by omega), if_pos (by omega)]
    exact ⟨_, _, rfl, rfl⟩
  · rw [if_neg hN, if_neg hN, if_pos (by omega), if_pos (by omega)]
    exact ⟨_, _, rfl, rfl⟩
theorem l2d_dbl {a b : Int64} (ha : 0 < a.toInt) (h62 : a.toInt < 2 ^ 62) (hb : b.toInt = 2 * a.toInt) : zm (l2d b) = 2 * zm (l2d a) := by
  have ra := l2d_rr (a := a) (by omega)
  have rb := l2d_rr (a := b) (by omega)
  rw [show b.toInt.toNat = 2 * a.toInt.toNat from by omega] at rb
  obtain ⟨c, q, e1, e2⟩ := rr_dbl (n := a.toInt.toNat) (by omega) (by omega)
  have fa := val64_fits (l2d a)
  rw [ra, e1] at fa
  unfold zm
  rw [ra, rb, e1, e2]
  show c * 2 ^ (q + 1 - b64.qmin).toNat = 2 * (c * 2 ^ (q - b64.qmin).toNat)
  have hq := fa.2.1
  rw [show (q + 1 - b64.qmin).toNat = (q - b64.qmin).toNat + 1 from by omega, Nat.pow_succ]
  generalize 2 ^ (q - b64.qmin).toNat = P
  rw [← Nat.mul_assoc, Nat.mul_comm 2]
theorem div_rr {x y : UInt64} (hx : Pos x) (hy : Pos y) (h0 : zm y ≠ 0) : val64 (ddiv x y) = roundRatio b64 false (zm x) (zm y) 0 := by
  obtain ⟨c, q, ex⟩ := hx
  obtain ⟨d, r, ey⟩ := hy
  have fx := val64_fits x
  have fy := val64_fits y
  unfold zm at *
  rw [ex] at fx
  rw [ey] at fy h0
  have hd : d ≠ 0 := fun z => by subst z; exact h0 (by simp [zmag, inUnits])
  rw [val64_ddiv, ex, ey]
  show (if d = 0 then _ else roundRatio b64 false c d (q - r)) = _
  rw [if_neg hd]
  refine roundRatio_congr (by omega) (Nat.pos_of_ne_zero h0) ?_
  show c * (d * 2 ^ (r - b64.qmin).toNat) * 2 ^ (q - r - 0).toNat = c * 2 ^ (q - b64.qmin).toNat * d * 2 ^ (0 - (q - r)).toNat
  have h1 := fx.2.1
  have h2 := fy.2.1
  have e : (r - b64.qmin).toNat + (q - r - 0).toNat = (q - b64.qmin).toNat + (0 - (q - r)).toNat := by omega
  have e2 : 2 ^ (r - b64.qmin).toNat * 2 ^ (q - r - 0).toNat = 2 ^ (q - b64.qmin).toNat * 2 ^ (0 - (q - r)).toNat := by rw [← Nat.pow_add, ← Nat.pow_add, e]
  generalize 2 ^ (r - b64.qmin).toNat = P1 at *
  generalize 2 ^ (q - r - 0).toNat = P2 at *
  generalize 2 ^ (q - b64.qmin).toNat = P3 at *
  generalize 2 ^ (0 - (q - r)).toNat = P4 at *
  calc c * (d * P1) * P2 = c * d * (P1 * P2) := by ac_rfl
    _ = c * d * (P3 * P4) := by rw [e2]
    _ = c * P3 * d * P4 := by ac_rfl
theorem mul_rr {x y : UInt64} (hx : Pos x) (hy : Pos y) : val64 (dmul x y) = roundRatio b64 false (zm x * zm y) (one64 * one64) 0 := by
  obtain ⟨c, q, ex⟩ := hx
  obtain ⟨d, r, ey⟩ := hy
  have fx := val64_fits x
  have fy := val64_fits y
  unfold zm at *
  rw [ex] at fx
  rw [ey] at fy
  rw [val64_dmul, ex, ey]
  show roundRatio b64 false (c * d) 1 (q + r) = _
  refine roundRatio_congr Nat.one_pos (Nat.mul_pos one64_pos one64_pos) ?_
  show c * d * (one64 * one64) * 2 ^ (q + r - 0).toNat = c * 2 ^ (q - b64.qmin).toNat * (d * 2 ^ (r - b64.qmin).toNat) * 1 * 2 ^ (0 - (q + r)).toNat
  have h1 := fx.2.1
  have h2 := fy.2.1
  have hm : b64.qmin ≤ 0 := by rw [qmin64]; decide
  have e2 : one64 * one64 * 2 ^ (q + r - 0).toNat = 2 ^ (q - b64.qmin).toNat * 2 ^ (r - b64.qmin).toNat * 2 ^ (0 - (q + r)).toNat := by
    rw [← pow_qmin64, ← Nat.pow_add, ← Nat.pow_add, ← Nat.pow_add, ← Nat.pow_add]
    congr 1
    omega
  generalize one64 * one64 = U at *
  generalize 2 ^ (q + r - 0).toNat = P1 at *
  generalize 2 ^ (q - b64.qmin).toNat = P2 at *
  generalize 2 ^ (r - b64.qmin).toNat = P3 at *
  generalize 2 ^ (0 - (q + r)).toNat = P4 at *
  calc c * d * U * P1 = c * d * (U * P1) := by ac_rfl
    _ = c * d * (P2 * P3 * P4) := by rw [e2]
    _ = c * P2 * (d * P3) * 1 * P4 := by rw [Nat.mul_one]; ac_rfl
/-- what rounds to at most a number is a number -/
theorem rr_pos {A B : Nat} {x V : UInt64} (hB : 0 < B) (hV : Pos V) (e : val64 x = roundRatio b64 false A B 0) (h : A * one64 ≤ zm V * B) : Pos x ∧ zm x ≤ zm V := by
  have k := rr_le hB (val64_fits V) hV.ne h
  unfold zm
  rw [e]
  refine ⟨?_, k⟩
  have s := sgn_roundRatio b64 false A B 0
  have lt := DFin.zval_lt (a := V) (by obtain ⟨c, q, z⟩ := hV; exact ⟨false, c, q, z⟩)
  cases hr : roundRatio b64 false A B 0 with
  | nan => exact absurd hr (roundRatio_ne_nan b64 false A B 0)
  | inf t =>
    rw [hr] at k
    exact absurd (show b64.tails * 2 ^ (b64.exps - 2) ≤ _ from k) (Nat.not_le.mpr lt)
  | fin t c q =>
    rw [hr] at s
    cases (show t = false from s)
    exact ⟨c, q, e.trans hr⟩
theorem rr_at {A B : Nat} {x V : UInt64} (hB : 0 < B) (hV : Pos V) (e : val64 x = roundRatio b64 false A B 0) (h : zm V * B ≤ A * one64) : zm V ≤ zm x := by
  unfold zm at *
  rw [e]
  exact rr_ge hB (val64_fits V) h
theorem one_pos : Pos 4607182418800017408 := ⟨2 ^ 52, -52, by decide +kernel⟩
theorem half_pos : Pos 4602678819172646912 := ⟨2 ^ 52, -53, by decide +kernel⟩
theorem zero_pos : Pos 0 := ⟨0, b64.qmin, by decide +kernel⟩
theorem zm_one : zm 4607182418800017408 = one64 := by
  unfold zm
  rw [show val64 4607182418800017408 = .fin false (2 ^ 52) (-52) from by decide +kernel]
  show 2 ^ 52 * 2 ^ (-52 - b64.qmin).toNat = one64
  have e : 52 + (-52 - b64.qmin).toNat = (-b64.qmin).toNat := by rw [qmin64]; decide
  rw [← Nat.pow_add, ← pow_qmin64, e]
theorem zm_half : 2 * zm 4602678819172646912 = one64 := by
  unfold zm
  rw [show val64 4602678819172646912 = .fin false (2 ^ 52) (-53) from by decide +kernel]
  have z : zmag b64 (.fin false (2 ^ 52) (-53)) = 2 ^ 52 * 2 ^ (-53 - b64.qmin).toNat := rfl
  rw [z]
  have e : 52 + (-53 - b64.qmin).toNat + 1 = (-b64.qmin).toNat := by rw [qmin64]; decide
  rw [← Nat.pow_add, ← pow_qmin64, ← e, Nat.pow_succ, Nat.mul_comm]
theorem zm_zero : zm 0 = 0 := by
  unfold zm
  rw [show val64 0 = .fin false 0 b64.qmin from by decide +kernel]
  show 0 * _ = 0
  exact Nat.zero_mul _
theorem l2d_ge1 {a : Int64} (h : 0 < a.toInt) : one64 ≤ zm (l2d a) := by
  have o : (1 : Int64).toInt = 1 := by decide
  have m := l2d_mono (a := 1) (b := a) (by omega) (by omega)
  have e : l2d 1 = 4607182418800017408 := by decide +kernel
  rw [e, zm_one] at m
  exact m
theorem l2d_ne0 {a : Int64} (h : 0 < a.toInt) : zm (l2d a) ≠ 0 := by
  have := l2d_ge1 h
  have := one64_pos
  omega
/-- what hitRate answers -/
def fRate (h m : Int64) : UInt64 := if h + m = 0 then 4607182418800017408 else FP.ddiv (FP.l2d h) (FP.l2d (h + m))
section Rate
variable {h m : Int64}
theorem sum_toInt (hh : 0 ≤ h.toInt) (hm : 0 ≤ m.toInt) (hs : h.toInt + m.toInt < 2 ^ 63) : (h + m).toInt = h.toInt + m.toInt := int64_add (by omega) hs
theorem sum_ne (hh : 0 ≤ h.toInt) (hm : 0 ≤ m.toInt) (hs : h.toInt + m.toInt < 2 ^ 63) : h + m = 0 ↔ h.toInt + m.toInt = 0 := by
  rw [← sum_toInt hh hm hs]
  constructor
  · intro z; rw [z]; rfl
  · intro z; exact Int64.toInt_inj.mp z
/-- the quotient of two whole numbers, the lesser by the greater -/
theorem quo_pos {a b : Int64} (ha : 0 ≤ a.toInt) (hab : a.toInt ≤ b.toInt) (hb : 0 < b.toInt) : Pos (ddiv (l2d a) (l2d b)) ∧ zm (ddiv (l2d a) (l2d b)) ≤ one64 := by
  have e := div_rr (l2d_pos ha) (l2d_pos (a := b) (by omega)) (l2d_ne0 hb)
  have k := rr_pos (V := 4607182418800017408) (Nat.pos_of_ne_zero (l2d_ne0 hb)) one_pos e (by rw [zm_one, Nat.mul_comm]; exact Nat.mul_le_mul_left _ (l2d_mono ha hab))
  rw [zm_one] at k
  exact k
theorem rate_pos (hh : 0 ≤ h.toInt) (hm : 0 ≤ m.toInt) (hs : h.toInt + m.toInt < 2 ^ 63) : Pos (fRate h m) ∧ zm (fRate h m) ≤ one64 := by
  have e := sum_toInt hh hm hs
  unfold fRate
  by_cases z : h + m = 0
  · rw [if_pos z]; exact ⟨one_pos, Nat.le_of_eq zm_one⟩
  · rw [if_neg z]
    have z' : ¬ h.toInt + m.toInt = 0 := fun q => z ((sum_ne hh hm hs).mpr q)
    exact quo_pos hh (by omega) (by omega)
theorem rate_pos' (hh : 0 ≤ h.toInt) (hm : 0 ≤ m.toInt) (hs : h.toInt + m.toInt < 2 ^ 63) (z : ¬ h + m = 0) : Pos (ddiv (l2d h) (l2d (h + m))) := by
  have := (rate_pos hh hm hs).1
  unfold fRate at this
  rw [if_neg z] at this
  exact this
theorem rate_m0 (hh : 0 ≤ h.toInt) (hm : m.toInt = 0) (hs : h.toInt + m.toInt < 2 ^ 63) : zm (fRate h m) = one64 := by
  have e := sum_toInt hh (by omega) hs
  unfold fRate
  by_cases z : h + m = 0
  · rw [if_pos z]; exact zm_one
  · rw [if_neg z]
    have z' : ¬ h.toInt + m.toInt = 0 := fun q => z ((sum_ne hh (by omega) hs).mpr q)
    have e2 : h + m = h := Int64.toInt_inj.mp (by omega)
    rw [e2]
    have hp : 0 < h.toInt := by omega
    have r := div_rr (l2d_pos hh) (l2d_pos hh) (l2d_ne0 hp)
    refine Nat.le_antisymm (quo_pos hh (Int.le_refl _) hp).2 ?_
    have k := rr_at (V := 4607182418800017408) (Nat.pos_of_ne_zero (l2d_ne0 hp)) one_pos r (by rw [zm_one, Nat.mul_comm]; exact Nat.le_refl _)
    rw [zm_one] at k
    exact k
theorem rate_h0 (hh : h.toInt = 0) (hm : 0 < m.toInt) (hs : h.toInt + m.toInt < 2 ^ 63) : zm (fRate h m) = 0 := by
  have e := sum_toInt (by omega) (by omega) hs
  have h0 : h = 0 := Int64.toInt_inj.mp hh
  subst h0
  unfold fRate
  rw [if_neg (fun z => by have := (sum_ne (h := 0) (m := m) (by omega) (by omega) hs).mp z; omega)]
  have r := div_rr (l2d_pos (a := 0) (by decide)) (l2d_pos (a := 0 + m) (by omega)) (l2d_ne0 (by omega))
  have k := rr_pos (V := 0) (Nat.pos_of_ne_zero (l2d_ne0 (a := 0 + m) (by omega))) zero_pos r (by rw [show l2d 0 = 0 from l2d_zero, zm_zero, Nat.zero_mul]; exact Nat.zero_le _)
  rw [zm_zero] at k
  exact Nat.le_zero.mp k.2
/-- twice the hits against the sum -/
theorem rate_le (hh : 0 ≤ h.toInt) (hm : 0 ≤ m.toInt) (hs : h.toInt + m.toInt < 2 ^ 63) (h62 : h.toInt < 2 ^ 62) (hlt : h.toInt ≤ m.toInt) (h0 : 0 < m.toInt) : zm (fRate h m) ≤ zm 4602678819172646912 := by
  have e := sum_toInt hh hm hs
  unfold fRate
  rw [if_neg (fun z => by have := (sum_ne hh hm hs).mp z; omega)]
  have r := div_rr (l2d_pos hh) (l2d_pos (a := h + m) (by omega)) (l2d_ne0 (by omega))
  refine (rr_pos (V := 4602678819172646912) (Nat.pos_of_ne_zero (l2d_ne0 (a := h + m) (by omega))) half_pos r ?_).2
  have hz := zm_half
  by_cases p : h.toInt = 0
  · have h0 : h = 0 := Int64.toInt_inj.mp p
    subst h0
    rw [show l2d 0 = 0 from l2d_zero, zm_zero, Nat.zero_mul]
    exact Nat.zero_le _
  · have d := l2d_dbl (a := h) (b := h + h) (by omega) h62 (by rw [int64_add (by omega) (by omega)]; omega)
    have mo := l2d_mono (a := h + h) (b := h + m) (by rw [int64_add (by omega) (by omega)]; omega) (by rw [int64_add (by omega) (by omega)]; omega)
    rw [d] at mo
    generalize zm (l2d (h + m)) = Y at *
    generalize zm (l2d h) = X at *
    generalize zm 4602678819172646912 = H at *
    rw [← hz]
    calc X * (2 * H) = H * (2 * X) := by ac_rfl
      _ ≤ H * Y := Nat.mul_le_mul_left _ mo
theorem rate_ge (hh : 0 ≤ h.toInt) (hm : 0 ≤ m.toInt) (hs : h.toInt + m.toInt < 2 ^ 63) (h62 : h.toInt < 2 ^ 62) (hlt : m.toInt ≤ h.toInt) (h0 : 0 < h.toInt) : zm 4602678819172646912 ≤ zm (fRate h m) := by
  have e := sum_toInt hh hm hs
  unfold fRate
  rw [if_neg (fun z => by have := (sum_ne hh hm hs).mp z; omega)]
  have r := div_rr (l2d_pos hh) (l2d_pos (a := h + m) (by omega)) (l2d_ne0 (by omega))
  refine rr_at (V := 4602678819172646912) (Nat.pos_of_ne_zero (l2d_ne0 (a := h + m) (by omega))) half_pos r ?_
  have hz := zm_half
  have d := l2d_dbl (a := h) (b := h + h) (by omega) h62 (by rw [int64_add (by omega) (by omega)]; omega)
  have mo := l2d_mono (a := h + m) (b := h + h) (by omega) (by rw [int64_add (a := h) (b := h) (by omega) (by omega)]; omega)
  rw [d] at mo
  generalize zm (l2d (h + m)) = Y at *
  generalize zm (l2d h) = X at *
  generalize zm 4602678819172646912 = H at *
  rw [← hz]
  calc H * Y ≤ H * (2 * X) := Nat.mul_le_mul_left _ mo
    _ = X * (2 * H) := by ac_rfl
end Rate
theorem cv {x y : UInt64} (hx : Pos x) (hy : Pos y) (o : Jvm.ClassFile.CmpOp) : cmpValue (FP.dcmp x y) o = if zm x < zm y then -1 else if zm x = zm y then 0 else 1 := by
  rw [show FP.dcmp x y = _ from pos_cmp hx hy, compare_ite]
  by_cases h1 : zm x < zm y
  · rw [if_pos (by omega), if_pos h1]; rfl
  · rw [if_neg (by omega), if_neg h1]
    by_cases h2 : zm x = zm y
    · rw [if_pos (by omega), if_pos h2]; rfl
    · rw [if_neg (by omega), if_neg h2]; rfl
theorem Pos.noNaN {x : UInt64} (h : Pos x) : Jvm.Free.Fl.NoNaN64 x := by
  obtain ⟨c, q, e⟩ := h
  exact Jvm.Free.Fl.noNaN64_no.mpr (DFin.notNaN ⟨false, c, q, e⟩)
theorem l2d_exact {a : Int64} (h0 : 0 ≤ a.toInt) (h : a.toInt ≤ 2 ^ 53) : zm (l2d a) = a.toInt.toNat * one64 := by
  have z := DInt_zval (l2d_int (a := a) (by omega))
  rw [(l2d_pos h0).zval] at z
  have e : ((a.toInt.toNat * one64 : Nat) : Int) = a.toInt * (one64 : Int) := by rw [Int.natCast_mul, Int.toNat_of_nonneg h0]
  omega
theorem l2d_pow {a : Int64} {j : Nat} (hj : j ≤ 62) (h : a.toInt = 2 ^ j) : zm (l2d a) = 2 ^ j * one64 := by
  have h0 : 0 ≤ a.toInt := by rw [h]; exact Int.le_of_lt (Int.pow_pos (by decide))
  have hn : a.toInt.toNat = 2 ^ j := by rw [h]; exact Int.toNat_natCast (2 ^ j)
  have f : FP.Core.fits b64 (.fin false (2 ^ 52) ((j : Int) - 52)) := by
    have hm : b64.qmax = 971 := by decide +kernel
    refine ⟨by decide, by rw [qmin64]; omega, by rw [hm]; omega, Or.inr (by decide)⟩
  have e := roundRatio_exact good_b64 (A := 2 ^ j) (B := 1) (e := 0) Nat.one_pos f (by
    rw [Nat.mul_one, ← Nat.pow_add, ← Nat.pow_add]; congr 1; omega)
  unfold zm
  rw [l2d_rr h0, hn, e]
  have z : zmag b64 (.fin false (2 ^ 52) ((j : Int) - 52)) = 2 ^ 52 * 2 ^ ((j : Int) - 52 - b64.qmin).toNat := rfl
  rw [z, ← pow_qmin64, ← Nat.pow_add, ← Nat.pow_add]
  congr 1
  rw [qmin64]
  omega
theorem rate_pow {hd md pw : Int64} {j : Nat} (hj : j ≤ 62) (hp : pw.toInt = 2 ^ j) (h0 : 0 ≤ hd.toInt) (h1 : hd.toInt ≤ pw.toInt) (hm : md.toInt = pw.toInt - hd.toInt) : Pos (dmul (fRate hd md) (l2d pw)) ∧ zm (dmul (fRate hd md) (l2d pw)) = zm (l2d hd) := by
  have pp : 0 < pw.toInt := by rw [hp]; exact Int.pow_pos (by decide)
  have lt := pw.toInt_lt
  have es : hd + md = pw := Int64.toInt_inj.mp (by rw [int64_add (by omega) (by omega)]; omega)
  have nz : ¬ pw = 0 := fun z => by rw [z] at pp; exact absurd pp (by decide)
  have ef : fRate hd md = ddiv (l2d hd) (l2d pw) := by unfold fRate; rw [es, if_neg nz]
  rw [ef]
  have hY := l2d_pow hj hp
  have px := l2d_pos h0
  have py := l2d_pos (a := pw) (by omega)
  have q0 := quo_pos h0 h1 pp
  have er := div_rr px py (l2d_ne0 pp)
  have u := one64_pos
  -- the quotient is exact
  have key : zm (ddiv (l2d hd) (l2d pw)) * 2 ^ j = zm (l2d hd) := by
    by_cases z : hd.toInt = 0
    · have hz : hd = 0 := Int64.toInt_inj.mp z
      subst hz
      have k := rr_pos (V := 0) (Nat.pos_of_ne_zero (l2d_ne0 pp)) zero_pos er (by rw [show l2d 0 = 0 from l2d_zero, zm_zero, Nat.zero_mul]; exact Nat.zero_le _)
      rw [zm_zero] at k
      rw [Nat.le_zero.mp k.2, Nat.zero_mul, show l2d 0 = 0 from l2d_zero, zm_zero]
    · obtain ⟨c, q, ex⟩ := px
      have fx := val64_fits (l2d hd)
      have g1 := l2d_ge1 (a := hd) (by omega)
      rw [ex] at fx
      obtain ⟨f1, f2, f3, f4⟩ := fx
      rw [qmin64] at f2 f4
      have zx : zm (l2d hd) = c * 2 ^ (q - b64.qmin).toNat := by unfold zm; rw [ex]; rfl
      -- the exponent isn't small
      have hq : -52 ≤ q := by
        refine Int.not_lt.mp fun hlt => ?_
        have hc : c * 2 ^ (q - b64.qmin).toNat < 2 ^ 53 * 2 ^ (q - b64.qmin).toNat := Nat.mul_lt_mul_of_pos_right f1 (Nat.two_pow_pos _)
        have hle : 2 ^ 53 * 2 ^ (q - b64.qmin).toNat ≤ one64 := by
          rw [← pow_qmin64, ← Nat.pow_add]
          exact Nat.pow_le_pow_right (by decide) (by rw [qmin64]; omega)
        rw [zx] at g1
        exact absurd (Nat.lt_of_lt_of_le hc hle) (Nat.not_lt.mpr g1)
      have fv : FP.Core.fits b64 (.fin false c (q - j)) := ⟨f1, by rw [qmin64]; omega, by omega, Or.inr (f4.resolve_left (by omega))⟩
      have e := roundRatio_exact good_b64 (s := false) (A := zm (l2d hd)) (B := zm (l2d pw)) (e := 0) (Nat.pos_of_ne_zero (l2d_ne0 pp)) fv (by
        rw [zx, hY, ← pow_qmin64]
        have ee : (q - b64.qmin).toNat + (0 - (q - (j : Int))).toNat = j + (-b64.qmin).toNat + (q - (j : Int) - 0).toNat := by rw [qmin64]; omega
        have e2 : 2 ^ (q - b64.qmin).toNat * 2 ^ (0 - (q - (j : Int))).toNat = 2 ^ j * 2 ^ (-b64.qmin).toNat * 2 ^ (q - (j : Int) - 0).toNat := by rw [← Nat.pow_add, ← Nat.pow_add, ← Nat.pow_add, ee]
        generalize 2 ^ (q - b64.qmin).toNat = P1 at *
        generalize 2 ^ (0 - (q - (j : Int))).toNat = P2 at *
        generalize 2 ^ j * 2 ^ (-b64.qmin).toNat = P3 at *
        generalize 2 ^ (q - (j : Int) - 0).toNat = P4 at *
        rw [Nat.mul_assoc, e2, Nat.mul_assoc])
      have zr : zm (ddiv (l2d hd) (l2d pw)) = c * 2 ^ (q - (j : Int) - b64.qmin).toNat := by unfold zm; rw [er, e]; rfl
      rw [zr, zx, Nat.mul_assoc, ← Nat.pow_add]
      congr 2
      rw [qmin64]
      omega
  have em := mul_rr q0.1 py
  rw [hY] at em
  generalize zm (ddiv (l2d hd) (l2d pw)) = R at *
  have eA : R * (2 ^ j * one64) = zm (l2d hd) * one64 := by rw [← Nat.mul_assoc, key]
  rw [eA] at em
  have hB : 0 < one64 * one64 := Nat.mul_pos u u
  have k1 := rr_pos (V := l2d hd) hB (l2d_pos h0) em (Nat.le_of_eq (Nat.mul_assoc ..))
  exact ⟨k1.1, Nat.le_antisymm k1.2 (rr_at (V := l2d hd) hB (l2d_pos h0) em (Nat.le_of_eq (Nat.mul_assoc ..).symm))⟩
theorem rate_scale {h m h' m' : Int64} {k : Nat} (hk : 1 ≤ k ∧ k ≤ 4096) (hh : 0 ≤ h.toInt ∧ h.toInt < 1048576) (hm : 0 ≤ m.toInt ∧ m.toInt < 1048576) (eh : h'.toInt = h.toInt * k) (em : m'.toInt = m.toInt * k) : zm (fRate h m) = zm (fRate h' m') := by
  have bh : h'.toInt ≤ 1048576 * 4096 ∧ 0 ≤ h'.toInt := by
    rw [eh]; exact ⟨Int.mul_le_mul (by omega) (by omega) (by omega) (by decide), Int.mul_nonneg hh.1 (by omega)⟩
  have bm : m'.toInt ≤ 1048576 * 4096 ∧ 0 ≤ m'.toInt := by
    rw [em]; exact ⟨Int.mul_le_mul (by omega) (by omega) (by omega) (by decide), Int.mul_nonneg hm.1 (by omega)⟩
  have s1 := sum_toInt hh.1 hm.1 (by omega)
  have s2 := sum_toInt (h := h') (m := m') bh.2 bm.2 (by omega)
  have n1 := sum_ne hh.1 hm.1 (by omega)
  have n2 := sum_ne (h := h') (m := m') bh.2 bm.2 (by omega)
  have es : h'.toInt + m'.toInt = (h.toInt + m.toInt) * k := by rw [eh, em, Int.add_mul]
  unfold fRate
  by_cases z : h + m = 0
  · have z' : h' + m' = 0 := n2.mpr (by rw [es, n1.mp z, Int.zero_mul])
    rw [if_pos z, if_pos z']
  · have p : 0 < h.toInt + m.toInt := by
      have : ¬ h.toInt + m.toInt = 0 := fun q => z (n1.mpr q)
      omega
    have p' : 0 < h'.toInt + m'.toInt := by rw [es]; exact Int.mul_pos p (by omega)
    have z' : ¬ h' + m' = 0 := fun q => by have := n2.mp q; omega
    rw [if_neg z, if_neg z']
    have r1 := div_rr (l2d_pos hh.1) (l2d_pos (a := h + m) (by omega)) (l2d_ne0 (by omega))
    have r2 := div_rr (l2d_pos bh.2) (l2d_pos (a := h' + m') (by omega)) (l2d_ne0 (by omega))
    have e : roundRatio b64 false (zm (l2d h)) (zm (l2d (h + m))) 0 = roundRatio b64 false (zm (l2d h')) (zm (l2d (h' + m'))) 0 := by
      refine roundRatio_congr (Nat.pos_of_ne_zero (l2d_ne0 (by omega))) (Nat.pos_of_ne_zero (l2d_ne0 (by omega))) ?_
      rw [l2d_exact hh.1 (by omega), l2d_exact bh.2 (by omega), l2d_exact (a := h + m) (by omega) (by omega), l2d_exact (a := h' + m') (by omega) (by omega)]
      have e1 : h'.toInt.toNat = h.toInt.toNat * k := by rw [eh, Int.toNat_mul hh.1 (by omega), Int.toNat_natCast]
      have e2 : (h' + m').toInt.toNat = (h + m).toInt.toNat * k := by rw [s2, es, ← s1, Int.toNat_mul (by omega) (by omega), Int.toNat_natCast]
      rw [e1, e2]
      generalize h.toInt.toNat = a
      generalize (h + m).toInt.toNat = b
      generalize 2 ^ ((0 : Int) - 0).toNat = P
      generalize one64 = U
      ac_rfl
    unfold zm
    rw [show FP.ddiv (FP.l2d h) (FP.l2d (h + m)) = ddiv (l2d h) (l2d (h + m)) from rfl, show FP.ddiv (FP.l2d h') (FP.l2d (h' + m')) = ddiv (l2d h') (l2d (h' + m')) from rfl, r1, r2, e]
/-- a whole number divided by a power of two -/
theorem div_pow {hd pw : Int64} {j : Nat} (hj : j ≤ 62) (hp : pw.toInt = 2 ^ j) (h0 : 0 < hd.toInt) : Pos (ddiv (l2d hd) (l2d pw)) ∧ zm (ddiv (l2d hd) (l2d pw)) * 2 ^ j = zm (l2d hd) := by
  have pp : 0 < pw.toInt := by rw [hp]; exact Int.pow_pos (by decide)
  have hY := l2d_pow hj hp
  have py := l2d_pos (a := pw) (by omega)
  have px := l2d_pos (a := hd) (by omega)
  have er := div_rr px py (l2d_ne0 pp)
  obtain ⟨c, q, ex⟩ := px
  have fx := val64_fits (l2d hd)
  have g1 := l2d_ge1 (a := hd) (by omega)
  rw [ex] at fx
  obtain ⟨f1, f2, f3, f4⟩ := fx
  rw [qmin64] at f2 f4
  have zx : zm (l2d hd) = c * 2 ^ (q - b64.qmin).toNat := by unfold zm; rw [ex]; rfl
  have hq : -52 ≤ q := by
    refine Int.not_lt.mp fun hlt => ?_
    have hc : c * 2 ^ (q - b64.qmin).toNat < 2 ^ 53 * 2 ^ (q - b64.qmin).toNat := Nat.mul_lt_mul_of_pos_right f1 (Nat.two_pow_pos _)
    have hle : 2 ^ 53 * 2 ^ (q - b64.qmin).toNat ≤ one64 := by
      rw [← pow_qmin64, ← Nat.pow_add]
      exact Nat.pow_le_pow_right (by decide) (by rw [qmin64]; omega)
    rw [zx] at g1
    exact absurd (Nat.lt_of_lt_of_le hc hle) (Nat.not_lt.mpr g1)
  have fv : FP.Core.fits b64 (.fin false c (q - j)) := ⟨f1, by rw [qmin64]; omega, by omega, Or.inr (f4.resolve_left (by omega))⟩
  have e := roundRatio_exact good_b64 (s := false) (A := zm (l2d hd)) (B := zm (l2d pw)) (e := 0) (Nat.pos_of_ne_zero (l2d_ne0 pp)) fv (by
    rw [zx, hY, ← pow_qmin64]
    have ee : (q - b64.qmin).toNat + (0 - (q - (j : Int))).toNat = j + (-b64.qmin).toNat + (q - (j : Int) - 0).toNat := by rw [qmin64]; omega
    have e2 : 2 ^ (q - b64.qmin).toNat * 2 ^ (0 - (q - (j : Int))).toNat = 2 ^ j * 2 ^ (-b64.qmin).toNat * 2 ^ (q - (j : Int) - 0).toNat := by rw [← Nat.pow_add, ← Nat.pow_add, ← Nat.pow_add, ee]
    generalize 2 ^ (q - b64.qmin).toNat = P1 at *
    generalize 2 ^ (0 - (q - (j : Int))).toNat = P2 at *
    generalize 2 ^ j * 2 ^ (-b64.qmin).toNat = P3 at *
    generalize 2 ^ (q - (j : Int) - 0).toNat = P4 at *
    rw [Nat.mul_assoc, e2, Nat.mul_assoc])
  have zr : zm (ddiv (l2d hd) (l2d pw)) = c * 2 ^ (q - (j : Int) - b64.qmin).toNat := by unfold zm; rw [er, e]; rfl
  refine ⟨⟨c, q - j, er.trans e⟩, ?_⟩
  rw [zr, zx, Nat.mul_assoc, ← Nat.pow_add]
  congr 2
  rw [qmin64]
  omega
/-- a number between: a / 2^j, for a whole a of at most 53 digits -/
theorem mid_num {a : Int} {j : Nat} (hj : j ≤ 62) (h0 : 0 < a) (h : a ≤ 2 ^ 53) : ∃ V, Pos V ∧ zm V * 2 ^ j = a.toNat * one64 := by
  have e1 : (Int64.ofInt a).toInt = a := Int64.toInt_ofInt_of_le (by omega) (by omega)
  have hb : (2 : Int) ^ j ≤ 2 ^ 62 := by
    have : (2 : Nat) ^ j ≤ 2 ^ 62 := Nat.pow_le_pow_right (by decide) hj
    exact_mod_cast this
  have hp0 : (0 : Int) < 2 ^ j := Int.pow_pos (by decide)
  have e2 : (Int64.ofInt (2 ^ j)).toInt = 2 ^ j := Int64.toInt_ofInt_of_le (by omega) (by omega)
  have d := div_pow (hd := Int64.ofInt a) (pw := Int64.ofInt (2 ^ j)) hj e2 (by omega)
  refine ⟨_, d.1, ?_⟩
  rw [d.2, l2d_exact (by omega) (by omega), e1]
/-- what averageLoadPenalty answers -/
def fPen (s f t : Int64) : UInt64 := if s + f = 0 then 0 else FP.ddiv (FP.l2d t) (FP.l2d (s + f))
section Pen
variable {q n r t : Int64} {K : Nat}
theorem pen_t (hq : 0 ≤ q.toInt) (hn : 1 ≤ n.toInt) (hr : 0 ≤ r.toInt ∧ r.toInt < n.toInt) (ht : t.toInt = q.toInt * n.toInt + r.toInt) (hK : n.toInt ≤ 2 ^ K) (hb : (q.toInt + 1) * 2 ^ K ≤ 2 ^ 53) : 0 ≤ t.toInt ∧ t.toInt < 2 ^ 53 ∧ n.toInt ≤ 2 ^ 53 ∧ q.toInt ≤ 2 ^ 53 - 1 := by
  have h1 : 0 ≤ q.toInt * n.toInt := Int.mul_nonneg hq (by omega)
  have h2 : (q.toInt + 1) * n.toInt ≤ (q.toInt + 1) * 2 ^ K := Int.mul_le_mul_of_nonneg_left hK (by omega)
  have e : (q.toInt + 1) * n.toInt = q.toInt * n.toInt + n.toInt := by rw [Int.add_mul, Int.one_mul]
  have h3 : (q.toInt + 1) * 1 ≤ (q.toInt + 1) * n.toInt := Int.mul_le_mul_of_nonneg_left hn (by omega)
  rw [Int.mul_one] at h3
  generalize q.toInt * n.toInt = P at *
  generalize (q.toInt + 1) * n.toInt = P2 at *
  generalize (q.toInt + 1) * 2 ^ K = P3 at *
  omega
theorem pen_pos (h0 : 0 ≤ t.toInt) (h1 : t.toInt < 2 ^ 53) (hn : 1 ≤ n.toInt) (hn2 : n.toInt ≤ 2 ^ 53) : Pos (ddiv (l2d t) (l2d n)) := by
  have e := div_rr (l2d_pos h0) (l2d_pos (a := n) (by omega)) (l2d_ne0 (by omega))
  refine (rr_pos (V := l2d t) (Nat.pos_of_ne_zero (l2d_ne0 (a := n) (by omega))) (l2d_pos h0) e ?_).1
  exact Nat.mul_le_mul_left _ (l2d_ge1 (by omega))
theorem pen_eq (hq : 0 ≤ q.toInt) (hn : 1 ≤ n.toInt) (ht : t.toInt = q.toInt * n.toInt) (b1 : t.toInt < 2 ^ 53) (b2 : n.toInt ≤ 2 ^ 53) (b3 : q.toInt ≤ 2 ^ 53) : zm (ddiv (l2d t) (l2d n)) = zm (l2d q) := by
  have h0 : 0 ≤ t.toInt := by rw [ht]; exact Int.mul_nonneg hq (by omega)
  have e := div_rr (l2d_pos h0) (l2d_pos (a := n) (by omega)) (l2d_ne0 (by omega))
  have hB := Nat.pos_of_ne_zero (l2d_ne0 (a := n) (by omega))
  have k : zm (l2d t) * one64 = zm (l2d q) * zm (l2d n) := by
    rw [l2d_exact h0 (by omega), l2d_exact hq b3, l2d_exact (a := n) (by omega) b2, ht, Int.toNat_mul hq (by omega)]
    generalize one64 = U
    ac_rfl
  exact Nat.le_antisymm (rr_pos (V := l2d q) hB (l2d_pos hq) e (Nat.le_of_eq k)).2 (rr_at (V := l2d q) hB (l2d_pos hq) e (Nat.le_of_eq k.symm))
theorem pen_lt (hj : K ≤ 62) (hq : 0 ≤ q.toInt) (hn : 1 ≤ n.toInt) (hr : 0 < r.toInt ∧ r.toInt < n.toInt) (ht : t.toInt = q.toInt * n.toInt + r.toInt) (hK : n.toInt ≤ 2 ^ K) (hb : (q.toInt + 1) * 2 ^ K ≤ 2 ^ 53) : zm (l2d q) < zm (ddiv (l2d t) (l2d n)) ∧ zm (ddiv (l2d t) (l2d n)) < (q.toInt.toNat + 1) * one64 := by
  obtain ⟨t0, t1, n1, q1⟩ := pen_t hq hn ⟨Int.le_of_lt hr.1, hr.2⟩ ht hK hb
  have e := div_rr (l2d_pos t0) (l2d_pos (a := n) (by omega)) (l2d_ne0 (by omega))
  have hB := Nat.pos_of_ne_zero (l2d_ne0 (a := n) (by omega))
  have u := one64_pos
  have zt := l2d_exact t0 (by omega)
  have zn := l2d_exact (a := n) (by omega) n1
  have zq := l2d_exact hq (by omega)
  obtain ⟨tn, et⟩ : ∃ k : Nat, t.toInt = k := ⟨t.toInt.toNat, by omega⟩
  obtain ⟨nn, en⟩ : ∃ k : Nat, n.toInt = k := ⟨n.toInt.toNat, by omega⟩
  obtain ⟨qn, eq⟩ : ∃ k : Nat, q.toInt = k := ⟨q.toInt.toNat, by omega⟩
  obtain ⟨rn, er⟩ : ∃ k : Nat, r.toInt = k := ⟨r.toInt.toNat, by omega⟩
  rw [et, Int.toNat_natCast] at zt
  rw [en, Int.toNat_natCast] at zn
  rw [eq, Int.toNat_natCast] at zq
  rw [eq, Int.toNat_natCast]
  have ht' : tn = qn * nn + rn := by rw [et, eq, en, er] at ht; exact_mod_cast ht
  have hK' : nn ≤ 2 ^ K := by rw [en] at hK; exact_mod_cast hK
  have hb' : (qn + 1) * 2 ^ K ≤ 2 ^ 53 := by rw [eq] at hb; exact_mod_cast hb
  have r1 : 1 ≤ rn := by omega
  have r2 : rn < nn := by omega
  have pk : 0 < 2 ^ K := Nat.two_pow_pos K
  have qk : (qn + 1) * 2 ^ K = qn * 2 ^ K + 2 ^ K := by rw [Nat.add_mul, Nat.one_mul]
  rw [qk] at hb'
  have v53 : ((qn * 2 ^ K + 1 : Nat) : Int) ≤ 2 ^ 53 := by
    have : qn * 2 ^ K + 1 ≤ 2 ^ 53 := by omega
    exact_mod_cast this
  have w53 : ((qn * 2 ^ K + (2 ^ K - 1) : Nat) : Int) ≤ 2 ^ 53 := by
    have : qn * 2 ^ K + (2 ^ K - 1) ≤ 2 ^ 53 := by omega
    exact_mod_cast this
  obtain ⟨V, pV, zV⟩ := mid_num (a := ((qn * 2 ^ K + 1 : Nat) : Int)) (j := K) hj (by omega) v53
  obtain ⟨W, pW, zW⟩ := mid_num (a := ((qn * 2 ^ K + (2 ^ K - 1) : Nat) : Int)) (j := K) hj (by omega) w53
  rw [Int.toNat_natCast] at zV zW
  have k1 : zm V ≤ zm (ddiv (l2d t) (l2d n)) := by
    refine rr_at hB pV e ?_
    rw [zt, zn]
    refine Nat.le_of_mul_le_mul_right ?_ pk
    have m : (qn * 2 ^ K + 1) * nn ≤ tn * 2 ^ K := by
      rw [ht', Nat.add_mul, Nat.add_mul, Nat.one_mul]
      have a1 : qn * 2 ^ K * nn = qn * nn * 2 ^ K := by ac_rfl
      have a2 : 1 * 2 ^ K ≤ rn * 2 ^ K := Nat.mul_le_mul_right _ r1
      omega
    calc zm V * (nn * one64) * 2 ^ K = (zm V * 2 ^ K) * nn * one64 := by generalize one64 = U; ac_rfl
      _ = (qn * 2 ^ K + 1) * nn * one64 * one64 := by rw [zV]; generalize one64 = U; ac_rfl
      _ ≤ tn * 2 ^ K * one64 * one64 := Nat.mul_le_mul_right _ (Nat.mul_le_mul_right _ m)
      _ = tn * one64 * one64 * 2 ^ K := by generalize one64 = U; ac_rfl
  have k2 : zm (ddiv (l2d t) (l2d n)) ≤ zm W := by
    refine (rr_pos hB pW e ?_).2
    rw [zt, zn]
    refine Nat.le_of_mul_le_mul_right ?_ pk
    have m : tn * 2 ^ K ≤ (qn * 2 ^ K + (2 ^ K - 1)) * nn := by
      have a0 : (qn * 2 ^ K + (2 ^ K - 1)) * nn = qn * nn * 2 ^ K + (2 ^ K - 1) * nn := by rw [Nat.add_mul]; congr 1; ac_rfl
      have a3 : (2 ^ K - 1) * nn = 2 ^ K * nn - nn := by rw [Nat.sub_mul, Nat.one_mul]
      have a4 : (rn + 1) * 2 ^ K ≤ nn * 2 ^ K := Nat.mul_le_mul_right _ r2
      have a5 : (rn + 1) * 2 ^ K = rn * 2 ^ K + 2 ^ K := by rw [Nat.add_mul, Nat.one_mul]
      have a6 : nn * 2 ^ K = 2 ^ K * nn := Nat.mul_comm ..
      rw [ht', a0, a3, Nat.add_mul]
      omega
    calc tn * one64 * one64 * 2 ^ K = tn * 2 ^ K * one64 * one64 := by generalize one64 = U; ac_rfl
      _ ≤ (qn * 2 ^ K + (2 ^ K - 1)) * nn * one64 * one64 := Nat.mul_le_mul_right _ (Nat.mul_le_mul_right _ m)
      _ = (zm W * 2 ^ K) * nn * one64 := by rw [zW]; generalize one64 = U; ac_rfl
      _ = zm W * (nn * one64) * 2 ^ K := by generalize one64 = U; ac_rfl
  have k3 : qn * one64 < zm V := by
    refine Nat.lt_of_mul_lt_mul_right (a := 2 ^ K) ?_
    rw [zV, Nat.add_mul, Nat.one_mul]
    have : qn * one64 * 2 ^ K = qn * 2 ^ K * one64 := by generalize one64 = U; ac_rfl
    omega
  have k4 : zm W < (qn + 1) * one64 := by
    refine Nat.lt_of_mul_lt_mul_right (a := 2 ^ K) ?_
    rw [zW]
    have a1 : (qn + 1) * one64 * 2 ^ K = (qn * 2 ^ K + 2 ^ K) * one64 := by rw [← qk]; generalize one64 = U; ac_rfl
    rw [a1]
    exact Nat.mul_lt_mul_of_pos_right (by omega) u
  rw [zq]
  exact ⟨Nat.lt_of_lt_of_le k3 k1, Nat.lt_of_le_of_lt k2 k4⟩
end Pen
end Own
open Jvm Jvm.ClassFile Sem Op Lib Jvm.Free Jvm.Stand Jvm.LawKit Jvm.RoadKit Bundle Jvm.Pilot.@@N@@.Jvm.D
section OwnKit
variable {p : Program} {l : Launch} {e : Env} {R : Room} {s : State} {m : MethodId} {args : Array Value} {below : List Frame} {meth : Method} {c : Code} {T : State} {locs : List Loc} {cells slots ck sk : Nat} {S S' t : State} {Q : Option Value → Heap → List Loc → Prop}
/-- from S the run comes to a return of which Q is said -/
def Go (p : Program) (e : Env) (below : List Frame) (s : State) (Q : Option Value → Heap → List Loc → Prop) (ck sk : Nat) (S : State) : Prop :=
  ∃ s₂ o, Steps p.tables e below S s₂ ∧ s₂.status = .running ∧ Ended s₂ below o ∧ ∃ v L, o = .returned v ∧ Q v s₂.heap L ∧ FrameEnd s o s₂ L ck sk
theorem Go.st (h : ∀ t, Steps p.tables e below S' t → Steps p.tables e below S t) (k : Go p e below s Q ck sk S') : Go p e below s Q ck sk S := by
  obtain ⟨s₂, o, h1, r⟩ := k
  exact ⟨s₂, o, h _ h1, r⟩
theorem Go.tr (h : Steps p.tables e below S S') (k : Go p e below s Q ck sk S') : Go p e below s Q ck sk S := Go.st (fun _ q => h.trans q) k
theorem via (h : Steps p.tables e below S' t → Steps p.tables e below S t) (k : Steps p.tables e below S' t) : Steps p.tables e below S t := h k
theorem Go.retW (X : Stand p l e R s m args below meth c T locs cells slots) (hx : p.tables.exec = Jvm.exec) (hlk : meth.locks = false) {pc : Nat} {Ls : Array Slot} {w : Value} {ty : FieldType} {i : Instr} {rest : List Value} (hret : meth.sig.returnType = some ty) (hn : narrow ty w = w)
    (hi : (i = .ireturn ∧ (ty = .int ∨ ty = .boolean ∨ ty = .byte ∨ ty = .char ∨ ty = .short) ∧ ∃ z, w = .int z) ∨ (i = .lreturn ∧ ty = .long ∧ ∃ z, w = .long z) ∨ (i = .dreturn ∧ ty = .double ∧ ∃ z, w = .double z) ∨ (i = .freturn ∧ ty = .float ∧ ∃ z, w = .float z) ∨ (i = .areturn ∧ ty.isReference = true ∧ w.isRef = true))
    (hd : decode c.code pc = .ok (i, 1)) (hQ : Q (some w) T.heap locs) (hc : cells ≤ ck) (hs : slots ≤ sk) : Go p e below s Q ck sk (T.setTop (mkF m pc Ls (w :: rest))) := by
  obtain ⟨fs, hr, hrun, hended, hW, hsame⟩ := X.leave (v := some w) (fun h => by rw [hret] at h; cases h)
  exact ⟨_, _, retOut X hx hret hn hi hd hr, hrun, hended, _, _, rfl, hQ, ⟨_, rfl⟩, hW, hsame.mono hc hs⟩
theorem Go.retI (X : Stand p l e R s m args below meth c T locs cells slots) (hx : p.tables.exec = Jvm.exec) (hlk : meth.locks = false) {pc : Nat} {Ls : Array Slot} {z : Int32} {rest : List Value} (hret : meth.sig.returnType = some .int) (hd : decode c.code pc = .ok (.ireturn, 1)) (hQ : Q (some (.int z)) T.heap locs) (hc : cells ≤ ck) (hs : slots ≤ sk) : Go p e below s Q ck sk (T.setTop (mkF m pc Ls (.int z :: rest))) :=
  Go.retW X hx hlk hret rfl (Or.inl ⟨rfl, Or.inl rfl, _, rfl⟩) hd hQ hc hs
theorem Go.retJ (X : Stand p l e R s m args below meth c T locs cells slots) (hx : p.tables.exec = Jvm.exec) (hlk : meth.locks = false) {pc : Nat} {Ls : Array Slot} {z : Int64} {rest : List Value} (hret : meth.sig.returnType = some .long) (hd : decode c.code pc = .ok (.lreturn, 1)) (hQ : Q (some (.long z)) T.heap locs) (hc : cells ≤ ck) (hs : slots ≤ sk) : Go p e below s Q ck sk (T.setTop (mkF m pc Ls (.long z :: rest))) :=
  Go.retW X hx hlk hret rfl (Or.inr (Or.inl ⟨rfl, rfl, _, rfl⟩)) hd hQ hc hs
theorem Go.retD (X : Stand p l e R s m args below meth c T locs cells slots) (hx : p.tables.exec = Jvm.exec) (hlk : meth.locks = false) {pc : Nat} {Ls : Array Slot} {z : UInt64} {rest : List Value} (hret : meth.sig.returnType = some .double) (hd : decode c.code pc = .ok (.dreturn, 1)) (hQ : Q (some (.double z)) T.heap locs) (hc : cells ≤ ck) (hs : slots ≤ sk) : Go p e below s Q ck sk (T.setTop (mkF m pc Ls (.double z :: rest))) :=
  Go.retW X hx hlk hret rfl (Or.inr (Or.inr (Or.inl ⟨rfl, rfl, _, rfl⟩))) hd hQ hc hs
theorem Go.retA (X : Stand p l e R s m args below meth c T locs cells slots) (hx : p.tables.exec = Jvm.exec) (hlk : meth.locks = false) {pc : Nat} {Ls : Array Slot} {w : Value} {ty : FieldType} {rest : List Value} (hret : meth.sig.returnType = some ty) (ht : ty.isReference = true) (hw : w.isRef = true) (hd : decode c.code pc = .ok (.areturn, 1)) (hQ : Q (some w) T.heap locs) (hc : cells ≤ ck) (hs : slots ≤ sk) : Go p e below s Q ck sk (T.setTop (mkF m pc Ls (w :: rest))) :=
  Go.retW X hx hlk hret (by cases ty <;> first | (cases ht; done) | (cases w <;> first | rfl | cases hw)) (Or.inr (Or.inr (Or.inr (Or.inr ⟨rfl, ht, hw⟩)))) hd hQ hc hs
theorem Go.retN (X : Stand p l e R s m args below meth c T locs cells slots) (hx : p.tables.exec = Jvm.exec) (hlk : meth.locks = false) {pc : Nat} {Ls : Array Slot} {z : Int32} {t : FieldType} {rest : List Value} (hret : meth.sig.returnType = some t) (ht : t = .boolean ∨ t = .byte ∨ t = .char ∨ t = .short) (hd : decode c.code pc = .ok (.ireturn, 1)) (hQ : Q (some (.int (nar t z))) T.heap locs) (hc : cells ≤ ck) (hs : slots ≤ sk) : Go p e below s Q ck sk (T.setTop (mkF m pc Ls (.int z :: rest))) := by
  obtain ⟨fs, hr, hrun, hended, hW, hsame⟩ := X.leave (v := some (.int (nar t z))) (fun h => by rw [hret] at h; cases h)
  exact ⟨_, _, Jvm.RoadKit.retN X hx hret ht hd hr, hrun, hended, _, _, rfl, hQ, ⟨_, rfl⟩, hW, hsame.mono hc hs⟩
theorem Go.ret0 (X : Stand p l e R s m args below meth c T locs cells slots) (hx : p.tables.exec = Jvm.exec) (hlk : meth.locks = false) {pc : Nat} {Ls : Array Slot} (hret : meth.sig.returnType = none) (hd : decode c.code pc = .ok (.return_, 1)) (hQ : Q none T.heap locs) (hc : cells ≤ ck) (hs : slots ≤ sk) : Go p e below s Q ck sk (T.setTop (mkF m pc Ls [])) := by
  obtain ⟨fs, hr, hrun, hended, hW, hsame⟩ := X.leave (v := none) (fun _ => rfl)
  exact ⟨_, _, X.returnOut hx hret hd hr, hrun, hended, _, _, rfl, hQ, ⟨_, rfl⟩, hW, hsame.mono hc hs⟩
/-- what a body leaves that writes nothing -/
def PQ (w : Value) (n0 : Nat) (h0 : Heap) (v : Option Value) (h : Heap) (L : List Loc) : Prop := v = some w ∧ Fr n0 L ∧ h = h0
/-- what the law leaves -/
def LQ (n0 : Nat) (v : Option Value) (h : Heap) (L : List Loc) : Prop := v = some (.int 1) ∧ Fr n0 L
/-- the j-th of a list of ints -/
def bt (bs : List Int32) (j : Int32) : Int32 := bs.getD j.toNatClampNeg 0
theorem own_at {bs : List Int32} {c : Cell} {j : Int32} (H : Has c (bs.map .int) (.int 0)) (hin : ¬ (j < 0 ∨ c.slots.size ≤ j.toNatClampNeg)) : c.slots[j.toNatClampNeg]? = some (.int (bt bs j)) :=
  Has.at H hin (by unfold bt; simp only [List.getD, List.getElem?_map]; cases bs[j.toNatClampNeg]? <;> rfl)
/-- the j-th of a list of longs -/
def bl (bs : List Int64) (j : Int32) : Int64 := bs.getD j.toNatClampNeg 0
theorem own_atL {bs : List Int64} {c : Cell} {j : Int32} (H : Has c (bs.map .long) (.long 0)) (hin : ¬ (j < 0 ∨ c.slots.size ≤ j.toNatClampNeg)) : c.slots[j.toNatClampNeg]? = some (.long (bl bs j)) :=
  Has.at H hin (by unfold bl; simp only [List.getD, List.getElem?_map]; cases bs[j.toNatClampNeg]? <;> rfl)
theorem own_len {t : Term} {a : Addr} {cl : Cell} {n : Int32} (ev : t.eval args s none [] s = some (.ref a)) (ha : s.arrayAt? a = some cl) (h : (Cond.eq (.length t) (.int n)).value args s none s [] = some true) : cl.slots.size < 2 ^ 31 ∧ cl.slots.size.toInt32 = n := by
  by_cases q : cl.slots.size < 2 ^ 31
  · exact ⟨q, gotT (Cond.eq_ints (len_f ev ha q) (Term.int_eval n)) h⟩
  · exfalso
    simp [Cond.value, Term.eval, ev, ha, q] at h
theorem own_size {cl : Cell} {n : Int32} {k : Nat} (q : cl.slots.size < 2 ^ 31 ∧ cl.slots.size.toInt32 = n) (hk : n.toInt = k) : cl.slots.size = k := by
  have h := len_toInt q.1
  rw [q.2, hk] at h
  omega
theorem own_selp {Z : State} {az : Array Value} {y : MethodName} {n : Nat} (hZ : Z.Warmed39 s.vm) (wi : (Cond.instantiable y.cls n).before az Z = true) (wp : (Cond.privateMethod y).before az Z = true) (w : (Cond.instanceMethod y).before az Z = true) (hy : y.cls ≠ "java/lang/invoke/MethodHandle" ∧ y.cls ≠ "java/lang/invoke/VarHandle") : (Cond.selects y.cls y y).before args s = true := by
  obtain ⟨c, k, h1, h2, h3, h4, -⟩ := Cond.instantiable_spec (mvT hZ wi : (Cond.instantiable y.cls n).before args s = true)
  exact selects_self_of_private h1 h2 (Bool.or_eq_false_iff.mp h4).1 (Cond.privateMethod_at (mvP hZ wp (args := #[]))) (mvT hZ w) hy
theorem own_extK {h h' : Heap} (K : Keep h h' []) : Ext h h' := ⟨K.1, fun a c q => K.2.1 a c q (List.not_mem_nil)⟩
theorem own_stak {Z : State} {h h' : Heap} {ws : List Addr} {C n d : String} {v : Value} (K : Keep h h' ws) (hn : ∀ x ∈ ws, ∀ cell : Cell, h[x]? = some cell → cell.vm.isStatics = false) (F : Sta Z h C n d v) : Sta Z h' C n d v := by
  obtain ⟨cf, i, k, f, st, cell, h1, h2, h3, h4, h5, h6, h7⟩ := F
  exact ⟨cf, i, k, f, st, cell, h1, h2, h3, h4, K.2.1 _ _ h5 (fun hm => by have q := hn _ hm _ h5; rw [h6] at q; cases q), h6, h7⟩
end OwnKit

theorem pd_0 : parseMethodDescriptor "(JJJJJJJ)V" = some ⟨[.long, .long, .long, .long, .long, .long, .long], none⟩ := by decide +kernel
theorem pd_1 : parseMethodDescriptor "()V" = some ⟨[], none⟩ := by decide +kernel
theorem pd_2 : parseMethodDescriptor "(JLjava/lang/String;)V" = some ⟨[.long, (.object "java/lang/String")], none⟩ := by decide +kernel
theorem pd_3 : parseMethodDescriptor "()D" = some ⟨[], some .double⟩ := by decide +kernel
section OwnWide
variable {p : Program} {l : Launch} {e : Env} {R : Room} {s : State} {m : MethodId} {args : Array Value} {below : List Frame} {meth : Method} {c : Code} {T : State} {locs : List Loc} {cells slots ck sk : Nat} {S S' t : State} {Q : Option Value → Heap → Vm → List Loc → Prop} {Z : State} {az : Array Value} {h : Heap} {vm0 vm1 : Vm}
/-- from S the run comes to a return of which Q is said; texts may have been booked meanwhile -/
def GoW (p : Program) (e : Env) (below : List Frame) (s : State) (Q : Option Value → Heap → Vm → List Loc → Prop) (ck sk : Nat) (S : State) : Prop :=
  ∃ s₂ o, Steps p.tables e below S s₂ ∧ s₂.status = .running ∧ Ended s₂ below o ∧ ∃ v L, o = .returned v ∧ Q v s₂.heap s₂.vm L ∧ ReturnedEndW s o s₂ L ck sk
theorem GoW.st (h : ∀ t, Steps p.tables e below S' t → Steps p.tables e below S t) (k : GoW p e below s Q ck sk S') : GoW p e below s Q ck sk S := by
  obtain ⟨s₂, o, h1, r⟩ := k
  exact ⟨s₂, o, h _ h1, r⟩
theorem GoW.tr (h : Steps p.tables e below S S') (k : GoW p e below s Q ck sk S') : GoW p e below s Q ck sk S := GoW.st (fun _ q => h.trans q) k
theorem own_endW {t : State} {o : Outcome} {L : List Loc} {k n k' n' : Nat} (h : ReturnedEndW s o t L k n) (hk : k ≤ k') (hn : n ≤ n') : ReturnedEndW s o t L k' n' := ⟨h.1, h.2.1, h.2.2.1, h.2.2.2.mono hk hn⟩
theorem GoW.retW {n : Nat} (X : Stand p l e R (s.setVm vm0) m args below meth c T locs cells slots) (hx : p.tables.exec = Jvm.exec) (hlk : meth.locks = false) (hS : s.Since vm0 n) (hk : n ≤ T.heap.size) {pc : Nat} {Ls : Array Slot} {w : Value} {ty : FieldType} {i : Instr} {rest : List Value} (hret : meth.sig.returnType = some ty) (hn : narrow ty w = w)
    (hi : (i = .ireturn ∧ (ty = .int ∨ ty = .boolean ∨ ty = .byte ∨ ty = .char ∨ ty = .short) ∧ ∃ z, w = .int z) ∨ (i = .lreturn ∧ ty = .long ∧ ∃ z, w = .long z) ∨ (i = .dreturn ∧ ty = .double ∧ ∃ z, w = .double z) ∨ (i = .freturn ∧ ty = .float ∧ ∃ z, w = .float z) ∨ (i = .areturn ∧ ty.isReference = true ∧ w.isRef = true))
    (hd : decode c.code pc = .ok (i, 1)) (hQ : Q (some w) T.heap T.vm locs) (hc : cells ≤ ck) (hs : slots ≤ sk) : GoW p e below s Q ck sk (T.setTop (mkF m pc Ls (w :: rest))) := by
  obtain ⟨fs, hr, hrun, hended, hW⟩ := X.leaveW hS hk (v := some w) (fun h => by rw [hret] at h; cases h)
  exact ⟨_, _, retOut X hx hret hn hi hd hr, hrun, hended, _, _, rfl, hQ, own_endW hW hc hs⟩
theorem GoW.retI {n : Nat} (X : Stand p l e R (s.setVm vm0) m args below meth c T locs cells slots) (hx : p.tables.exec = Jvm.exec) (hlk : meth.locks = false) (hS : s.Since vm0 n) (hk : n ≤ T.heap.size) {pc : Nat} {Ls : Array Slot} {z : Int32} {rest : List Value} (hret : meth.sig.returnType = some .int) (hd : decode c.code pc = .ok (.ireturn, 1)) (hQ : Q (some (.int z)) T.heap T.vm locs) (hc : cells ≤ ck) (hs : slots ≤ sk) : GoW p e below s Q ck sk (T.setTop (mkF m pc Ls (.int z :: rest))) :=
  GoW.retW X hx hlk hS hk hret rfl (Or.inl ⟨rfl, Or.inl rfl, _, rfl⟩) hd hQ hc hs
theorem GoW.retJ {n : Nat} (X : Stand p l e R (s.setVm vm0) m args below meth c T locs cells slots) (hx : p.tables.exec = Jvm.exec) (hlk : meth.locks = false) (hS : s.Since vm0 n) (hk : n ≤ T.heap.size) {pc : Nat} {Ls : Array Slot} {z : Int64} {rest : List Value} (hret : meth.sig.returnType = some .long) (hd : decode c.code pc = .ok (.lreturn, 1)) (hQ : Q (some (.long z)) T.heap T.vm locs) (hc : cells ≤ ck) (hs : slots ≤ sk) : GoW p e below s Q ck sk (T.setTop (mkF m pc Ls (.long z :: rest))) :=
  GoW.retW X hx hlk hS hk hret rfl (Or.inr (Or.inl ⟨rfl, rfl, _, rfl⟩)) hd hQ hc hs
theorem GoW.retD {n : Nat} (X : Stand p l e R (s.setVm vm0) m args below meth c T locs cells slots) (hx : p.tables.exec = Jvm.exec) (hlk : meth.locks = false) (hS : s.Since vm0 n) (hk : n ≤ T.heap.size) {pc : Nat} {Ls : Array Slot} {z : UInt64} {rest : List Value} (hret : meth.sig.returnType = some .double) (hd : decode c.code pc = .ok (.dreturn, 1)) (hQ : Q (some (.double z)) T.heap T.vm locs) (hc : cells ≤ ck) (hs : slots ≤ sk) : GoW p e below s Q ck sk (T.setTop (mkF m pc Ls (.double z :: rest))) :=
  GoW.retW X hx hlk hS hk hret rfl (Or.inr (Or.inr (Or.inl ⟨rfl, rfl, _, rfl⟩))) hd hQ hc hs
theorem GoW.retA {n : Nat} (X : Stand p l e R (s.setVm vm0) m args below meth c T locs cells slots) (hx : p.tables.exec = Jvm.exec) (hlk : meth.locks = false) (hS : s.Since vm0 n) (hk : n ≤ T.heap.size) {pc : Nat} {Ls : Array Slot} {w : Value} {ty : FieldType} {rest : List Value} (hret : meth.sig.returnType = some ty) (ht : ty.isReference = true) (hw : w.isRef = true) (hd : decode c.code pc = .ok (.areturn, 1)) (hQ : Q (some w) T.heap T.vm locs) (hc : cells ≤ ck) (hs : slots ≤ sk) : GoW p e below s Q ck sk (T.setTop (mkF m pc Ls (w :: rest))) :=
  GoW.retW X hx hlk hS hk hret (by cases ty <;> first | (cases ht; done) | (cases w <;> first | rfl | cases hw)) (Or.inr (Or.inr (Or.inr (Or.inr ⟨rfl, ht, hw⟩)))) hd hQ hc hs
theorem GoW.retN {n : Nat} (X : Stand p l e R (s.setVm vm0) m args below meth c T locs cells slots) (hx : p.tables.exec = Jvm.exec) (hlk : meth.locks = false) (hS : s.Since vm0 n) (hk : n ≤ T.heap.size) {pc : Nat} {Ls : Array Slot} {z : Int32} {t : FieldType} {rest : List Value} (hret : meth.sig.returnType = some t) (ht : t = .boolean ∨ t = .byte ∨ t = .char ∨ t = .short) (hd : decode c.code pc = .ok (.ireturn, 1)) (hQ : Q (some (.int (nar t z))) T.heap T.vm locs) (hc : cells ≤ ck) (hs : slots ≤ sk) : GoW p e below s Q ck sk (T.setTop (mkF m pc Ls (.int z :: rest))) := by
  obtain ⟨fs, hr, hrun, hended, hW⟩ := X.leaveW hS hk (v := some (.int (nar t z))) (fun h => by rw [hret] at h; cases h)
  exact ⟨_, _, Jvm.RoadKit.retN X hx hret ht hd hr, hrun, hended, _, _, rfl, hQ, own_endW hW hc hs⟩
theorem GoW.ret0 {n : Nat} (X : Stand p l e R (s.setVm vm0) m args below meth c T locs cells slots) (hx : p.tables.exec = Jvm.exec) (hlk : meth.locks = false) (hS : s.Since vm0 n) (hk : n ≤ T.heap.size) {pc : Nat} {Ls : Array Slot} (hret : meth.sig.returnType = none) (hd : decode c.code pc = .ok (.return_, 1)) (hQ : Q none T.heap T.vm locs) (hc : cells ≤ ck) (hs : slots ≤ sk) : GoW p e below s Q ck sk (T.setTop (mkF m pc Ls [])) := by
  obtain ⟨fs, hr, hrun, hended, hW⟩ := X.leaveW hS hk (v := none) (fun _ => rfl)
  exact ⟨_, _, X.returnOut hx hret hd hr, hrun, hended, _, _, rfl, hQ, own_endW hW hc hs⟩
theorem own_backS {y : MethodName} {bytes : ByteArray} {maxL : Nat} {ret : Option FieldType} {rm : Room} {len W : Nat} {as' : Array Value} {P : Vm → Prop}
    (hM : MetFree l y (head1 [Cond.code y bytes maxL ret] rm) (fun a U => a = as' ∧ Z.Warmed39 U.vm ∧ U.heap = h ∧ P U.vm) (fun _ _ _ _ _ => True) (fun _ U o U' => ∃ v L, o = .returned v ∧ Q v U'.heap U'.vm L ∧ ReturnedEndW U o U' L rm.cells rm.slots))
    (hZ : Z.Warmed39 s.vm) (wc : (Cond.code y bytes maxL ret).before az Z = true) (wz : (Cond.initialized y.cls).before az Z = true) (hf : rm.frames + 1 ≤ R.frames) (hl : W + (maxL + 11) + rm.locals ≤ R.locals) :
    BackS l R p e below s args y len W (fun A a => a = as' ∧ A.U.heap = h ∧ P A.U.vm ∧ A.cells + rm.cells ≤ R.cells ∧ A.slots + rm.slots ≤ R.slots)
      (fun A _ v B => ∃ L, Q v B.U.heap B.U.vm L ∧ B.locs = A.locs ++ L ∧ B.cells = A.cells + rm.cells ∧ B.slots = A.slots + rm.slots) :=
  BackS.of_freeW (bytes := bytes) (maxL := maxL) (ret := ret) (E := fun _ _ o t L k n => k = rm.cells ∧ n = rm.slots ∧ ∃ v, o = .returned v ∧ Q v t.heap t.vm L) hM hf hl
    (fun m meth c A a Y hp => have hU : Z.Warmed39 A.U.vm := wtrans hZ Y.warmed
      ⟨by show (Cond.and _ .tt).before a A.U = true; rw [Cond.before_and, mv hU wc]; rfl, mv hU wc, mv hU wz, hp.2.2.2.1, hp.2.2.2.2⟩)
    (fun m meth c A a g mk Y hp => ⟨hp.1, wtrans hZ Y.warmed, hp.2.1, hp.2.2.1⟩) (fun _ _ _ _ _ _ _ _ _ => trivial)
    (fun _ _ _ _ ⟨v, L, h1, h2, h3⟩ => ⟨L, _, _, h3, rfl, rfl, v, h1, h2⟩)
    (fun m meth c A a g mk v t L k n Y hp _ _ ⟨e1, e2, v', e3, e4⟩ => by cases e3; subst e1 e2; exact ⟨L, e4, rfl, rfl, rfl⟩)
theorem own_ib {Ts : List String} (I : IB Z vm0 Ts) (hw : (s.setVm vm0).WarmedH vm1) : IB Z vm1 Ts := by
  obtain ⟨more, e, r⟩ := I
  exact ⟨more, (hw.interned_eq).trans e, r⟩
/-- the entry of the pool holds the object a -/
def LitV (Z : State) (vm : Vm) (own : String) (index : Nat) (a : Addr) : Prop := Lit (Z.setVm vm) own index a
theorem LitV.stays {own : String} {index : Nat} {a : Addr} (L : LitV Z vm0 own index a) (hw : (s.setVm vm0).Warmed39 vm1) : LitV Z vm1 own index a := Lit.stays (s := s) (vm0 := vm0) L hw
theorem own_frm {n k : Nat} {L : List Loc} (N : Fr n L) (h : k ≤ n) : Fr k L := fun y hy => Nat.le_trans h (N y hy)
theorem own_keepOld {n : Nat} (O : Old Z n h) : ∀ (b : Addr) (cl : Cell), Z.heap[b]? = some cl → h[b]? = some cl := O.2.2
theorem own_sinceM {n n' : Nat} (h : s.Since vm0 n) (q : n ≤ n') : s.Since vm0 n' := ⟨h.1, fun j p hj hp => ⟨(h.2 j p hj hp).1, Nat.lt_of_lt_of_le (h.2 j p hj hp).2 q⟩⟩
theorem own_chat {EL : List (String × Nat)} (hZ : Z.Warmed39 vm0) (hq : (s.setVm vm0).WarmedH vm1) (w : EW Z az EL) (H : CHv Z EL vm0 h) : CHr Z EL vm0 h vm1 h := by
  have q := CHv.later (h' := h) hZ (hW := (show (Wst Z vm0 h).Warmed39 vm1 from hq.wide)) w ⟨Nat.le_refl _, fun _ _ q => q⟩ (Or.inl hq.interned_eq) H
  exact ⟨q.1, Nat.le_refl _, q.2⟩
theorem own_hk {n : Nat} (eT : T.heap = h) (q : n ≤ h.size) : n ≤ T.heap.size := by rw [eT]; exact q
theorem own_extk {h' : Heap} (K : Keep h h' []) : Ext h h' := ⟨K.1, fun a c q => K.2.1 a c q (List.not_mem_nil)⟩
/-- what a law leaves -/
def LQW (n0 : Nat) (v : Option Value) (h : Heap) (vm : Vm) (L : List Loc) : Prop := v = some (.int 1) ∧ Fr n0 L
end OwnWide
theorem own_wS {Z : State} {az : Array Value} (hw : ∀ d ∈ tables_1, d.before az Z = true) : ∀ d ∈ Bundle.stringAtoms, d.before az Z = true := by
  intro d hd
  simp only [Bundle.stringAtoms, Bundle.sN, List.mem_cons, List.not_mem_nil, or_false] at hd
  rcases hd with rfl | rfl | rfl | rfl | rfl | rfl | rfl
  · exact (hw _ (List.mem_of_getElem? (i := 17) rfl))
  · exact (hw _ (List.mem_of_getElem? (i := 18) rfl))
  · exact (hw _ (List.mem_of_getElem? (i := 19) rfl))
  · exact (hw _ (List.mem_of_getElem? (i := 20) rfl))
  · exact (hw _ (List.mem_of_getElem? (i := 21) rfl))
  · exact (hw _ (List.mem_of_getElem? (i := 22) rfl))
  · exact (hw _ (List.mem_of_getElem? (i := 23) rfl))
def Q_rec (h0 : Heap) (n0 : Nat) (v : Option Value) (h : Heap) (L : List Loc) : Prop := v = none ∧ Fr n0 L ∧ h = h0
def PTr (vm : Vm) : Prop := True
theorem d2_0 : decode jdk_30_method_1_code 0 = .ok (.aload_n 0, 1) := by decide +kernel
theorem d2_1 : decode jdk_30_method_1_code 1 = .ok (.invokespecial 1, 3) := by decide +kernel
theorem d2_4 : decode jdk_30_method_1_code 4 = .ok (.return_, 1) := by decide +kernel
theorem pn_0 : plainName "java/lang/Record" = true := by first | (simp [plainName, overriddenIn]; done) | decide +kernel
theorem ef_2 (m : MethodId) (a0 : Addr) : entryFrame m #[(.ref a0)] 1 = mkF m 0 #[.val (.ref a0)] [] := by first | (simp [entryFrame, mkF, argsToLocals, Value.category]; done) | rfl
set_option maxRecDepth 65536 in
set_option maxHeartbeats 4000000 in
theorem rmRec (l : Launch) (Z : State) (az : Array Value) (hw : ∀ d ∈ tables_1, d.before az Z = true) (ws : List Jvm.Cond) (a0 : Addr)  (h0 : Heap) (n0 : Nat) (Z0 : n0 ≤ h0.size)  :
    MetFree l (⟨"java/lang/Record", "<init>", "()V"⟩ : MethodName) (head1 (Jvm.Cond.code (⟨"java/lang/Record", "<init>", "()V"⟩ : MethodName) jdk_30_method_1_code 1 none :: ws) ({ frames := 1, cells := 0, slots := 0, locals := 12 } : Room)) (fun a U => a = #[(.ref a0)] ∧ Z.Warmed39 U.vm ∧ U.heap = h0) (fun _ _ _ _ _ => True) (fun _ U o U' => ∃ v L, o = .returned v ∧ (Q_rec h0 n0) v U'.heap L ∧ FrameEnd U o U' L ({ frames := 1, cells := 0, slots := 0, locals := 12 } : Room).cells ({ frames := 1, cells := 0, slots := 0, locals := 12 } : Room).slots) := by
  refine MetFree.of_bodySF (plainFor_of_name pn_0) hisR ?_
  intro p e s m args below meth c s₁ Bd hml0 hP hK
  obtain ⟨rfl, hZ, hh⟩ := hP
  have hx := Bd.exec
  have hby := Bd.bytes
  have hlk : meth.locks = false := Bd.notSynchronized
  have hml : c.maxLocals = 1 := hml0
  have hown : s.vm.findClass "java/lang/Record" = some m.cls := findClass_of_methodNamed Bd.named
  have hnm := (name_of_methodNamed Bd.named Bd.method).1
  have X0 : Stand p l e ({ frames := 1, cells := 0, slots := 0, locals := 12 } : Room) s m #[(.ref a0)] below meth c s₁ [] 0 0 := Stand.of_body Bd
  have e0 : s₁.heap = h0 := by rw [← hh, Bd.state]; rfl
  have N0 := Fr.nil n0
  show Go p e below s ((Q_rec h0 n0)) ({ frames := 1, cells := 0, slots := 0, locals := 12 } : Room).cells ({ frames := 1, cells := 0, slots := 0, locals := 12 } : Room).slots (s₁.setTop (entryFrame m #[(.ref a0)] 1))
  rw [ef_2 m a0]
  refine Go.st (S' := s₁.setTop (mkF m 1 #[.val (.ref a0)] [(.ref a0)])) (fun _ kk => XS.aloadN X0.here hx rfl (hb hby d2_0) rfl rfl kk) ?_
  obtain ⟨T1, X1, e1, st1⟩ := initO X0 hx hZ hown (hw _ (List.mem_of_getElem? (i := 13) rfl)) (hw _ (List.mem_of_getElem? (i := 14) rfl)) (hw _ (List.mem_of_getElem? (i := 15) rfl)) e0 (g := (mkF m 1 #[.val (.ref a0)] [(.ref a0)])) rfl (by rw [hml]; rfl) rfl (hb hby d2_1) (by decide) (W := 0) (by show 2 * 0 + _ ≤ _; exact Nat.le_of_eq rfl) (by decide)
  refine Go.st (S' := T1.setTop (mkF m 4 #[.val (.ref a0)] [])) st1 ?_
  exact Go.ret0 X1 hx hlk Bd.returns (hb hby d2_4) (⟨rfl, N0, e1⟩) (by decide) (by decide)
theorem d4_0 : decode prog_1_method_4_code 0 = .ok (.lload_n 0, 1) := by decide +kernel
theorem d4_1 : decode prog_1_method_4_code 1 = .ok (.lconst 0, 1) := by decide +kernel
theorem d4_2 : decode prog_1_method_4_code 2 = .ok (.lcmp, 1) := by decide +kernel
theorem d4_3 : decode prog_1_method_4_code 3 = .ok (.ifCond .ge 18, 3) := by decide +kernel
theorem d4_6 : decode prog_1_method_4_code 6 = .ok (.new 42, 3) := by decide +kernel
theorem d4_9 : decode prog_1_method_4_code 9 = .ok (.dup, 1) := by decide +kernel
theorem d4_10 : decode prog_1_method_4_code 10 = .ok (.aload_n 2, 1) := by decide +kernel
theorem d4_11 : decode prog_1_method_4_code 11 = .ok (.lload_n 0, 1) := by decide +kernel
theorem d4_12 : decode prog_1_method_4_code 12 = .ok (.invokedynamic 44, 5) := by decide +kernel
theorem d4_17 : decode prog_1_method_4_code 17 = .ok (.invokespecial 48, 3) := by decide +kernel
theorem d4_20 : decode prog_1_method_4_code 20 = .ok (.athrow, 1) := by decide +kernel
theorem d4_21 : decode prog_1_method_4_code 21 = .ok (.return_, 1) := by decide +kernel
theorem pn_1 : plainName "com/example/larder/larder/CacheStats" = true := by first | (simp [plainName, overriddenIn]; done) | decide +kernel
theorem ef_4 (m : MethodId) (q0 : Int64) (a1 : Addr) : entryFrame m #[(.long q0), (.ref a1)] 3 = mkF m 0 #[.val (.long q0), .second, .val (.ref a1)] [] := by first | (simp [entryFrame, mkF, argsToLocals, Value.category]; done) | rfl
set_option maxRecDepth 65536 in
set_option maxHeartbeats 4000000 in
theorem rmNN (l : Launch) (Z : State) (az : Array Value) (hw : ∀ d ∈ tables_1, d.before az Z = true) (ws : List Jvm.Cond) (q0 : Int64) (a1 : Addr)  (h0 : Heap) (n0 : Nat) (Z0 : n0 ≤ h0.size) (hn : ¬ q0 < (0 : Int64)) :
    MetFree l (⟨"com/example/larder/larder/CacheStats", "requireNonNegative", "(JLjava/lang/String;)V"⟩ : MethodName) (head1 (Jvm.Cond.code (⟨"com/example/larder/larder/CacheStats", "requireNonNegative", "(JLjava/lang/String;)V"⟩ : MethodName) prog_1_method_4_code 3 none :: ws) ({ frames := 0, cells := 0, slots := 0, locals := 0 } : Room)) (fun a U => a = #[(.long q0), (.ref a1)] ∧ Z.Warmed39 U.vm ∧ U.heap = h0) (fun _ _ _ _ _ => True) (fun _ U o U' => ∃ v L, o = .returned v ∧ (Q_rec h0 n0) v U'.heap L ∧ FrameEnd U o U' L ({ frames := 0, cells := 0, slots := 0, locals := 0 } : Room).cells ({ frames := 0, cells := 0, slots := 0, locals := 0 } : Room).slots) := by
  refine MetFree.of_bodySF (plainFor_of_name pn_1) hisR ?_
  intro p e s m args below meth c s₁ Bd hml0 hP hK
  obtain ⟨rfl, hZ, hh⟩ := hP
  have hx := Bd.exec
  have hby := Bd.bytes
  have hlk : meth.locks = false := Bd.notSynchronized
  have hml : c.maxLocals = 3 := hml0
  have hown : s.vm.findClass "com/example/larder/larder/CacheStats" = some m.cls := findClass_of_methodNamed Bd.named
  have hnm := (name_of_methodNamed Bd.named Bd.method).1
  have X0 : Stand p l e ({ frames := 0, cells := 0, slots := 0, locals := 0 } : Room) s m #[(.long q0), (.ref a1)] below meth c s₁ [] 0 0 := Stand.of_body Bd
  have e0 : s₁.heap = h0 := by rw [← hh, Bd.state]; rfl
  have N0 := Fr.nil n0
  show Go p e below s ((Q_rec h0 n0)) ({ frames := 0, cells := 0, slots := 0, locals := 0 } : Room).cells ({ frames := 0, cells := 0, slots := 0, locals := 0 } : Room).slots (s₁.setTop (entryFrame m #[(.long q0), (.ref a1)] 3))
  rw [ef_4 m q0 a1]
  refine Go.st (S' := s₁.setTop (mkF m 1 #[.val (.long q0), .second, .val (.ref a1)] [(.long q0)])) (fun _ kk => XS.lloadN X0.here hx rfl (hb hby d4_0) rfl kk) ?_
  refine Go.st (S' := s₁.setTop (mkF m 2 #[.val (.long q0), .second, .val (.ref a1)] [(.long (0 : Int64)), (.long q0)])) (fun _ kk => XS.lconst X0.here hx rfl (hb hby d4_1) kk) ?_
  refine Go.st (S' := s₁.setTop (mkF m 3 #[.val (.long q0), .second, .val (.ref a1)] [(.int (lcmpW q0 (0 : Int64)))])) (fun _ kk => XS.lcmp X0.here hx rfl (hb hby d4_2) rfl kk) ?_
  refine Go.st (S' := s₁.setTop (mkF m 21 #[.val (.long q0), .second, .val (.ref a1)] [])) (fun _ kk => XS.ifYes X0.here hx rfl (pc0 := 3) (pc' := 21) rfl (hb hby d4_3) rfl ((if0 _ _).trans (flt (fun q => hn ((lw_lt q0 (0 : Int64)).mp q))).2.1) (by decide) (by decide) kk) ?_
  exact Go.ret0 X0 hx hlk Bd.returns (hb hby d4_21) (⟨rfl, N0, e0⟩) (by decide) (by decide)
def Lts (Z : State) (vm : Vm) : Prop := ∃ (t_0 t_1 t_2 t_3 t_4 t_5 t_6 : Addr), LitV Z vm "com/example/larder/larder/CacheStats" 7 t_0 ∧ LitV Z vm "com/example/larder/larder/CacheStats" 15 t_1 ∧ LitV Z vm "com/example/larder/larder/CacheStats" 17 t_2 ∧ LitV Z vm "com/example/larder/larder/CacheStats" 19 t_3 ∧ LitV Z vm "com/example/larder/larder/CacheStats" 21 t_4 ∧ LitV Z vm "com/example/larder/larder/CacheStats" 23 t_5 ∧ LitV Z vm "com/example/larder/larder/CacheStats" 25 t_6
theorem own_lts {Z s : State} {vm0 vm1 : Vm} (L : Lts Z vm0) (hW : (s.setVm vm0).Warmed39 vm1) : Lts Z vm1 := by
  obtain ⟨t_0, t_1, t_2, t_3, t_4, t_5, t_6, L_0, L_1, L_2, L_3, L_4, L_5, L_6⟩ := L
  exact ⟨t_0, t_1, t_2, t_3, t_4, t_5, t_6, LitV.stays (s := s) L_0 hW, LitV.stays (s := s) L_1 hW, LitV.stays (s := s) L_2 hW, LitV.stays (s := s) L_3 hW, LitV.stays (s := s) L_4 hW, LitV.stays (s := s) L_5 hW, LitV.stays (s := s) L_6 hW⟩
def Q_cs (Z : State) (a0 : Addr) (q1 q2 q3 q4 q5 q6 q7 : Int64) (h0 : Heap) (n0 : Nat) (v : Option Value) (h : Heap) (vm : Vm) (L : List Loc) : Prop := v = none ∧ Fr n0 L ∧ Keep h0 h [a0] ∧ Exa Z h a0 "com/example/larder/larder/CacheStats" ∧ Fld Z h a0 "com/example/larder/larder/CacheStats" "hitCount" "J" (.long q1) ∧ Fld Z h a0 "com/example/larder/larder/CacheStats" "missCount" "J" (.long q2) ∧ Fld Z h a0 "com/example/larder/larder/CacheStats" "loadSuccessCount" "J" (.long q3) ∧ Fld Z h a0 "com/example/larder/larder/CacheStats" "loadFailureCount" "J" (.long q4) ∧ Fld Z h a0 "com/example/larder/larder/CacheStats" "totalLoadTime" "J" (.long q5) ∧ Fld Z h a0 "com/example/larder/larder/CacheStats" "evictionCount" "J" (.long q6) ∧ Fld Z h a0 "com/example/larder/larder/CacheStats" "evictionWeight" "J" (.long q7) ∧ Lts Z vm
theorem d1_0 : decode prog_1_method_1_code 0 = .ok (.aload_n 0, 1) := by decide +kernel
theorem d1_1 : decode prog_1_method_1_code 1 = .ok (.invokespecial 1, 3) := by decide +kernel
theorem d1_4 : decode prog_1_method_1_code 4 = .ok (.lload_n 1, 1) := by decide +kernel
theorem d1_5 : decode prog_1_method_1_code 5 = .ok (.ldc 7, 2) := by decide +kernel
theorem d1_7 : decode prog_1_method_1_code 7 = .ok (.invokestatic 9, 3) := by decide +kernel
theorem d1_10 : decode prog_1_method_1_code 10 = .ok (.lload_n 3, 1) := by decide +kernel
theorem d1_11 : decode prog_1_method_1_code 11 = .ok (.ldc 15, 2) := by decide +kernel
theorem d1_13 : decode prog_1_method_1_code 13 = .ok (.invokestatic 9, 3) := by decide +kernel
theorem d1_16 : decode prog_1_method_1_code 16 = .ok (.lload 5, 2) := by decide +kernel
theorem d1_18 : decode prog_1_method_1_code 18 = .ok (.ldc 17, 2) := by decide +kernel
theorem d1_20 : decode prog_1_method_1_code 20 = .ok (.invokestatic 9, 3) := by decide +kernel
theorem d1_23 : decode prog_1_method_1_code 23 = .ok (.lload 7, 2) := by decide +kernel
theorem d1_25 : decode prog_1_method_1_code 25 = .ok (.ldc 19, 2) := by decide +kernel
theorem d1_27 : decode prog_1_method_1_code 27 = .ok (.invokestatic 9, 3) := by decide +kernel
theorem d1_30 : decode prog_1_method_1_code 30 = .ok (.lload 9, 2) := by decide +kernel
theorem d1_32 : decode prog_1_method_1_code 32 = .ok (.ldc 21, 2) := by decide +kernel
theorem d1_34 : decode prog_1_method_1_code 34 = .ok (.invokestatic 9, 3) := by decide +kernel
theorem d1_37 : decode prog_1_method_1_code 37 = .ok (.lload 11, 2) := by decide +kernel
theorem d1_39 : decode prog_1_method_1_code 39 = .ok (.ldc 23, 2) := by decide +kernel
theorem d1_41 : decode prog_1_method_1_code 41 = .ok (.invokestatic 9, 3) := by decide +kernel
theorem d1_44 : decode prog_1_method_1_code 44 = .ok (.lload 13, 2) := by decide +kernel
theorem d1_46 : decode prog_1_method_1_code 46 = .ok (.ldc 25, 2) := by decide +kernel
theorem d1_48 : decode prog_1_method_1_code 48 = .ok (.invokestatic 9, 3) := by decide +kernel
theorem d1_51 : decode prog_1_method_1_code 51 = .ok (.aload_n 0, 1) := by decide +kernel
theorem d1_52 : decode prog_1_method_1_code 52 = .ok (.lload_n 1, 1) := by decide +kernel
theorem d1_53 : decode prog_1_method_1_code 53 = .ok (.putfield 27, 3) := by decide +kernel
theorem d1_56 : decode prog_1_method_1_code 56 = .ok (.aload_n 0, 1) := by decide +kernel
theorem d1_57 : decode prog_1_method_1_code 57 = .ok (.lload_n 3, 1) := by decide +kernel
theorem d1_58 : decode prog_1_method_1_code 58 = .ok (.putfield 30, 3) := by decide +kernel
theorem d1_61 : decode prog_1_method_1_code 61 = .ok (.aload_n 0, 1) := by decide +kernel
theorem d1_62 : decode prog_1_method_1_code 62 = .ok (.lload 5, 2) := by decide +kernel
theorem d1_64 : decode prog_1_method_1_code 64 = .ok (.putfield 32, 3) := by decide +kernel
theorem d1_67 : decode prog_1_method_1_code 67 = .ok (.aload_n 0, 1) := by decide +kernel
theorem d1_68 : decode prog_1_method_1_code 68 = .ok (.lload 7, 2) := by decide +kernel
theorem d1_70 : decode prog_1_method_1_code 70 = .ok (.putfield 34, 3) := by decide +kernel
theorem d1_73 : decode prog_1_method_1_code 73 = .ok (.aload_n 0, 1) := by decide +kernel
theorem d1_74 : decode prog_1_method_1_code 74 = .ok (.lload 9, 2) := by decide +kernel
theorem d1_76 : decode prog_1_method_1_code 76 = .ok (.putfield 36, 3) := by decide +kernel
theorem d1_79 : decode prog_1_method_1_code 79 = .ok (.aload_n 0, 1) := by decide +kernel
theorem d1_80 : decode prog_1_method_1_code 80 = .ok (.lload 11, 2) := by decide +kernel
theorem d1_82 : decode prog_1_method_1_code 82 = .ok (.putfield 38, 3) := by decide +kernel
theorem d1_85 : decode prog_1_method_1_code 85 = .ok (.aload_n 0, 1) := by decide +kernel
theorem d1_86 : decode prog_1_method_1_code 86 = .ok (.lload 13, 2) := by decide +kernel
theorem d1_88 : decode prog_1_method_1_code 88 = .ok (.putfield 40, 3) := by decide +kernel
theorem d1_91 : decode prog_1_method_1_code 91 = .ok (.return_, 1) := by decide +kernel
theorem ef_1 (m : MethodId) (a0 : Addr) (q1 : Int64) (q2 : Int64) (q3 : Int64) (q4 : Int64) (q5 : Int64) (q6 : Int64) (q7 : Int64) : entryFrame m #[(.ref a0), (.long q1), (.long q2), (.long q3), (.long q4), (.long q5), (.long q6), (.long q7)] 15 = mkF m 0 #[.val (.ref a0), .val (.long q1), .second, .val (.long q2), .second, .val (.long q3), .second, .val (.long q4), .second, .val (.long q5), .second, .val (.long q6), .second, .val (.long q7), .second] [] := by first | (simp [entryFrame, mkF, argsToLocals, Value.category]; done) | rfl
set_option maxRecDepth 65536 in
set_option maxHeartbeats 4000000 in
theorem rmCsc (l : Launch) (Z : State) (az : Array Value) (hw : ∀ d ∈ tables_1, d.before az Z = true) (ws : List Jvm.Cond) (a0 : Addr) (q1 : Int64) (q2 : Int64) (q3 : Int64) (q4 : Int64) (q5 : Int64) (q6 : Int64) (q7 : Int64)  (h0 : Heap) (n0 : Nat) (Z0 : n0 ≤ h0.size) (E_a0 : Exa Z h0 a0 "com/example/larder/larder/CacheStats") (g_a0 : n0 ≤ a0) (F_hitCount : Fld Z h0 a0 "com/example/larder/larder/CacheStats" "hitCount" "J" (.long 0)) (F_missCount : Fld Z h0 a0 "com/example/larder/larder/CacheStats" "missCount" "J" (.long 0)) (F_loadSuccessCount : Fld Z h0 a0 "com/example/larder/larder/CacheStats" "loadSuccessCount" "J" (.long 0)) (F_loadFailureCount : Fld Z h0 a0 "com/example/larder/larder/CacheStats" "loadFailureCount" "J" (.long 0)) (F_totalLoadTime : Fld Z h0 a0 "com/example/larder/larder/CacheStats" "totalLoadTime" "J" (.long 0)) (F_evictionCount : Fld Z h0 a0 "com/example/larder/larder/CacheStats" "evictionCount" "J" (.long 0)) (F_evictionWeight : Fld Z h0 a0 "com/example/larder/larder/CacheStats" "evictionWeight" "J" (.long 0)) (hn0 : ¬ q1 < (0 : Int64)) (hn1 : ¬ q2 < (0 : Int64)) (hn2 : ¬ q3 < (0 : Int64)) (hn3 : ¬ q4 < (0 : Int64)) (hn4 : ¬ q5 < (0 : Int64)) (hn5 : ¬ q6 < (0 : Int64)) (hn6 : ¬ q7 < (0 : Int64)) :
    MetFree l (⟨"com/example/larder/larder/CacheStats", "<init>", "(JJJJJJJ)V"⟩ : MethodName) (head1 (Jvm.Cond.code (⟨"com/example/larder/larder/CacheStats", "<init>", "(JJJJJJJ)V"⟩ : MethodName) prog_1_method_1_code 15 none :: ws) ({ frames := 2, cells := 14, slots := 384, locals := 25 } : Room)) (fun a U => a = #[(.ref a0), (.long q1), (.long q2), (.long q3), (.long q4), (.long q5), (.long q6), (.long q7)] ∧ Z.Warmed39 U.vm ∧ U.heap = h0 ∧ PTr U.vm) (fun _ _ _ _ _ => True) (fun _ U o U' => ∃ v L, o = .returned v ∧ (Q_cs Z a0 q1 q2 q3 q4 q5 q6 q7 h0 n0) v U'.heap U'.vm L ∧ ReturnedEndW U o U' L ({ frames := 2, cells := 14, slots := 384, locals := 25 } : Room).cells ({ frames := 2, cells := 14, slots := 384, locals := 25 } : Room).slots) := by
  refine MetFree.of_bodySF (plainFor_of_name pn_1) hisR ?_
  intro p e s m args below meth c s₁ Bd hml0 hP hK
  obtain ⟨rfl, hZ, hh, hPv⟩ := hP
  have hx := Bd.exec
  have hby := Bd.bytes
  have hlk : meth.locks = false := Bd.notSynchronized
  have hml : c.maxLocals = 15 := hml0
  have hown : s.vm.findClass "com/example/larder/larder/CacheStats" = some m.cls := findClass_of_methodNamed Bd.named
  have hnm := (name_of_methodNamed Bd.named Bd.method).1
  have X0 : Stand p l e ({ frames := 2, cells := 14, slots := 384, locals := 25 } : Room) s m #[(.ref a0), (.long q1), (.long q2), (.long q3), (.long q4), (.long q5), (.long q6), (.long q7)] below meth c s₁ [] 0 0 := Stand.of_body Bd
  have X0 : Stand p l e ({ frames := 2, cells := 14, slots := 384, locals := 25 } : Room) (s.setVm s.vm) m #[(.ref a0), (.long q1), (.long q2), (.long q3), (.long q4), (.long q5), (.long q6), (.long q7)] below meth c s₁ [] 0 0 := X0
  have e0 : s₁.heap = h0 := by rw [← hh, Bd.state]; rfl
  have hS : s.Since s.vm n0 := (State.WarmedH.refl s).since n0
  have hk : n0 ≤ h0.size := Z0
  have N0 := Fr.nil n0
  show GoW p e below s ((Q_cs Z a0 q1 q2 q3 q4 q5 q6 q7 h0 n0)) ({ frames := 2, cells := 14, slots := 384, locals := 25 } : Room).cells ({ frames := 2, cells := 14, slots := 384, locals := 25 } : Room).slots (s₁.setTop (entryFrame m #[(.ref a0), (.long q1), (.long q2), (.long q3), (.long q4), (.long q5), (.long q6), (.long q7)] 15))
  rw [ef_1 m a0 q1 q2 q3 q4 q5 q6 q7]
  refine GoW.st (S' := s₁.setTop (mkF m 1 #[.val (.ref a0), .val (.long q1), .second, .val (.long q2), .second, .val (.long q3), .second, .val (.long q4), .second, .val (.long q5), .second, .val (.long q6), .second, .val (.long q7), .second] [(.ref a0)])) (fun _ kk => XS.aloadN X0.here hx rfl (hb hby d1_0) rfl rfl kk) ?_
  obtain ⟨_, _, ⟨T1, L1, k1, n1⟩, -, X1, ⟨Lc1, hQ1, l1, y1, z1⟩, st1⟩ := X0.specialBack hx (y := (⟨"java/lang/Record", "<init>", "()V"⟩ : MethodName)) rfl hown (mvT hZ (hw _ (List.mem_of_getElem? (i := 8) rfl))) (mvT hZ (hw _ (List.mem_of_getElem? (i := 9) rfl))) (mvT hZ (hw _ (List.mem_of_getElem? (i := 12) rfl))) (by decide) (backOf (W := 0) (rmRec l Z az hw [] a0 h0 n0 Z0) hZ (hw _ (List.mem_of_getElem? (i := 12) rfl)) (hw _ (List.mem_of_getElem? (i := 11) rfl)) (by decide) (by decide)) (g := (mkF m 1 #[.val (.ref a0), .val (.long q1), .second, .val (.long q2), .second, .val (.long q3), .second, .val (.long q4), .second, .val (.long q5), .second, .val (.long q6), .second, .val (.long q7), .second] [(.ref a0)])) rfl (by rw [hml]; rfl) (Steps.refl _) (a := a0) (argsL := []) (rest := []) (lenOf pd_1 rfl) rfl (by show 2 * 0 + _ ≤ _; exact Nat.le_of_eq rfl) (hb hby d1_1) (fun _ _ => ⟨rfl, e0, (by decide : 0 + 0 ≤ _), (by decide : 0 + 0 ≤ _)⟩)
  dsimp only [Pt.U, Pt.locs, Pt.cells, Pt.slots] at X1 l1 y1 z1 st1 hQ1
  rw [l1, y1, z1] at X1
  obtain ⟨rfl, N1q, e1⟩ := hQ1
  have N1 := Fr.app N0 N1q
  refine GoW.tr (S' := T1.setTop (mkF m 4 #[.val (.ref a0), .val (.long q1), .second, .val (.long q2), .second, .val (.long q3), .second, .val (.long q4), .second, .val (.long q5), .second, .val (.long q6), .second, .val (.long q7), .second] [])) st1 ?_
  refine GoW.st (S' := T1.setTop (mkF m 5 #[.val (.ref a0), .val (.long q1), .second, .val (.long q2), .second, .val (.long q3), .second, .val (.long q4), .second, .val (.long q5), .second, .val (.long q6), .second, .val (.long q7), .second] [(.long q1)])) (fun _ kk => XS.lloadN X1.here hx rfl (hb hby d1_4) rfl kk) ?_
  obtain ⟨b2, T2, h2, k2, X2, e2, E2, hS2, hk2, hZ2, ho2, -, Li_b2, st2⟩ := ldcOH (s := s.setVm s.vm) (vm0 := s.vm) (EL := []) X1 hx hZ hown (hw _ (List.mem_of_getElem? (i := 16) rfl)) (own_wS hw) e1 ((State.WarmedH.refl _).since _) (Nat.le_refl _) EW.nil (fun _ hp => nomatch hp) (g := (mkF m 5 #[.val (.ref a0), .val (.long q1), .second, .val (.long q2), .second, .val (.long q3), .second, .val (.long q4), .second, .val (.long q5), .second, .val (.long q6), .second, .val (.long q7), .second] [(.long q1)])) rfl (hb hby d1_5) (n := 32) (by decide) (by decide) (by decide : 0 + 2 ≤ _) (by decide : 0 + 36 ≤ _)
  have X2 : Stand p l e _ (s.setVm T2.vm) m _ below meth c T2 _ _ _ := X2
  have Li_b2 : LitV Z T2.vm "com/example/larder/larder/CacheStats" 7 b2 := Li_b2
  have E_a0 := E_a0.ext E2
  have F_hitCount := F_hitCount.ext E2
  have F_missCount := F_missCount.ext E2
  have F_loadSuccessCount := F_loadSuccessCount.ext E2
  have F_loadFailureCount := F_loadFailureCount.ext E2
  have F_totalLoadTime := F_totalLoadTime.ext E2
  have F_evictionCount := F_evictionCount.ext E2
  have F_evictionWeight := F_evictionWeight.ext E2
  have Zs3 := Nat.le_trans Z0 E2.1
  have hk := Nat.le_trans hk E2.1
  have Kp4 := (Keep.refl h0 [a0]).ext E2
  have hS := hS.trans (own_sinceM hS2 hk2) hk
  have hk := Nat.le_refl h2.size
  have hZ := hZ2
  have hown := ho2
  refine GoW.st (S' := T2.setTop (mkF m 7 #[.val (.ref a0), .val (.long q1), .second, .val (.long q2), .second, .val (.long q3), .second, .val (.long q4), .second, .val (.long q5), .second, .val (.long q6), .second, .val (.long q7), .second] [(.ref b2), (.long q1)])) st2 ?_
  obtain ⟨_, _, ⟨T5, L5, k5, n5⟩, -, X5, ⟨Lc5, hQ5, l5, y5, z5⟩, st5⟩ := Jvm.LawKit.callS X2 hx (y := (⟨"com/example/larder/larder/CacheStats", "requireNonNegative", "(JLjava/lang/String;)V"⟩ : MethodName)) hown (mvT hZ (hw _ (List.mem_of_getElem? (i := 24) rfl))) (mvT hZ (hw _ (List.mem_of_getElem? (i := 25) rfl))) (mvT hZ (hw _ (List.mem_of_getElem? (i := 4) rfl))) (mvT hZ (hw _ (List.mem_of_getElem? (i := 26) rfl))) (by decide) (backOf (W := 0) (rmNN l Z az hw [] q1 b2 h2 n0 Zs3 hn0) hZ (hw _ (List.mem_of_getElem? (i := 26) rfl)) (hw _ (List.mem_of_getElem? (i := 4) rfl)) (by decide) (by decide)) (g := (mkF m 7 #[.val (.ref a0), .val (.long q1), .second, .val (.long q2), .second, .val (.long q3), .second, .val (.long q4), .second, .val (.long q5), .second, .val (.long q6), .second, .val (.long q7), .second] [(.ref b2), (.long q1)])) rfl (by rw [hml]; rfl) (argsL := [(.long q1), (.ref b2)]) (rest := []) (lenOf pd_2 rfl) rfl (by show 2 * 0 + _ ≤ _; exact Nat.le_of_eq rfl) (hb hby d1_7) (fun _ _ => ⟨rfl, e2, (by decide : 2 + 0 ≤ _), (by decide : 36 + 0 ≤ _)⟩)
  dsimp only [Pt.U, Pt.locs, Pt.cells, Pt.slots] at X5 l5 y5 z5 st5 hQ5
  rw [l5, y5, z5] at X5
  obtain ⟨rfl, N5q, e5⟩ := hQ5
  have N5 := Fr.app N1 N5q
  refine GoW.st (S' := T5.setTop (mkF m 10 #[.val (.ref a0), .val (.long q1), .second, .val (.long q2), .second, .val (.long q3), .second, .val (.long q4), .second, .val (.long q5), .second, .val (.long q6), .second, .val (.long q7), .second] [])) st5 ?_
  refine GoW.st (S' := T5.setTop (mkF m 11 #[.val (.ref a0), .val (.long q1), .second, .val (.long q2), .second, .val (.long q3), .second, .val (.long q4), .second, .val (.long q5), .second, .val (.long q6), .second, .val (.long q7), .second] [(.long q2)])) (fun _ kk => XS.lloadN X5.here hx rfl (hb hby d1_10) rfl kk) ?_
  obtain ⟨b6, T6, h6, k6, X6, e6, E6, hS6, hk6, hZ6, ho6, -, Li_b6, st6⟩ := ldcOH (s := s.setVm T2.vm) (vm0 := T2.vm) (EL := []) X5 hx hZ hown (hw _ (List.mem_of_getElem? (i := 27) rfl)) (own_wS hw) e5 ((State.WarmedH.refl _).since _) (Nat.le_refl _) EW.nil (fun _ hp => nomatch hp) (g := (mkF m 11 #[.val (.ref a0), .val (.long q1), .second, .val (.long q2), .second, .val (.long q3), .second, .val (.long q4), .second, .val (.long q5), .second, .val (.long q6), .second, .val (.long q7), .second] [(.long q2)])) rfl (hb hby d1_11) (n := 36) (by decide) (by decide) (by decide : 2 + 2 ≤ _) (by decide : 36 + 40 ≤ _)
  have X6 : Stand p l e _ (s.setVm T6.vm) m _ below meth c T6 _ _ _ := X6
  have Li_b2 := LitV.stays (s := s) Li_b2 hS6.1
  have Li_b6 : LitV Z T6.vm "com/example/larder/larder/CacheStats" 15 b6 := Li_b6
  have E_a0 := E_a0.ext E6
  have F_hitCount := F_hitCount.ext E6
  have F_missCount := F_missCount.ext E6
  have F_loadSuccessCount := F_loadSuccessCount.ext E6
  have F_loadFailureCount := F_loadFailureCount.ext E6
  have F_totalLoadTime := F_totalLoadTime.ext E6
  have F_evictionCount := F_evictionCount.ext E6
  have F_evictionWeight := F_evictionWeight.ext E6
  have Zs7 := Nat.le_trans Zs3 E6.1
  have hk := Nat.le_trans hk E6.1
  have Kp8 := Kp4.ext E6
  have hS := hS.trans (own_sinceM hS6 hk6) hk
  have hk := Nat.le_refl h6.size
  have hZ := hZ6
  have hown := ho6
  refine GoW.st (S' := T6.setTop (mkF m 13 #[.val (.ref a0), .val (.long q1), .second, .val (.long q2), .second, .val (.long q3), .second, .val (.long q4), .second, .val (.long q5), .second, .val (.long q6), .second, .val (.long q7), .second] [(.ref b6), (.long q2)])) st6 ?_
  obtain ⟨_, _, ⟨T9, L9, k9, n9⟩, -, X9, ⟨Lc9, hQ9, l9, y9, z9⟩, st9⟩ := Jvm.LawKit.callS X6 hx (y := (⟨"com/example/larder/larder/CacheStats", "requireNonNegative", "(JLjava/lang/String;)V"⟩ : MethodName)) hown (mvT hZ (hw _ (List.mem_of_getElem? (i := 24) rfl))) (mvT hZ (hw _ (List.mem_of_getElem? (i := 25) rfl))) (mvT hZ (hw _ (List.mem_of_getElem? (i := 4) rfl))) (mvT hZ (hw _ (List.mem_of_getElem? (i := 26) rfl))) (by decide) (backOf (W := 0) (rmNN l Z az hw [] q2 b6 h6 n0 Zs7 hn1) hZ (hw _ (List.mem_of_getElem? (i := 26) rfl)) (hw _ (List.mem_of_getElem? (i := 4) rfl)) (by decide) (by decide)) (g := (mkF m 13 #[.val (.ref a0), .val (.long q1), .second, .val (.long q2), .second, .val (.long q3), .second, .val (.long q4), .second, .val (.long q5), .second, .val (.long q6), .second, .val (.long q7), .second] [(.ref b6), (.long q2)])) rfl (by rw [hml]; rfl) (argsL := [(.long q2), (.ref b6)]) (rest := []) (lenOf pd_2 rfl) rfl (by show 2 * 0 + _ ≤ _; exact Nat.le_of_eq rfl) (hb hby d1_13) (fun _ _ => ⟨rfl, e6, (by decide : 4 + 0 ≤ _), (by decide : 76 + 0 ≤ _)⟩)
  dsimp only [Pt.U, Pt.locs, Pt.cells, Pt.slots] at X9 l9 y9 z9 st9 hQ9
  rw [l9, y9, z9] at X9
  obtain ⟨rfl, N9q, e9⟩ := hQ9
  have N9 := Fr.app N5 N9q
  refine GoW.st (S' := T9.setTop (mkF m 16 #[.val (.ref a0), .val (.long q1), .second, .val (.long q2), .second, .val (.long q3), .second, .val (.long q4), .second, .val (.long q5), .second, .val (.long q6), .second, .val (.long q7), .second] [])) st9 ?_
  refine GoW.st (S' := T9.setTop (mkF m 18 #[.val (.ref a0), .val (.long q1), .second, .val (.long q2), .second, .val (.long q3), .second, .val (.long q4), .second, .val (.long q5), .second, .val (.long q6), .second, .val (.long q7), .second] [(.long q3)])) (fun _ kk => XS.lload X9.here hx rfl (hb hby d1_16) rfl kk) ?_
  obtain ⟨b10, T10, h10, k10, X10, e10, E10, hS10, hk10, hZ10, ho10, -, Li_b10, st10⟩ := ldcOH (s := s.setVm T6.vm) (vm0 := T6.vm) (EL := []) X9 hx hZ hown (hw _ (List.mem_of_getElem? (i := 28) rfl)) (own_wS hw) e9 ((State.WarmedH.refl _).since _) (Nat.le_refl _) EW.nil (fun _ hp => nomatch hp) (g := (mkF m 18 #[.val (.ref a0), .val (.long q1), .second, .val (.long q2), .second, .val (.long q3), .second, .val (.long q4), .second, .val (.long q5), .second, .val (.long q6), .second, .val (.long q7), .second] [(.long q3)])) rfl (hb hby d1_18) (n := 64) (by decide) (by decide) (by decide : 4 + 2 ≤ _) (by decide : 76 + 68 ≤ _)
  have X10 : Stand p l e _ (s.setVm T10.vm) m _ below meth c T10 _ _ _ := X10
  have Li_b2 := LitV.stays (s := s) Li_b2 hS10.1
  have Li_b6 := LitV.stays (s := s) Li_b6 hS10.1
  have Li_b10 : LitV Z T10.vm "com/example/larder/larder/CacheStats" 17 b10 := Li_b10
  have E_a0 := E_a0.ext E10
  have F_hitCount := F_hitCount.ext E10
  have F_missCount := F_missCount.ext E10
  have F_loadSuccessCount := F_loadSuccessCount.ext E10
  have F_loadFailureCount := F_loadFailureCount.ext E10
  have F_totalLoadTime := F_totalLoadTime.ext E10
  have F_evictionCount := F_evictionCount.ext E10
  have F_evictionWeight := F_evictionWeight.ext E10
  have Zs11 := Nat.le_trans Zs7 E10.1
  have hk := Nat.le_trans hk E10.1
  have Kp12 := Kp8.ext E10
  have hS := hS.trans (own_sinceM hS10 hk10) hk
  have hk := Nat.le_refl h10.size
  have hZ := hZ10
  have hown := ho10
  refine GoW.st (S' := T10.setTop (mkF m 20 #[.val (.ref a0), .val (.long q1), .second, .val (.long q2), .second, .val (.long q3), .second, .val (.long q4), .second, .val (.long q5), .second, .val (.long q6), .second, .val (.long q7), .second] [(.ref b10), (.long q3)])) st10 ?_
  obtain ⟨_, _, ⟨T13, L13, k13, n13⟩, -, X13, ⟨Lc13, hQ13, l13, y13, z13⟩, st13⟩ := Jvm.LawKit.callS X10 hx (y := (⟨"com/example/larder/larder/CacheStats", "requireNonNegative", "(JLjava/lang/String;)V"⟩ : MethodName)) hown (mvT hZ (hw _ (List.mem_of_getElem? (i := 24) rfl))) (mvT hZ (hw _ (List.mem_of_getElem? (i := 25) rfl))) (mvT hZ (hw _ (List.mem_of_getElem? (i := 4) rfl))) (mvT hZ (hw _ (List.mem_of_getElem? (i := 26) rfl))) (by decide) (backOf (W := 0) (rmNN l Z az hw [] q3 b10 h10 n0 Zs11 hn2) hZ (hw _ (List.mem_of_getElem? (i := 26) rfl)) (hw _ (List.mem_of_getElem? (i := 4) rfl)) (by decide) (by decide)) (g := (mkF m 20 #[.val (.ref a0), .val (.long q1), .second, .val (.long q2), .second, .val (.long q3), .second, .val (.long q4), .second, .val (.long q5), .second, .val (.long q6), .second, .val (.long q7), .second] [(.ref b10), (.long q3)])) rfl (by rw [hml]; rfl) (argsL := [(.long q3), (.ref b10)]) (rest := []) (lenOf pd_2 rfl) rfl (by show 2 * 0 + _ ≤ _; exact Nat.le_of_eq rfl) (hb hby d1_20) (fun _ _ => ⟨rfl, e10, (by decide : 6 + 0 ≤ _), (by decide : 144 + 0 ≤ _)⟩)
  dsimp only [Pt.U, Pt.locs, Pt.cells, Pt.slots] at X13 l13 y13 z13 st13 hQ13
  rw [l13, y13, z13] at X13
  obtain ⟨rfl, N13q, e13⟩ := hQ13
  have N13 := Fr.app N9 N13q
  refine GoW.st (S' := T13.setTop (mkF m 23 #[.val (.ref a0), .val (.long q1), .second, .val (.long q2), .second, .val (.long q3), .second, .val (.long q4), .second, .val (.long q5), .second, .val (.long q6), .second, .val (.long q7), .second] [])) st13 ?_
  refine GoW.st (S' := T13.setTop (mkF m 25 #[.val (.ref a0), .val (.long q1), .second, .val (.long q2), .second, .val (.long q3), .second, .val (.long q4), .second, .val (.long q5), .second, .val (.long q6), .second, .val (.long q7), .second] [(.long q4)])) (fun _ kk => XS.lload X13.here hx rfl (hb hby d1_23) rfl kk) ?_
  obtain ⟨b14, T14, h14, k14, X14, e14, E14, hS14, hk14, hZ14, ho14, -, Li_b14, st14⟩ := ldcOH (s := s.setVm T10.vm) (vm0 := T10.vm) (EL := []) X13 hx hZ hown (hw _ (List.mem_of_getElem? (i := 29) rfl)) (own_wS hw) e13 ((State.WarmedH.refl _).since _) (Nat.le_refl _) EW.nil (fun _ hp => nomatch hp) (g := (mkF m 25 #[.val (.ref a0), .val (.long q1), .second, .val (.long q2), .second, .val (.long q3), .second, .val (.long q4), .second, .val (.long q5), .second, .val (.long q6), .second, .val (.long q7), .second] [(.long q4)])) rfl (hb hby d1_25) (n := 64) (by decide) (by decide) (by decide : 6 + 2 ≤ _) (by decide : 144 + 68 ≤ _)
  have X14 : Stand p l e _ (s.setVm T14.vm) m _ below meth c T14 _ _ _ := X14
  have Li_b2 := LitV.stays (s := s) Li_b2 hS14.1
  have Li_b6 := LitV.stays (s := s) Li_b6 hS14.1
  have Li_b10 := LitV.stays (s := s) Li_b10 hS14.1
  have Li_b14 : LitV Z T14.vm "com/example/larder/larder/CacheStats" 19 b14 := Li_b14
  have E_a0 := E_a0.ext E14
  have F_hitCount := F_hitCount.ext E14
  have F_missCount := F_missCount.ext E14
  have F_loadSuccessCount := F_loadSuccessCount.ext E14
  have F_loadFailureCount := F_loadFailureCount.ext E14
  have F_totalLoadTime := F_totalLoadTime.ext E14
  have F_evictionCount := F_evictionCount.ext E14
  have F_evictionWeight := F_evictionWeight.ext E14
  have Zs15 := Nat.le_trans Zs11 E14.1
  have hk := Nat.le_trans hk E14.1
  have Kp16 := Kp12.ext E14
  have hS := hS.trans (own_sinceM hS14 hk14) hk
  have hk := Nat.le_refl h14.size
  have hZ := hZ14
  have hown := ho14
  refine GoW.st (S' := T14.setTop (mkF m 27 #[.val (.ref a0), .val (.long q1), .second, .val (.long q2), .second, .val (.long q3), .second, .val (.long q4), .second, .val (.long q5), .second, .val (.long q6), .second, .val (.long q7), .second] [(.ref b14), (.long q4)])) st14 ?_
  obtain ⟨_, _, ⟨T17, L17, k17, n17⟩, -, X17, ⟨Lc17, hQ17, l17, y17, z17⟩, st17⟩ := Jvm.LawKit.callS X14 hx (y := (⟨"com/example/larder/larder/CacheStats", "requireNonNegative", "(JLjava/lang/String;)V"⟩ : MethodName)) hown (mvT hZ (hw _ (List.mem_of_getElem? (i := 24) rfl))) (mvT hZ (hw _ (List.mem_of_getElem? (i := 25) rfl))) (mvT hZ (hw _ (List.mem_of_getElem? (i := 4) rfl))) (mvT hZ (hw _ (List.mem_of_getElem? (i := 26) rfl))) (by decide) (backOf (W := 0) (rmNN l Z az hw [] q4 b14 h14 n0 Zs15 hn3) hZ (hw _ (List.mem_of_getElem? (i := 26) rfl)) (hw _ (List.mem_of_getElem? (i := 4) rfl)) (by decide) (by decide)) (g := (mkF m 27 #[.val (.ref a0), .val (.long q1), .second, .val (.long q2), .second, .val (.long q3), .second, .val (.long q4), .second, .val (.long q5), .second, .val (.long q6), .second, .val (.long q7), .second] [(.ref b14), (.long q4)])) rfl (by rw [hml]; rfl) (argsL := [(.long q4), (.ref b14)]) (rest := []) (lenOf pd_2 rfl) rfl (by show 2 * 0 + _ ≤ _; exact Nat.le_of_eq rfl) (hb hby d1_27) (fun _ _ => ⟨rfl, e14, (by decide : 8 + 0 ≤ _), (by decide : 212 + 0 ≤ _)⟩)
  dsimp only [Pt.U, Pt.locs, Pt.cells, Pt.slots] at X17 l17 y17 z17 st17 hQ17
  rw [l17, y17, z17] at X17
  obtain ⟨rfl, N17q, e17⟩ := hQ17
  have N17 := Fr.app N13 N17q
  refine GoW.st (S' := T17.setTop (mkF m 30 #[.val (.ref a0), .val (.long q1), .second, .val (.long q2), .second, .val (.long q3), .second, .val (.long q4), .second, .val (.long q5), .second, .val (.long q6), .second, .val (.long q7), .second] [])) st17 ?_
  refine GoW.st (S' := T17.setTop (mkF m 32 #[.val (.ref a0), .val (.long q1), .second, .val (.long q2), .second, .val (.long q3), .second, .val (.long q4), .second, .val (.long q5), .second, .val (.long q6), .second, .val (.long q7), .second] [(.long q5)])) (fun _ kk => XS.lload X17.here hx rfl (hb hby d1_30) rfl kk) ?_
  obtain ⟨b18, T18, h18, k18, X18, e18, E18, hS18, hk18, hZ18, ho18, -, Li_b18, st18⟩ := ldcOH (s := s.setVm T14.vm) (vm0 := T14.vm) (EL := []) X17 hx hZ hown (hw _ (List.mem_of_getElem? (i := 30) rfl)) (own_wS hw) e17 ((State.WarmedH.refl _).since _) (Nat.le_refl _) EW.nil (fun _ hp => nomatch hp) (g := (mkF m 32 #[.val (.ref a0), .val (.long q1), .second, .val (.long q2), .second, .val (.long q3), .second, .val (.long q4), .second, .val (.long q5), .second, .val (.long q6), .second, .val (.long q7), .second] [(.long q5)])) rfl (hb hby d1_32) (n := 52) (by decide) (by decide) (by decide : 8 + 2 ≤ _) (by decide : 212 + 56 ≤ _)
  have X18 : Stand p l e _ (s.setVm T18.vm) m _ below meth c T18 _ _ _ := X18
  have Li_b2 := LitV.stays (s := s) Li_b2 hS18.1
  have Li_b6 := LitV.stays (s := s) Li_b6 hS18.1
  have Li_b10 := LitV.stays (s := s) Li_b10 hS18.1
  have Li_b14 := LitV.stays (s := s) Li_b14 hS18.1
  have Li_b18 : LitV Z T18.vm "com/example/larder/larder/CacheStats" 21 b18 := Li_b18
  have E_a0 := E_a0.ext E18
  have F_hitCount := F_hitCount.ext E18
  have F_missCount := F_missCount.ext E18
  have F_loadSuccessCount := F_loadSuccessCount.ext E18
  have F_loadFailureCount := F_loadFailureCount.ext E18
  have F_totalLoadTime := F_totalLoadTime.ext E18
  have F_evictionCount := F_evictionCount.ext E18
  have F_evictionWeight := F_evictionWeight.ext E18
  have Zs19 := Nat.le_trans Zs15 E18.1
  have hk := Nat.le_trans hk E18.1
  have Kp20 := Kp16.ext E18
  have hS := hS.trans (own_sinceM hS18 hk18) hk
  have hk := Nat.le_refl h18.size
  have hZ := hZ18
  have hown := ho18
  refine GoW.st (S' := T18.setTop (mkF m 34 #[.val (.ref a0), .val (.long q1), .second, .val (.long q2), .second, .val (.long q3), .second, .val (.long q4), .second, .val (.long q5), .second, .val (.long q6), .second, .val (.long q7), .second] [(.ref b18), (.long q5)])) st18 ?_
  obtain ⟨_, _, ⟨T21, L21, k21, n21⟩, -, X21, ⟨Lc21, hQ21, l21, y21, z21⟩, st21⟩ := Jvm.LawKit.callS X18 hx (y := (⟨"com/example/larder/larder/CacheStats", "requireNonNegative", "(JLjava/lang/String;)V"⟩ : MethodName)) hown (mvT hZ (hw _ (List.mem_of_getElem? (i := 24) rfl))) (mvT hZ (hw _ (List.mem_of_getElem? (i := 25) rfl))) (mvT hZ (hw _ (List.mem_of_getElem? (i := 4) rfl))) (mvT hZ (hw _ (List.mem_of_getElem? (i := 26) rfl))) (by decide) (backOf (W := 0) (rmNN l Z az hw [] q5 b18 h18 n0 Zs19 hn4) hZ (hw _ (List.mem_of_getElem? (i := 26) rfl)) (hw _ (List.mem_of_getElem? (i := 4) rfl)) (by decide) (by decide)) (g := (mkF m 34 #[.val (.ref a0), .val (.long q1), .second, .val (.long q2), .second, .val (.long q3), .second, .val (.long q4), .second, .val (.long q5), .second, .val (.long q6), .second, .val (.long q7), .second] [(.ref b18), (.long q5)])) rfl (by rw [hml]; rfl) (argsL := [(.long q5), (.ref b18)]) (rest := []) (lenOf pd_2 rfl) rfl (by show 2 * 0 + _ ≤ _; exact Nat.le_of_eq rfl) (hb hby d1_34) (fun _ _ => ⟨rfl, e18, (by decide : 10 + 0 ≤ _), (by decide : 268 + 0 ≤ _)⟩)
  dsimp only [Pt.U, Pt.locs, Pt.cells, Pt.slots] at X21 l21 y21 z21 st21 hQ21
  rw [l21, y21, z21] at X21
  obtain ⟨rfl, N21q, e21⟩ := hQ21
  have N21 := Fr.app N17 N21q
  refine GoW.st (S' := T21.setTop (mkF m 37 #[.val (.ref a0), .val (.long q1), .second, .val (.long q2), .second, .val (.long q3), .second, .val (.long q4), .second, .val (.long q5), .second, .val (.long q6), .second, .val (.long q7), .second] [])) st21 ?_
  refine GoW.st (S' := T21.setTop (mkF m 39 #[.val (.ref a0), .val (.long q1), .second, .val (.long q2), .second, .val (.long q3), .second, .val (.long q4), .second, .val (.long q5), .second, .val (.long q6), .second, .val (.long q7), .second] [(.long q6)])) (fun _ kk => XS.lload X21.here hx rfl (hb hby d1_37) rfl kk) ?_
  obtain ⟨b22, T22, h22, k22, X22, e22, E22, hS22, hk22, hZ22, ho22, -, Li_b22, st22⟩ := ldcOH (s := s.setVm T18.vm) (vm0 := T18.vm) (EL := []) X21 hx hZ hown (hw _ (List.mem_of_getElem? (i := 31) rfl)) (own_wS hw) e21 ((State.WarmedH.refl _).since _) (Nat.le_refl _) EW.nil (fun _ hp => nomatch hp) (g := (mkF m 39 #[.val (.ref a0), .val (.long q1), .second, .val (.long q2), .second, .val (.long q3), .second, .val (.long q4), .second, .val (.long q5), .second, .val (.long q6), .second, .val (.long q7), .second] [(.long q6)])) rfl (hb hby d1_39) (n := 52) (by decide) (by decide) (by decide : 10 + 2 ≤ _) (by decide : 268 + 56 ≤ _)
  have X22 : Stand p l e _ (s.setVm T22.vm) m _ below meth c T22 _ _ _ := X22
  have Li_b2 := LitV.stays (s := s) Li_b2 hS22.1
  have Li_b6 := LitV.stays (s := s) Li_b6 hS22.1
  have Li_b10 := LitV.stays (s := s) Li_b10 hS22.1
  have Li_b14 := LitV.stays (s := s) Li_b14 hS22.1
  have Li_b18 := LitV.stays (s := s) Li_b18 hS22.1
  have Li_b22 : LitV Z T22.vm "com/example/larder/larder/CacheStats" 23 b22 := Li_b22
  have E_a0 := E_a0.ext E22
  have F_hitCount := F_hitCount.ext E22
  have F_missCount := F_missCount.ext E22
  have F_loadSuccessCount := F_loadSuccessCount.ext E22
  have F_loadFailureCount := F_loadFailureCount.ext E22
  have F_totalLoadTime := F_totalLoadTime.ext E22
  have F_evictionCount := F_evictionCount.ext E22
  have F_evictionWeight := F_evictionWeight.ext E22
  have Zs23 := Nat.le_trans Zs19 E22.1
  have hk := Nat.le_trans hk E22.1
  have Kp24 := Kp20.ext E22
  have hS := hS.trans (own_sinceM hS22 hk22) hk
  have hk := Nat.le_refl h22.size
  have hZ := hZ22
  have hown := ho22
  refine GoW.st (S' := T22.setTop (mkF m 41 #[.val (.ref a0), .val (.long q1), .second, .val (.long q2), .second, .val (.long q3), .second, .val (.long q4), .second, .val (.long q5), .second, .val (.long q6), .second, .val (.long q7), .second] [(.ref b22), (.long q6)])) st22 ?_
  obtain ⟨_, _, ⟨T25, L25, k25, n25⟩, -, X25, ⟨Lc25, hQ25, l25, y25, z25⟩, st25⟩ := Jvm.LawKit.callS X22 hx (y := (⟨"com/example/larder/larder/CacheStats", "requireNonNegative", "(JLjava/lang/String;)V"⟩ : MethodName)) hown (mvT hZ (hw _ (List.mem_of_getElem? (i := 24) rfl))) (mvT hZ (hw _ (List.mem_of_getElem? (i := 25) rfl))) (mvT hZ (hw _ (List.mem_of_getElem? (i := 4) rfl))) (mvT hZ (hw _ (List.mem_of_getElem? (i := 26) rfl))) (by decide) (backOf (W := 0) (rmNN l Z az hw [] q6 b22 h22 n0 Zs23 hn5) hZ (hw _ (List.mem_of_getElem? (i := 26) rfl)) (hw _ (List.mem_of_getElem? (i := 4) rfl)) (by decide) (by decide)) (g := (mkF m 41 #[.val (.ref a0), .val (.long q1), .second, .val (.long q2), .second, .val (.long q3), .second, .val (.long q4), .second, .val (.long q5), .second, .val (.long q6), .second, .val (.long q7), .second] [(.ref b22), (.long q6)])) rfl (by rw [hml]; rfl) (argsL := [(.long q6), (.ref b22)]) (rest := []) (lenOf pd_2 rfl) rfl (by show 2 * 0 + _ ≤ _; exact Nat.le_of_eq rfl) (hb hby d1_41) (fun _ _ => ⟨rfl, e22, (by decide : 12 + 0 ≤ _), (by decide : 324 + 0 ≤ _)⟩)
  dsimp only [Pt.U, Pt.locs, Pt.cells, Pt.slots] at X25 l25 y25 z25 st25 hQ25
  rw [l25, y25, z25] at X25
  obtain ⟨rfl, N25q, e25⟩ := hQ25
  have N25 := Fr.app N21 N25q
  refine GoW.st (S' := T25.setTop (mkF m 44 #[.val (.ref a0), .val (.long q1), .second, .val (.long q2), .second, .val (.long q3), .second, .val (.long q4), .second, .val (.long q5), .second, .val (.long q6), .second, .val (.long q7), .second] [])) st25 ?_
  refine GoW.st (S' := T25.setTop (mkF m 46 #[.val (.ref a0), .val (.long q1), .second, .val (.long q2), .second, .val (.long q3), .second, .val (.long q4), .second, .val (.long q5), .second, .val (.long q6), .second, .val (.long q7), .second] [(.long q7)])) (fun _ kk => XS.lload X25.here hx rfl (hb hby d1_44) rfl kk) ?_
  obtain ⟨b26, T26, h26, k26, X26, e26, E26, hS26, hk26, hZ26, ho26, -, Li_b26, st26⟩ := ldcOH (s := s.setVm T22.vm) (vm0 := T22.vm) (EL := []) X25 hx hZ hown (hw _ (List.mem_of_getElem? (i := 32) rfl)) (own_wS hw) e25 ((State.WarmedH.refl _).since _) (Nat.le_refl _) EW.nil (fun _ hp => nomatch hp) (g := (mkF m 46 #[.val (.ref a0), .val (.long q1), .second, .val (.long q2), .second, .val (.long q3), .second, .val (.long q4), .second, .val (.long q5), .second, .val (.long q6), .second, .val (.long q7), .second] [(.long q7)])) rfl (hb hby d1_46) (n := 56) (by decide) (by decide) (by decide : 12 + 2 ≤ _) (by decide : 324 + 60 ≤ _)
  have X26 : Stand p l e _ (s.setVm T26.vm) m _ below meth c T26 _ _ _ := X26
  have Li_b2 := LitV.stays (s := s) Li_b2 hS26.1
  have Li_b6 := LitV.stays (s := s) Li_b6 hS26.1
  have Li_b10 := LitV.stays (s := s) Li_b10 hS26.1
  have Li_b14 := LitV.stays (s := s) Li_b14 hS26.1
  have Li_b18 := LitV.stays (s := s) Li_b18 hS26.1
  have Li_b22 := LitV.stays (s := s) Li_b22 hS26.1
  have Li_b26 : LitV Z T26.vm "com/example/larder/larder/CacheStats" 25 b26 := Li_b26
  have E_a0 := E_a0.ext E26
  have F_hitCount := F_hitCount.ext E26
  have F_missCount := F_missCount.ext E26
  have F_loadSuccessCount := F_loadSuccessCount.ext E26
  have F_loadFailureCount := F_loadFailureCount.ext E26
  have F_totalLoadTime := F_totalLoadTime.ext E26
  have F_evictionCount := F_evictionCount.ext E26
  have F_evictionWeight := F_evictionWeight.ext E26
  have Zs27 := Nat.le_trans Zs23 E26.1
  have hk := Nat.le_trans hk E26.1
  have Kp28 := Kp24.ext E26
  have hS := hS.trans (own_sinceM hS26 hk26) hk
  have hk := Nat.le_refl h26.size
  have hZ := hZ26
  have hown := ho26
  refine GoW.st (S' := T26.setTop (mkF m 48 #[.val (.ref a0), .val (.long q1), .second, .val (.long q2), .second, .val (.long q3), .second, .val (.long q4), .second, .val (.long q5), .second, .val (.long q6), .second, .val (.long q7), .second] [(.ref b26), (.long q7)])) st26 ?_
  obtain ⟨_, _, ⟨T29, L29, k29, n29⟩, -, X29, ⟨Lc29, hQ29, l29, y29, z29⟩, st29⟩ := Jvm.LawKit.callS X26 hx (y := (⟨"com/example/larder/larder/CacheStats", "requireNonNegative", "(JLjava/lang/String;)V"⟩ : MethodName)) hown (mvT hZ (hw _ (List.mem_of_getElem? (i := 24) rfl))) (mvT hZ (hw _ (List.mem_of_getElem? (i := 25) rfl))) (mvT hZ (hw _ (List.mem_of_getElem? (i := 4) rfl))) (mvT hZ (hw _ (List.mem_of_getElem? (i := 26) rfl))) (by decide) (backOf (W := 0) (rmNN l Z az hw [] q7 b26 h26 n0 Zs27 hn6) hZ (hw _ (List.mem_of_getElem? (i := 26) rfl)) (hw _ (List.mem_of_getElem? (i := 4) rfl)) (by decide) (by decide)) (g := (mkF m 48 #[.val (.ref a0), .val (.long q1), .second, .val (.long q2), .second, .val (.long q3), .second, .val (.long q4), .second, .val (.long q5), .second, .val (.long q6), .second, .val (.long q7), .second] [(.ref b26), (.long q7)])) rfl (by rw [hml]; rfl) (argsL := [(.long q7), (.ref b26)]) (rest := []) (lenOf pd_2 rfl) rfl (by show 2 * 0 + _ ≤ _; exact Nat.le_of_eq rfl) (hb hby d1_48) (fun _ _ => ⟨rfl, e26, (by decide : 14 + 0 ≤ _), (by decide : 384 + 0 ≤ _)⟩)
  dsimp only [Pt.U, Pt.locs, Pt.cells, Pt.slots] at X29 l29 y29 z29 st29 hQ29
  rw [l29, y29, z29] at X29
  obtain ⟨rfl, N29q, e29⟩ := hQ29
  have N29 := Fr.app N25 N29q
  refine GoW.st (S' := T29.setTop (mkF m 51 #[.val (.ref a0), .val (.long q1), .second, .val (.long q2), .second, .val (.long q3), .second, .val (.long q4), .second, .val (.long q5), .second, .val (.long q6), .second, .val (.long q7), .second] [])) st29 ?_
  refine GoW.st (S' := T29.setTop (mkF m 52 #[.val (.ref a0), .val (.long q1), .second, .val (.long q2), .second, .val (.long q3), .second, .val (.long q4), .second, .val (.long q5), .second, .val (.long q6), .second, .val (.long q7), .second] [(.ref a0)])) (fun _ kk => XS.aloadN X29.here hx rfl (hb hby d1_51) rfl rfl kk) ?_
  refine GoW.st (S' := T29.setTop (mkF m 53 #[.val (.ref a0), .val (.long q1), .second, .val (.long q2), .second, .val (.long q3), .second, .val (.long q4), .second, .val (.long q5), .second, .val (.long q6), .second, .val (.long q7), .second] [(.long q1), (.ref a0)])) (fun _ kk => XS.lloadN X29.here hx rfl (hb hby d1_52) rfl kk) ?_
  obtain ⟨T30, h30, X30, e30, W30, st30⟩ := putF X29 hx hZ hown (host := "") (Or.inl (hw _ (List.mem_of_getElem? (i := 33) rfl))) Via.refl e29 F_hitCount E_a0 (Or.inr ⟨(hw _ (List.mem_of_getElem? (i := 34) rfl)), rfl, hnm⟩) (hw _ (List.mem_of_getElem? (i := 3) rfl)) (ty := .long) (by decide) rfl rfl (g := (mkF m 53 #[.val (.ref a0), .val (.long q1), .second, .val (.long q2), .second, .val (.long q3), .second, .val (.long q4), .second, .val (.long q5), .second, .val (.long q6), .second, .val (.long q7), .second] [(.long q1), (.ref a0)])) rfl rfl (hb hby d1_53)
  have N30 := Fr.snoc X30 N29 g_a0
  have F_hitCount := F_hitCount.same W30
  have E_a0 := E_a0.wr W30
  have F_missCount := F_missCount.other W30 (Or.inr (slot_ne (Or.inr (hw _ (List.mem_of_getElem? (i := 36) rfl))) (Or.inr (hw _ (List.mem_of_getElem? (i := 34) rfl))) (by decide) (t := .long) (t' := .long) (by decide) (by decide)))
  have F_loadSuccessCount := F_loadSuccessCount.other W30 (Or.inr (slot_ne (Or.inr (hw _ (List.mem_of_getElem? (i := 38) rfl))) (Or.inr (hw _ (List.mem_of_getElem? (i := 34) rfl))) (by decide) (t := .long) (t' := .long) (by decide) (by decide)))
  have F_loadFailureCount := F_loadFailureCount.other W30 (Or.inr (slot_ne (Or.inr (hw _ (List.mem_of_getElem? (i := 40) rfl))) (Or.inr (hw _ (List.mem_of_getElem? (i := 34) rfl))) (by decide) (t := .long) (t' := .long) (by decide) (by decide)))
  have F_totalLoadTime := F_totalLoadTime.other W30 (Or.inr (slot_ne (Or.inr (hw _ (List.mem_of_getElem? (i := 42) rfl))) (Or.inr (hw _ (List.mem_of_getElem? (i := 34) rfl))) (by decide) (t := .long) (t' := .long) (by decide) (by decide)))
  have F_evictionCount := F_evictionCount.other W30 (Or.inr (slot_ne (Or.inr (hw _ (List.mem_of_getElem? (i := 44) rfl))) (Or.inr (hw _ (List.mem_of_getElem? (i := 34) rfl))) (by decide) (t := .long) (t' := .long) (by decide) (by decide)))
  have F_evictionWeight := F_evictionWeight.other W30 (Or.inr (slot_ne (Or.inr (hw _ (List.mem_of_getElem? (i := 46) rfl))) (Or.inr (hw _ (List.mem_of_getElem? (i := 34) rfl))) (by decide) (t := .long) (t' := .long) (by decide) (by decide)))
  have Zs31 := Nat.le_trans Zs27 (Keep.of_wr W30).1
  have hk := Nat.le_trans hk (Keep.of_wr W30).1
  have Kp32 := Kp28.wr W30 (Or.inl (List.mem_of_getElem? (i := 0) rfl))
  refine GoW.st (S' := T30.setTop (mkF m 56 #[.val (.ref a0), .val (.long q1), .second, .val (.long q2), .second, .val (.long q3), .second, .val (.long q4), .second, .val (.long q5), .second, .val (.long q6), .second, .val (.long q7), .second] [])) st30 ?_
  refine GoW.st (S' := T30.setTop (mkF m 57 #[.val (.ref a0), .val (.long q1), .second, .val (.long q2), .second, .val (.long q3), .second, .val (.long q4), .second, .val (.long q5), .second, .val (.long q6), .second, .val (.long q7), .second] [(.ref a0)])) (fun _ kk => XS.aloadN X30.here hx rfl (hb hby d1_56) rfl rfl kk) ?_
  refine GoW.st (S' := T30.setTop (mkF m 58 #[.val (.ref a0), .val (.long q1), .second, .val (.long q2), .second, .val (.long q3), .second, .val (.long q4), .second, .val (.long q5), .second, .val (.long q6), .second, .val (.long q7), .second] [(.long q2), (.ref a0)])) (fun _ kk => XS.lloadN X30.here hx rfl (hb hby d1_57) rfl kk) ?_
  obtain ⟨T33, h33, X33, e33, W33, st33⟩ := putF X30 hx hZ hown (host := "") (Or.inl (hw _ (List.mem_of_getElem? (i := 35) rfl))) Via.refl e30 F_missCount E_a0 (Or.inr ⟨(hw _ (List.mem_of_getElem? (i := 36) rfl)), rfl, hnm⟩) (hw _ (List.mem_of_getElem? (i := 3) rfl)) (ty := .long) (by decide) rfl rfl (g := (mkF m 58 #[.val (.ref a0), .val (.long q1), .second, .val (.long q2), .second, .val (.long q3), .second, .val (.long q4), .second, .val (.long q5), .second, .val (.long q6), .second, .val (.long q7), .second] [(.long q2), (.ref a0)])) rfl rfl (hb hby d1_58)
  have N33 := Fr.snoc X33 N30 g_a0
  have F_missCount := F_missCount.same W33
  have E_a0 := E_a0.wr W33
  have F_hitCount := F_hitCount.other W33 (Or.inr (slot_ne (Or.inr (hw _ (List.mem_of_getElem? (i := 34) rfl))) (Or.inr (hw _ (List.mem_of_getElem? (i := 36) rfl))) (by decide) (t := .long) (t' := .long) (by decide) (by decide)))
  have F_loadSuccessCount := F_loadSuccessCount.other W33 (Or.inr (slot_ne (Or.inr (hw _ (List.mem_of_getElem? (i := 38) rfl))) (Or.inr (hw _ (List.mem_of_getElem? (i := 36) rfl))) (by decide) (t := .long) (t' := .long) (by decide) (by decide)))
  have F_loadFailureCount := F_loadFailureCount.other W33 (Or.inr (slot_ne (Or.inr (hw _ (List.mem_of_getElem? (i := 40) rfl))) (Or.inr (hw _ (List.mem_of_getElem? (i := 36) rfl))) (by decide) (t := .long) (t' := .long) (by decide) (by decide)))
  have F_totalLoadTime := F_totalLoadTime.other W33 (Or.inr (slot_ne (Or.inr (hw _ (List.mem_of_getElem? (i := 42) rfl))) (Or.inr (hw _ (List.mem_of_getElem? (i := 36) rfl))) (by decide) (t := .long) (t' := .long) (by decide) (by decide)))
  have F_evictionCount := F_evictionCount.other W33 (Or.inr (slot_ne (Or.inr (hw _ (List.mem_of_getElem? (i := 44) rfl))) (Or.inr (hw _ (List.mem_of_getElem? (i := 36) rfl))) (by decide) (t := .long) (t' := .long) (by decide) (by decide)))
  have F_evictionWeight := F_evictionWeight.other W33 (Or.inr (slot_ne (Or.inr (hw _ (List.mem_of_getElem? (i := 46) rfl))) (Or.inr (hw _ (List.mem_of_getElem? (i := 36) rfl))) (by decide) (t := .long) (t' := .long) (by decide) (by decide)))
  have Zs34 := Nat.le_trans Zs31 (Keep.of_wr W33).1
  have hk := Nat.le_trans hk (Keep.of_wr W33).1
  have Kp35 := Kp32.wr W33 (Or.inl (List.mem_of_getElem? (i := 0) rfl))
  refine GoW.st (S' := T33.setTop (mkF m 61 #[.val (.ref a0), .val (.long q1), .second, .val (.long q2), .second, .val (.long q3), .second, .val (.long q4), .second, .val (.long q5), .second, .val (.long q6), .second, .val (.long q7), .second] [])) st33 ?_
  refine GoW.st (S' := T33.setTop (mkF m 62 #[.val (.ref a0), .val (.long q1), .second, .val (.long q2), .second, .val (.long q3), .second, .val (.long q4), .second, .val (.long q5), .second, .val (.long q6), .second, .val (.long q7), .second] [(.ref a0)])) (fun _ kk => XS.aloadN X33.here hx rfl (hb hby d1_61) rfl rfl kk) ?_
  refine GoW.st (S' := T33.setTop (mkF m 64 #[.val (.ref a0), .val (.long q1), .second, .val (.long q2), .second, .val (.long q3), .second, .val (.long q4), .second, .val (.long q5), .second, .val (.long q6), .second, .val (.long q7), .second] [(.long q3), (.ref a0)])) (fun _ kk => XS.lload X33.here hx rfl (hb hby d1_62) rfl kk) ?_
  obtain ⟨T36, h36, X36, e36, W36, st36⟩ := putF X33 hx hZ hown (host := "") (Or.inl (hw _ (List.mem_of_getElem? (i := 37) rfl))) Via.refl e33 F_loadSuccessCount E_a0 (Or.inr ⟨(hw _ (List.mem_of_getElem? (i := 38) rfl)), rfl, hnm⟩) (hw _ (List.mem_of_getElem? (i := 3) rfl)) (ty := .long) (by decide) rfl rfl (g := (mkF m 64 #[.val (.ref a0), .val (.long q1), .second, .val (.long q2), .second, .val (.long q3), .second, .val (.long q4), .second, .val (.long q5), .second, .val (.long q6), .second, .val (.long q7), .second] [(.long q3), (.ref a0)])) rfl rfl (hb hby d1_64)
  have N36 := Fr.snoc X36 N33 g_a0
  have F_loadSuccessCount := F_loadSuccessCount.same W36
  have E_a0 := E_a0.wr W36
  have F_hitCount := F_hitCount.other W36 (Or.inr (slot_ne (Or.inr (hw _ (List.mem_of_getElem? (i := 34) rfl))) (Or.inr (hw _ (List.mem_of_getElem? (i := 38) rfl))) (by decide) (t := .long) (t' := .long) (by decide) (by decide)))
  have F_missCount := F_missCount.other W36 (Or.inr (slot_ne (Or.inr (hw _ (List.mem_of_getElem? (i := 36) rfl))) (Or.inr (hw _ (List.mem_of_getElem? (i := 38) rfl))) (by decide) (t := .long) (t' := .long) (by decide) (by decide)))
  have F_loadFailureCount := F_loadFailureCount.other W36 (Or.inr (slot_ne (Or.inr (hw _ (List.mem_of_getElem? (i := 40) rfl))) (Or.inr (hw _ (List.mem_of_getElem? (i := 38) rfl))) (by decide) (t := .long) (t' := .long) (by decide) (by decide)))
  have F_totalLoadTime := F_totalLoadTime.other W36 (Or.inr (slot_ne (Or.inr (hw _ (List.mem_of_getElem? (i := 42) rfl))) (Or.inr (hw _ (List.mem_of_getElem? (i := 38) rfl))) (by decide) (t := .long) (t' := .long) (by decide) (by decide)))
  have F_evictionCount := F_evictionCount.other W36 (Or.inr (slot_ne (Or.inr (hw _ (List.mem_of_getElem? (i := 44) rfl))) (Or.inr (hw _ (List.mem_of_getElem? (i := 38) rfl))) (by decide) (t := .long) (t' := .long) (by decide) (by decide)))
  have F_evictionWeight := F_evictionWeight.other W36 (Or.inr (slot_ne (Or.inr (hw _ (List.mem_of_getElem? (i := 46) rfl))) (Or.inr (hw _ (List.mem_of_getElem? (i := 38) rfl))) (by decide) (t := .long) (t' := .long) (by decide) (by decide)))
  have Zs37 := Nat.le_trans Zs34 (Keep.of_wr W36).1
  have hk := Nat.le_trans hk (Keep.of_wr W36).1
  have Kp38 := Kp35.wr W36 (Or.inl (List.mem_of_getElem? (i := 0) rfl))
  refine GoW.st (S' := T36.setTop (mkF m 67 #[.val (.ref a0), .val (.long q1), .second, .val (.long q2), .second, .val (.long q3), .second, .val (.long q4), .second, .val (.long q5), .second, .val (.long q6), .second, .val (.long q7), .second] [])) st36 ?_
  refine GoW.st (S' := T36.setTop (mkF m 68 #[.val (.ref a0), .val (.long q1), .second, .val (.long q2), .second, .val (.long q3), .second, .val (.long q4), .second, .val (.long q5), .second, .val (.long q6), .second, .val (.long q7), .second] [(.ref a0)])) (fun _ kk => XS.aloadN X36.here hx rfl (hb hby d1_67) rfl rfl kk) ?_
  refine GoW.st (S' := T36.setTop (mkF m 70 #[.val (.ref a0), .val (.long q1), .second, .val (.long q2), .second, .val (.long q3), .second, .val (.long q4), .second, .val (.long q5), .second, .val (.long q6), .second, .val (.long q7), .second] [(.long q4), (.ref a0)])) (fun _ kk => XS.lload X36.here hx rfl (hb hby d1_68) rfl kk) ?_
  obtain ⟨T39, h39, X39, e39, W39, st39⟩ := putF X36 hx hZ hown (host := "") (Or.inl (hw _ (List.mem_of_getElem? (i := 39) rfl))) Via.refl e36 F_loadFailureCount E_a0 (Or.inr ⟨(hw _ (List.mem_of_getElem? (i := 40) rfl)), rfl, hnm⟩) (hw _ (List.mem_of_getElem? (i := 3) rfl)) (ty := .long) (by decide) rfl rfl (g := (mkF m 70 #[.val (.ref a0), .val (.long q1), .second, .val (.long q2), .second, .val (.long q3), .second, .val (.long q4), .second, .val (.long q5), .second, .val (.long q6), .second, .val (.long q7), .second] [(.long q4), (.ref a0)])) rfl rfl (hb hby d1_70)
  have N39 := Fr.snoc X39 N36 g_a0
  have F_loadFailureCount := F_loadFailureCount.same W39
  have E_a0 := E_a0.wr W39
  have F_hitCount := F_hitCount.other W39 (Or.inr (slot_ne (Or.inr (hw _ (List.mem_of_getElem? (i := 34) rfl))) (Or.inr (hw _ (List.mem_of_getElem? (i := 40) rfl))) (by decide) (t := .long) (t' := .long) (by decide) (by decide)))
  have F_missCount := F_missCount.other W39 (Or.inr (slot_ne (Or.inr (hw _ (List.mem_of_getElem? (i := 36) rfl))) (Or.inr (hw _ (List.mem_of_getElem? (i := 40) rfl))) (by decide) (t := .long) (t' := .long) (by decide) (by decide)))
  have F_loadSuccessCount := F_loadSuccessCount.other W39 (Or.inr (slot_ne (Or.inr (hw _ (List.mem_of_getElem? (i := 38) rfl))) (Or.inr (hw _ (List.mem_of_getElem? (i := 40) rfl))) (by decide) (t := .long) (t' := .long) (by decide) (by decide)))
  have F_totalLoadTime := F_totalLoadTime.other W39 (Or.inr (slot_ne (Or.inr (hw _ (List.mem_of_getElem? (i := 42) rfl))) (Or.inr (hw _ (List.mem_of_getElem? (i := 40) rfl))) (by decide) (t := .long) (t' := .long) (by decide) (by decide)))
  have F_evictionCount := F_evictionCount.other W39 (Or.inr (slot_ne (Or.inr (hw _ (List.mem_of_getElem? (i := 44) rfl))) (Or.inr (hw _ (List.mem_of_getElem? (i := 40) rfl))) (by decide) (t := .long) (t' := .long) (by decide) (by decide)))
  have F_evictionWeight := F_evictionWeight.other W39 (Or.inr (slot_ne (Or.inr (hw _ (List.mem_of_getElem? (i := 46) rfl))) (Or.inr (hw _ (List.mem_of_getElem? (i := 40) rfl))) (by decide) (t := .long) (t' := .long) (by decide) (by decide)))
  have Zs40 := Nat.le_trans Zs37 (Keep.of_wr W39).1
  have hk := Nat.le_trans hk (Keep.of_wr W39).1
  have Kp41 := Kp38.wr W39 (Or.inl (List.mem_of_getElem? (i := 0) rfl))
  refine GoW.st (S' := T39.setTop (mkF m 73 #[.val (.ref a0), .val (.long q1), .second, .val (.long q2), .second, .val (.long q3), .second, .val (.long q4), .second, .val (.long q5), .second, .val (.long q6), .second, .val (.long q7), .second] [])) st39 ?_
  refine GoW.st (S' := T39.setTop (mkF m 74 #[.val (.ref a0), .val (.long q1), .second, .val (.long q2), .second, .val (.long q3), .second, .val (.long q4), .second, .val (.long q5), .second, .val (.long q6), .second, .val (.long q7), .second] [(.ref a0)])) (fun _ kk => XS.aloadN X39.here hx rfl (hb hby d1_73) rfl rfl kk) ?_
  refine GoW.st (S' := T39.setTop (mkF m 76 #[.val (.ref a0), .val (.long q1), .second, .val (.long q2), .second, .val (.long q3), .second, .val (.long q4), .second, .val (.long q5), .second, .val (.long q6), .second, .val (.long q7), .second] [(.long q5), (.ref a0)])) (fun _ kk => XS.lload X39.here hx rfl (hb hby d1_74) rfl kk) ?_
  obtain ⟨T42, h42, X42, e42, W42, st42⟩ := putF X39 hx hZ hown (host := "") (Or.inl (hw _ (List.mem_of_getElem? (i := 41) rfl))) Via.refl e39 F_totalLoadTime E_a0 (Or.inr ⟨(hw _ (List.mem_of_getElem? (i := 42) rfl)), rfl, hnm⟩) (hw _ (List.mem_of_getElem? (i := 3) rfl)) (ty := .long) (by decide) rfl rfl (g := (mkF m 76 #[.val (.ref a0), .val (.long q1), .second, .val (.long q2), .second, .val (.long q3), .second, .val (.long q4), .second, .val (.long q5), .second, .val (.long q6), .second, .val (.long q7), .second] [(.long q5), (.ref a0)])) rfl rfl (hb hby d1_76)
  have N42 := Fr.snoc X42 N39 g_a0
  have F_totalLoadTime := F_totalLoadTime.same W42
  have E_a0 := E_a0.wr W42
  have F_hitCount := F_hitCount.other W42 (Or.inr (slot_ne (Or.inr (hw _ (List.mem_of_getElem? (i := 34) rfl))) (Or.inr (hw _ (List.mem_of_getElem? (i := 42) rfl))) (by decide) (t := .long) (t' := .long) (by decide) (by decide)))
  have F_missCount := F_missCount.other W42 (Or.inr (slot_ne (Or.inr (hw _ (List.mem_of_getElem? (i := 36) rfl))) (Or.inr (hw _ (List.mem_of_getElem? (i := 42) rfl))) (by decide) (t := .long) (t' := .long) (by decide) (by decide)))
  have F_loadSuccessCount := F_loadSuccessCount.other W42 (Or.inr (slot_ne (Or.inr (hw _ (List.mem_of_getElem? (i := 38) rfl))) (Or.inr (hw _ (List.mem_of_getElem? (i := 42) rfl))) (by decide) (t := .long) (t' := .long) (by decide) (by decide)))
  have F_loadFailureCount := F_loadFailureCount.other W42 (Or.inr (slot_ne (Or.inr (hw _ (List.mem_of_getElem? (i := 40) rfl))) (Or.inr (hw _ (List.mem_of_getElem? (i := 42) rfl))) (by decide) (t := .long) (t' := .long) (by decide) (by decide)))
  have F_evictionCount := F_evictionCount.other W42 (Or.inr (slot_ne (Or.inr (hw _ (List.mem_of_getElem? (i := 44) rfl))) (Or.inr (hw _ (List.mem_of_getElem? (i := 42) rfl))) (by decide) (t := .long) (t' := .long) (by decide) (by decide)))
  have F_evictionWeight := F_evictionWeight.other W42 (Or.inr (slot_ne (Or.inr (hw _ (List.mem_of_getElem? (i := 46) rfl))) (Or.inr (hw _ (List.mem_of_getElem? (i := 42) rfl))) (by decide) (t := .long) (t' := .long) (by decide) (by decide)))
  have Zs43 := Nat.le_trans Zs40 (Keep.of_wr W42).1
  have hk := Nat.le_trans hk (Keep.of_wr W42).1
  have Kp44 := Kp41.wr W42 (Or.inl (List.mem_of_getElem? (i := 0) rfl))
  refine GoW.st (S' := T42.setTop (mkF m 79 #[.val (.ref a0), .val (.long q1), .second, .val (.long q2), .second, .val (.long q3), .second, .val (.long q4), .second, .val (.long q5), .second, .val (.long q6), .second, .val (.long q7), .second] [])) st42 ?_
  refine GoW.st (S' := T42.setTop (mkF m 80 #[.val (.ref a0), .val (.long q1), .second, .val (.long q2), .second, .val (.long q3), .second, .val (.long q4), .second, .val (.long q5), .second, .val (.long q6), .second, .val (.long q7), .second] [(.ref a0)])) (fun _ kk => XS.aloadN X42.here hx rfl (hb hby d1_79) rfl rfl kk) ?_
  refine GoW.st (S' := T42.setTop (mkF m 82 #[.val (.ref a0), .val (.long q1), .second, .val (.long q2), .second, .val (.long q3), .second, .val (.long q4), .second, .val (.long q5), .second, .val (.long q6), .second, .val (.long q7), .second] [(.long q6), (.ref a0)])) (fun _ kk => XS.lload X42.here hx rfl (hb hby d1_80) rfl kk) ?_
  obtain ⟨T45, h45, X45, e45, W45, st45⟩ := putF X42 hx hZ hown (host := "") (Or.inl (hw _ (List.mem_of_getElem? (i := 43) rfl))) Via.refl e42 F_evictionCount E_a0 (Or.inr ⟨(hw _ (List.mem_of_getElem? (i := 44) rfl)), rfl, hnm⟩) (hw _ (List.mem_of_getElem? (i := 3) rfl)) (ty := .long) (by decide) rfl rfl (g := (mkF m 82 #[.val (.ref a0), .val (.long q1), .second, .val (.long q2), .second, .val (.long q3), .second, .val (.long q4), .second, .val (.long q5), .second, .val (.long q6), .second, .val (.long q7), .second] [(.long q6), (.ref a0)])) rfl rfl (hb hby d1_82)
  have N45 := Fr.snoc X45 N42 g_a0
  have F_evictionCount := F_evictionCount.same W45
  have E_a0 := E_a0.wr W45
  have F_hitCount := F_hitCount.other W45 (Or.inr (slot_ne (Or.inr (hw _ (List.mem_of_getElem? (i := 34) rfl))) (Or.inr (hw _ (List.mem_of_getElem? (i := 44) rfl))) (by decide) (t := .long) (t' := .long) (by decide) (by decide)))
  have F_missCount := F_missCount.other W45 (Or.inr (slot_ne (Or.inr (hw _ (List.mem_of_getElem? (i := 36) rfl))) (Or.inr (hw _ (List.mem_of_getElem? (i := 44) rfl))) (by decide) (t := .long) (t' := .long) (by decide) (by decide)))
  have F_loadSuccessCount := F_loadSuccessCount.other W45 (Or.inr (slot_ne (Or.inr (hw _ (List.mem_of_getElem? (i := 38) rfl))) (Or.inr (hw _ (List.mem_of_getElem? (i := 44) rfl))) (by decide) (t := .long) (t' := .long) (by decide) (by decide)))
  have F_loadFailureCount := F_loadFailureCount.other W45 (Or.inr (slot_ne (Or.inr (hw _ (List.mem_of_getElem? (i := 40) rfl))) (Or.inr (hw _ (List.mem_of_getElem? (i := 44) rfl))) (by decide) (t := .long) (t' := .long) (by decide) (by decide)))
  have F_totalLoadTime := F_totalLoadTime.other W45 (Or.inr (slot_ne (Or.inr (hw _ (List.mem_of_getElem? (i := 42) rfl))) (Or.inr (hw _ (List.mem_of_getElem? (i := 44) rfl))) (by decide) (t := .long) (t' := .long) (by decide) (by decide)))
  have F_evictionWeight := F_evictionWeight.other W45 (Or.inr (slot_ne (Or.inr (hw _ (List.mem_of_getElem? (i := 46) rfl))) (Or.inr (hw _ (List.mem_of_getElem? (i := 44) rfl))) (by decide) (t := .long) (t' := .long) (by decide) (by decide)))
  have Zs46 := Nat.le_trans Zs43 (Keep.of_wr W45).1
  have hk := Nat.le_trans hk (Keep.of_wr W45).1
  have Kp47 := Kp44.wr W45 (Or.inl (List.mem_of_getElem? (i := 0) rfl))
  refine GoW.st (S' := T45.setTop (mkF m 85 #[.val (.ref a0), .val (.long q1), .second, .val (.long q2), .second, .val (.long q3), .second, .val (.long q4), .second, .val (.long q5), .second, .val (.long q6), .second, .val (.long q7), .second] [])) st45 ?_
  refine GoW.st (S' := T45.setTop (mkF m 86 #[.val (.ref a0), .val (.long q1), .second, .val (.long q2), .second, .val (.long q3), .second, .val (.long q4), .second, .val (.long q5), .second, .val (.long q6), .second, .val (.long q7), .second] [(.ref a0)])) (fun _ kk => XS.aloadN X45.here hx rfl (hb hby d1_85) rfl rfl kk) ?_
  refine GoW.st (S' := T45.setTop (mkF m 88 #[.val (.ref a0), .val (.long q1), .second, .val (.long q2), .second, .val (.long q3), .second, .val (.long q4), .second, .val (.long q5), .second, .val (.long q6), .second, .val (.long q7), .second] [(.long q7), (.ref a0)])) (fun _ kk => XS.lload X45.here hx rfl (hb hby d1_86) rfl kk) ?_
  obtain ⟨T48, h48, X48, e48, W48, st48⟩ := putF X45 hx hZ hown (host := "") (Or.inl (hw _ (List.mem_of_getElem? (i := 45) rfl))) Via.refl e45 F_evictionWeight E_a0 (Or.inr ⟨(hw _ (List.mem_of_getElem? (i := 46) rfl)), rfl, hnm⟩) (hw _ (List.mem_of_getElem? (i := 3) rfl)) (ty := .long) (by decide) rfl rfl (g := (mkF m 88 #[.val (.ref a0), .val (.long q1), .second, .val (.long q2), .second, .val (.long q3), .second, .val (.long q4), .second, .val (.long q5), .second, .val (.long q6), .second, .val (.long q7), .second] [(.long q7), (.ref a0)])) rfl rfl (hb hby d1_88)
  have N48 := Fr.snoc X48 N45 g_a0
  have F_evictionWeight := F_evictionWeight.same W48
  have E_a0 := E_a0.wr W48
  have F_hitCount := F_hitCount.other W48 (Or.inr (slot_ne (Or.inr (hw _ (List.mem_of_getElem? (i := 34) rfl))) (Or.inr (hw _ (List.mem_of_getElem? (i := 46) rfl))) (by decide) (t := .long) (t' := .long) (by decide) (by decide)))
  have F_missCount := F_missCount.other W48 (Or.inr (slot_ne (Or.inr (hw _ (List.mem_of_getElem? (i := 36) rfl))) (Or.inr (hw _ (List.mem_of_getElem? (i := 46) rfl))) (by decide) (t := .long) (t' := .long) (by decide) (by decide)))
  have F_loadSuccessCount := F_loadSuccessCount.other W48 (Or.inr (slot_ne (Or.inr (hw _ (List.mem_of_getElem? (i := 38) rfl))) (Or.inr (hw _ (List.mem_of_getElem? (i := 46) rfl))) (by decide) (t := .long) (t' := .long) (by decide) (by decide)))
  have F_loadFailureCount := F_loadFailureCount.other W48 (Or.inr (slot_ne (Or.inr (hw _ (List.mem_of_getElem? (i := 40) rfl))) (Or.inr (hw _ (List.mem_of_getElem? (i := 46) rfl))) (by decide) (t := .long) (t' := .long) (by decide) (by decide)))
  have F_totalLoadTime := F_totalLoadTime.other W48 (Or.inr (slot_ne (Or.inr (hw _ (List.mem_of_getElem? (i := 42) rfl))) (Or.inr (hw _ (List.mem_of_getElem? (i := 46) rfl))) (by decide) (t := .long) (t' := .long) (by decide) (by decide)))
  have F_evictionCount := F_evictionCount.other W48 (Or.inr (slot_ne (Or.inr (hw _ (List.mem_of_getElem? (i := 44) rfl))) (Or.inr (hw _ (List.mem_of_getElem? (i := 46) rfl))) (by decide) (t := .long) (t' := .long) (by decide) (by decide)))
  have Zs49 := Nat.le_trans Zs46 (Keep.of_wr W48).1
  have hk := Nat.le_trans hk (Keep.of_wr W48).1
  have Kp50 := Kp47.wr W48 (Or.inl (List.mem_of_getElem? (i := 0) rfl))
  refine GoW.st (S' := T48.setTop (mkF m 91 #[.val (.ref a0), .val (.long q1), .second, .val (.long q2), .second, .val (.long q3), .second, .val (.long q4), .second, .val (.long q5), .second, .val (.long q6), .second, .val (.long q7), .second] [])) st48 ?_
  exact GoW.ret0 X48 hx hlk hS (own_hk e48 hk) Bd.returns (hb hby d1_91) (by rw [e48]; exact ⟨rfl, N48, Kp50, E_a0, F_hitCount, F_missCount, F_loadSuccessCount, F_loadFailureCount, F_totalLoadTime, F_evictionCount, F_evictionWeight, own_lts (s := s) ⟨_, _, _, _, _, _, _, Li_b2, Li_b6, Li_b10, Li_b14, Li_b18, Li_b22, Li_b26⟩ X48.warmed.wide⟩) (by decide) (by decide)
theorem own_m63 (a : Int64) : 0 ≤ (a &&& (9223372036854775807 : Int64)).toInt := by
  have m : (a &&& (9223372036854775807 : Int64)).toInt = a.toInt % (2 ^ 63 : Nat) := c_maskL a 9223372036854775807 63 (by decide) (by decide)
  simp only [Nat.reducePow, Int.cast_ofNat_Int] at m
  omega
theorem own_ceq {x y : UInt64} (hx : Own.Pos x) (hy : Own.Pos y) (o : CmpOp) (h : Own.zm x = Own.zm y) : (cmpValue (FP.dcmp x y) o) = (0 : Int32) := by
  rw [Own.cv hx hy, if_neg (by omega), if_pos h]
theorem own_z {x : Int64} (h : x = 0) : x.toInt = 0 := by rw [h]; rfl
theorem own_lt {x y : Int64} (h : x < y) : x.toInt < y.toInt := Int64.lt_iff_toInt_lt.mp h
theorem own_nn64 {x : Int64} (h : 0 ≤ x.toInt) : ¬ x < (0 : Int64) := by rw [Int64.lt_iff_toInt_lt]; simp only [Int64.reduceToInt]; omega
theorem d5_0 : decode prog_1_method_3_code 0 = .ok (.aload_n 0, 1) := by decide +kernel
theorem d5_1 : decode prog_1_method_3_code 1 = .ok (.getfield 32, 3) := by decide +kernel
theorem d5_4 : decode prog_1_method_3_code 4 = .ok (.aload_n 0, 1) := by decide +kernel
theorem d5_5 : decode prog_1_method_3_code 5 = .ok (.getfield 34, 3) := by decide +kernel
theorem d5_8 : decode prog_1_method_3_code 8 = .ok (.ladd, 1) := by decide +kernel
theorem d5_9 : decode prog_1_method_3_code 9 = .ok (.lstore_n 1, 1) := by decide +kernel
theorem d5_10 : decode prog_1_method_3_code 10 = .ok (.lload_n 1, 1) := by decide +kernel
theorem d5_11 : decode prog_1_method_3_code 11 = .ok (.lconst 0, 1) := by decide +kernel
theorem d5_12 : decode prog_1_method_3_code 12 = .ok (.lcmp, 1) := by decide +kernel
theorem d5_13 : decode prog_1_method_3_code 13 = .ok (.ifCond .ne 7, 3) := by decide +kernel
theorem d5_16 : decode prog_1_method_3_code 16 = .ok (.dconst 0, 1) := by decide +kernel
theorem d5_17 : decode prog_1_method_3_code 17 = .ok (.goto 11, 3) := by decide +kernel
theorem d5_20 : decode prog_1_method_3_code 20 = .ok (.aload_n 0, 1) := by decide +kernel
theorem d5_21 : decode prog_1_method_3_code 21 = .ok (.getfield 36, 3) := by decide +kernel
theorem d5_24 : decode prog_1_method_3_code 24 = .ok (.l2d, 1) := by decide +kernel
theorem d5_25 : decode prog_1_method_3_code 25 = .ok (.lload_n 1, 1) := by decide +kernel
theorem d5_26 : decode prog_1_method_3_code 26 = .ok (.l2d, 1) := by decide +kernel
theorem d5_27 : decode prog_1_method_3_code 27 = .ok (.ddiv, 1) := by decide +kernel
theorem d5_28 : decode prog_1_method_3_code 28 = .ok (.dreturn, 1) := by decide +kernel
theorem ef_5 (m : MethodId) (a0 : Addr) : entryFrame m #[(.ref a0)] 3 = mkF m 0 #[.val (.ref a0), .unset, .unset] [] := by first | (simp [entryFrame, mkF, argsToLocals, Value.category]; done) | rfl
set_option maxRecDepth 65536 in
set_option maxHeartbeats 4000000 in
theorem rmAP (l : Launch) (Z : State) (az : Array Value) (hw : ∀ d ∈ tables_1, d.before az Z = true) (ws : List Jvm.Cond) (a0 : Addr) (sv fv tv : Int64) (h0 : Heap) (n0 : Nat) (Z0 : n0 ≤ h0.size) (F_s : Fld Z h0 a0 "com/example/larder/larder/CacheStats" "loadSuccessCount" "J" (.long sv)) (F_f : Fld Z h0 a0 "com/example/larder/larder/CacheStats" "loadFailureCount" "J" (.long fv)) (F_t : Fld Z h0 a0 "com/example/larder/larder/CacheStats" "totalLoadTime" "J" (.long tv)) (hp : ¬ (sv + fv) = (0 : Int64) → Own.Pos (FP.ddiv (FP.l2d tv) (FP.l2d (sv + fv)))) :
    MetFree l (⟨"com/example/larder/larder/CacheStats", "averageLoadPenalty", "()D"⟩ : MethodName) (head1 (Jvm.Cond.code (⟨"com/example/larder/larder/CacheStats", "averageLoadPenalty", "()D"⟩ : MethodName) prog_1_method_3_code 3 (some .double) :: ws) ({ frames := 0, cells := 0, slots := 0, locals := 0 } : Room)) (fun a U => a = #[(.ref a0)] ∧ Z.Warmed39 U.vm ∧ U.heap = h0) (fun _ _ _ _ _ => True) (fun _ U o U' => ∃ v L, o = .returned v ∧ (PQ (.double (Own.fPen sv fv tv)) n0 h0) v U'.heap L ∧ FrameEnd U o U' L ({ frames := 0, cells := 0, slots := 0, locals := 0 } : Room).cells ({ frames := 0, cells := 0, slots := 0, locals := 0 } : Room).slots) := by
  refine MetFree.of_bodySF (plainFor_of_name pn_1) hisR ?_
  intro p e s m args below meth c s₁ Bd hml0 hP hK
  obtain ⟨rfl, hZ, hh⟩ := hP
  have hx := Bd.exec
  have hby := Bd.bytes
  have hlk : meth.locks = false := Bd.notSynchronized
  have hml : c.maxLocals = 3 := hml0
  have hown : s.vm.findClass "com/example/larder/larder/CacheStats" = some m.cls := findClass_of_methodNamed Bd.named
  have hnm := (name_of_methodNamed Bd.named Bd.method).1
  have X0 : Stand p l e ({ frames := 0, cells := 0, slots := 0, locals := 0 } : Room) s m #[(.ref a0)] below meth c s₁ [] 0 0 := Stand.of_body Bd
  have e0 : s₁.heap = h0 := by rw [← hh, Bd.state]; rfl
  have N0 := Fr.nil n0
  show Go p e below s ((PQ (.double (Own.fPen sv fv tv)) n0 h0)) ({ frames := 0, cells := 0, slots := 0, locals := 0 } : Room).cells ({ frames := 0, cells := 0, slots := 0, locals := 0 } : Room).slots (s₁.setTop (entryFrame m #[(.ref a0)] 3))
  rw [ef_5 m a0]
  refine Go.st (S' := s₁.setTop (mkF m 1 #[.val (.ref a0), .unset, .unset] [(.ref a0)])) (fun _ kk => XS.aloadN X0.here hx rfl (hb hby d5_0) rfl rfl kk) ?_
  obtain ⟨T1, X1, e1, st1⟩ := getF X0 hx hZ hown (host := "") (Or.inl (hw _ (List.mem_of_getElem? (i := 37) rfl))) Via.refl e0 F_s (g := (mkF m 1 #[.val (.ref a0), .unset, .unset] [(.ref a0)])) rfl rfl (hb hby d5_1)
  refine Go.st (S' := T1.setTop (mkF m 4 #[.val (.ref a0), .unset, .unset] [(.long sv)])) st1 ?_
  refine Go.st (S' := T1.setTop (mkF m 5 #[.val (.ref a0), .unset, .unset] [(.ref a0), (.long sv)])) (fun _ kk => XS.aloadN X1.here hx rfl (hb hby d5_4) rfl rfl kk) ?_
  obtain ⟨T2, X2, e2, st2⟩ := getF X1 hx hZ hown (host := "") (Or.inl (hw _ (List.mem_of_getElem? (i := 39) rfl))) Via.refl e1 F_f (g := (mkF m 5 #[.val (.ref a0), .unset, .unset] [(.ref a0), (.long sv)])) rfl rfl (hb hby d5_5)
  refine Go.st (S' := T2.setTop (mkF m 8 #[.val (.ref a0), .unset, .unset] [(.long fv), (.long sv)])) st2 ?_
  refine Go.st (S' := T2.setTop (mkF m 9 #[.val (.ref a0), .unset, .unset] [(.long (sv + fv))])) (fun _ kk => XS.ladd X2.here hx rfl (hb hby d5_8) rfl kk) ?_
  refine Go.st (S' := T2.setTop (mkF m 10 #[.val (.ref a0), .val (.long (sv + fv)), .second] [])) (fun _ kk => XS.lstoreN X2.here hx rfl (hb hby d5_9) rfl (l' := #[.val (.ref a0), .val (.long (sv + fv)), .second]) rfl kk) ?_
  refine Go.st (S' := T2.setTop (mkF m 11 #[.val (.ref a0), .val (.long (sv + fv)), .second] [(.long (sv + fv))])) (fun _ kk => XS.lloadN X2.here hx rfl (hb hby d5_10) rfl kk) ?_
  refine Go.st (S' := T2.setTop (mkF m 12 #[.val (.ref a0), .val (.long (sv + fv)), .second] [(.long (0 : Int64)), (.long (sv + fv))])) (fun _ kk => XS.lconst X2.here hx rfl (hb hby d5_11) kk) ?_
  refine Go.st (S' := T2.setTop (mkF m 13 #[.val (.ref a0), .val (.long (sv + fv)), .second] [(.int (lcmpW (sv + fv) (0 : Int64)))])) (fun _ kk => XS.lcmp X2.here hx rfl (hb hby d5_12) rfl kk) ?_
  by_cases hc3 : (sv + fv) = (0 : Int64)
  · refine Go.st (S' := T2.setTop (mkF m 16 #[.val (.ref a0), .val (.long (sv + fv)), .second] [])) (fun _ kk => XS.ifNo X2.here hx rfl (hb hby d5_13) rfl ((if0 _ _).trans (teq ((lw_eq (sv + fv) (0 : Int64)).mpr hc3)).2) kk) ?_
    refine Go.st (S' := T2.setTop (mkF m 17 #[.val (.ref a0), .val (.long (sv + fv)), .second] [(.double (0 : UInt64))])) (fun _ kk => XS.dconst0 X2.here hx rfl (hb hby d5_16) rfl kk) ?_
    refine Go.st (S' := T2.setTop (mkF m 28 #[.val (.ref a0), .val (.long (sv + fv)), .second] [(.double (0 : UInt64))])) (fun _ kk => XS.goto X2.here hx rfl (pc0 := 17) (pc' := 28) rfl (hb hby d5_17) (by decide) (by decide) kk) ?_
    exact Go.retD X2 hx hlk Bd.returns (hb hby d5_28) (⟨congrArg (fun q => some (Value.double q)) (Eq.symm (show Own.fPen sv fv tv = (0 : UInt64) from if_pos hc3)), N0, e2⟩) (by decide) (by decide)
  · refine Go.st (S' := T2.setTop (mkF m 20 #[.val (.ref a0), .val (.long (sv + fv)), .second] [])) (fun _ kk => XS.ifYes X2.here hx rfl (pc0 := 13) (pc' := 20) rfl (hb hby d5_13) rfl ((if0 _ _).trans (feq (fun q => hc3 ((lw_eq (sv + fv) (0 : Int64)).mp q))).2) (by decide) (by decide) kk) ?_
    refine Go.st (S' := T2.setTop (mkF m 21 #[.val (.ref a0), .val (.long (sv + fv)), .second] [(.ref a0)])) (fun _ kk => XS.aloadN X2.here hx rfl (hb hby d5_20) rfl rfl kk) ?_
    obtain ⟨T4, X4, e4, st4⟩ := getF X2 hx hZ hown (host := "") (Or.inl (hw _ (List.mem_of_getElem? (i := 41) rfl))) Via.refl e2 F_t (g := (mkF m 21 #[.val (.ref a0), .val (.long (sv + fv)), .second] [(.ref a0)])) rfl rfl (hb hby d5_21)
    refine Go.st (S' := T4.setTop (mkF m 24 #[.val (.ref a0), .val (.long (sv + fv)), .second] [(.long tv)])) st4 ?_
    refine Go.st (S' := T4.setTop (mkF m 25 #[.val (.ref a0), .val (.long (sv + fv)), .second] [(.double (FP.l2d tv))])) (fun _ kk => XS.l2dS X4.here hx rfl (hb hby d5_24) rfl rfl kk) ?_
    refine Go.st (S' := T4.setTop (mkF m 26 #[.val (.ref a0), .val (.long (sv + fv)), .second] [(.long (sv + fv)), (.double (FP.l2d tv))])) (fun _ kk => XS.lloadN X4.here hx rfl (hb hby d5_25) rfl kk) ?_
    refine Go.st (S' := T4.setTop (mkF m 27 #[.val (.ref a0), .val (.long (sv + fv)), .second] [(.double (FP.l2d (sv + fv))), (.double (FP.l2d tv))])) (fun _ kk => XS.l2dS X4.here hx rfl (hb hby d5_26) rfl rfl kk) ?_
    refine Go.st (S' := T4.setTop (mkF m 28 #[.val (.ref a0), .val (.long (sv + fv)), .second] [(.double (FP.ddiv (FP.l2d tv) (FP.l2d (sv + fv))))])) (fun _ kk => XS.ddivS X4.here hx rfl (hb hby d5_27) rfl (Own.Pos.noNaN (hp hc3)) rfl kk) ?_
    exact Go.retD X4 hx hlk Bd.returns (hb hby d5_28) (⟨congrArg (fun q => some (Value.double q)) (Eq.symm (show Own.fPen sv fv tv = (FP.ddiv (FP.l2d tv) (FP.l2d (sv + fv))) from if_neg hc3)), N0, e4⟩) (by decide) (by decide)
theorem own_clt {x y : UInt64} (hx : Own.Pos x) (hy : Own.Pos y) (o : CmpOp) (h : Own.zm x < Own.zm y) : (cmpValue (FP.dcmp x y) o) < (0 : Int32) := by
  rw [Own.cv hx hy, if_pos h]; decide
theorem own_and {a cm : Int64} {wd : Int32} (h : cm = (if wd = (0 : Int32) then (67108863 : Int64) else (2251799813685247 : Int64))) : 0 ≤ (a &&& cm).toInt ∧ (a &&& cm).toInt ≤ if wd = 0 then 67108863 else 2251799813685247 := by
  by_cases q : wd = 0
  · rw [if_pos q] at h; subst h; rw [if_pos q]
    have m : (a &&& (67108863 : Int64)).toInt = a.toInt % (2 ^ 26 : Nat) := c_maskL a 67108863 26 (by decide) (by decide)
    simp only [Nat.reducePow, Int.cast_ofNat_Int] at m
    omega
  · rw [if_neg q] at h; subst h; rw [if_neg q]
    have m : (a &&& (2251799813685247 : Int64)).toInt = a.toInt % (2 ^ 51 : Nat) := c_maskL a 2251799813685247 51 (by decide) (by decide)
    simp only [Nat.reducePow, Int.cast_ofNat_Int] at m
    omega
theorem own_sv {a cm sv : Int64} {wd : Int32} {P : Prop} [Decidable P] (h : cm = (if wd = (0 : Int32) then (67108863 : Int64) else (2251799813685247 : Int64))) (hs : sv = (if P then (0 : Int64) else (a &&& cm))) : 0 ≤ sv.toInt ∧ sv.toInt ≤ if wd = 0 then 67108863 else 2251799813685247 := by
  rw [hs]
  split
  · show 0 ≤ (0 : Int) ∧ (0 : Int) ≤ _
    split <;> omega
  · exact own_and h
theorem own_qv {a qm : Int64} {wd : Int32} (h : qm = (if wd = (0 : Int32) then (67108863 : Int64) else (1 : Int64))) : 0 ≤ (a &&& qm).toInt ∧ (a &&& qm).toInt ≤ if wd = 0 then 67108863 else 1 := by
  by_cases q : wd = 0
  · rw [if_pos q] at h; subst h; rw [if_pos q]
    have m : (a &&& (67108863 : Int64)).toInt = a.toInt % (2 ^ 26 : Nat) := c_maskL a 67108863 26 (by decide) (by decide)
    simp only [Nat.reducePow, Int.cast_ofNat_Int] at m
    omega
  · rw [if_neg q] at h; subst h; rw [if_neg q]
    have m : (a &&& (1 : Int64)).toInt = a.toInt % (2 ^ 1 : Nat) := c_maskL a 1 1 (by decide) (by decide)
    simp only [Nat.reducePow, Int.cast_ofNat_Int] at m
    omega
theorem own_nv {sv fv nv : Int64} {wd : Int32} (h1 : 0 ≤ sv.toInt ∧ sv.toInt ≤ if wd = 0 then 67108863 else 2251799813685247) (h2 : 0 ≤ fv.toInt ∧ fv.toInt ≤ if wd = 0 then 67108863 else 2251799813685247) (h : nv = sv + fv) : nv.toInt = sv.toInt + fv.toInt ∧ nv.toInt ≤ if wd = 0 then 134217726 else 4503599627370494 := by
  have q := c_ladd sv fv
  rw [← h] at q
  have b1 := nv.le_toInt
  have b2 := nv.toInt_lt
  simp only [Int.reducePow, Int.reduceNeg] at *
  split at h1 <;> rename_i z <;> simp only [z, if_true, if_false] at h2 ⊢ <;> omega
theorem own_K {wd : Int32} {q n : Int64} (hq : 0 ≤ q.toInt ∧ q.toInt ≤ if wd = 0 then 67108863 else 1) (hn : n.toInt ≤ if wd = 0 then 134217726 else 4503599627370494) : ∃ K, K ≤ 62 ∧ n.toInt ≤ 2 ^ K ∧ (q.toInt + 1) * 2 ^ K ≤ 2 ^ 53 := by
  by_cases z : wd = 0
  · rw [if_pos z] at hq hn
    exact ⟨27, by decide, by omega, by omega⟩
  · rw [if_neg z] at hq hn
    exact ⟨52, by decide, by omega, by omega⟩
theorem own_rv {x n r : Int64} (hx : 0 ≤ x.toInt) (hn : 1 ≤ n.toInt) (h : r = (x - (x / n) * n)) : 0 ≤ r.toInt ∧ r.toInt < n.toInt := by
  have e := (c_lrem x n n.toInt rfl).1 hx
  rw [← h] at e
  have m1 := Int.emod_nonneg x.toInt (b := n.toInt) (by omega)
  have m2 := Int.emod_lt_of_pos x.toInt (b := n.toInt) (by omega)
  omega
theorem own_tv {q n r t : Int64} {K : Nat} (hq : 0 ≤ q.toInt) (hn : 1 ≤ n.toInt) (hr : 0 ≤ r.toInt ∧ r.toInt < n.toInt) (hK : n.toInt ≤ 2 ^ K) (hb : (q.toInt + 1) * 2 ^ K ≤ 2 ^ 53) (h : t = (q * n) + r) : t.toInt = q.toInt * n.toInt + r.toInt := by
  have a := c_lmul q n
  have b := c_ladd (q * n) r
  rw [← h] at b
  have b1 := t.le_toInt
  have b2 := t.toInt_lt
  have h1 : 0 ≤ q.toInt * n.toInt := Int.mul_nonneg hq (by omega)
  have h2 : (q.toInt + 1) * n.toInt ≤ (q.toInt + 1) * 2 ^ K := Int.mul_le_mul_of_nonneg_left hK (by omega)
  have e : (q.toInt + 1) * n.toInt = q.toInt * n.toInt + n.toInt := by rw [Int.add_mul, Int.one_mul]
  generalize q.toInt * n.toInt = P at *
  generalize (q.toInt + 1) * n.toInt = P2 at *
  generalize (q.toInt + 1) * 2 ^ K = P3 at *
  simp only [Int.reducePow, Int.reduceNeg] at *
  omega
theorem own_n1 {sv fv nv : Int64} (h1 : 0 ≤ sv.toInt) (h2 : 0 ≤ fv.toInt) (e : nv.toInt = sv.toInt + fv.toInt) (h : ¬ nv = 0) : 1 ≤ nv.toInt := by
  have : ¬ nv.toInt = 0 := fun z => h (Int64.toInt_inj.mp z)
  omega
theorem own_dp {q : Int64} (h0 : 0 ≤ q.toInt) (h : q.toInt ≤ 2 ^ 53 - 2) : Own.Pos (FP.dadd (FP.l2d q) (4607182418800017408 : UInt64)) ∧ Own.zm (FP.dadd (FP.l2d q) (4607182418800017408 : UInt64)) = (q.toInt.toNat + 1) * Jvm.FP.Core.one64 := by
  have o : (1 : Int64).toInt = 1 := by decide
  have e1 : (4607182418800017408 : UInt64) = FP.l2d 1 := by decide +kernel
  have s : (q + 1).toInt = q.toInt + 1 := by
    have a := c_ladd q 1
    have b1 := (q + (1 : Int64)).le_toInt
    have b2 := (q + (1 : Int64)).toInt_lt
    simp only [Int.reducePow, Int.reduceNeg, o] at *
    omega
  rw [e1, dadd_w (a := q) (b := 1) ⟨by omega, by omega⟩ ⟨by omega, by omega⟩]
  refine ⟨Own.l2d_pos (by omega), ?_⟩
  rw [show Own.zm (FP.l2d (q + 1)) = _ from Own.l2d_exact (by omega) (by omega), s]
  congr 1
  omega
theorem pn_2 : plainName "com/example/larder/larder/CacheStatsAverageLoadPenaltyPinLaw" = true := by first | (simp [plainName, overriddenIn]; done) | decide +kernel
theorem ef_0 (m : MethodId) (q0 : Int64) (q1 : Int64) (q2 : Int64) (q3 : Int64) (p4 : Int32) : entryFrame m #[(.long q0), (.long q1), (.long q2), (.long q3), (.int p4)] maxLocals = mkF m 0 #[.val (.long q0), .second, .val (.long q1), .second, .val (.long q2), .second, .val (.long q3), .second, .val (.int p4), .unset, .unset, .unset, .unset, .unset, .unset, .unset, .unset, .unset, .unset, .unset, .unset, .unset, .unset, .unset, .unset, .unset, .unset, .unset, .unset, .unset, .unset, .unset, .unset, .unset, .unset, .unset, .unset, .unset, .unset] [] := by first | (simp [entryFrame, mkF, argsToLocals, Value.category, maxLocals]; done) | rfl
set_option maxRecDepth 65536 in
set_option maxHeartbeats 4000000 in
theorem rm0 (l : Launch) (Z : State) (az : Array Value) (hw : ∀ d ∈ tables_1, d.before az Z = true) (ws : List Jvm.Cond) (q0 : Int64) (q1 : Int64) (q2 : Int64) (q3 : Int64) (p4 : Int32)  (h0 : Heap) (n0 : Nat) (Z0 : n0 ≤ h0.size)  :
    MetFree l x (head1 (Jvm.Cond.code x code maxLocals ret :: ws) room_1) (fun a U => a = #[(.long q0), (.long q1), (.long q2), (.long q3), (.int p4)] ∧ Z.Warmed39 U.vm ∧ U.heap = h0 ∧ PTr U.vm) (fun _ _ _ _ _ => True) (fun _ U o U' => ∃ v L, o = .returned v ∧ (LQW n0) v U'.heap U'.vm L ∧ ReturnedEndW U o U' L room_1.cells room_1.slots) := by
  refine MetFree.of_bodySF (plainFor_of_name pn_2) hisR ?_
  intro p e s m args below meth c s₁ Bd hml0 hP hK
  obtain ⟨rfl, hZ, hh, hPv⟩ := hP
  have hx := Bd.exec
  have hby := Bd.bytes
  have hlk : meth.locks = false := Bd.notSynchronized
  have hml : c.maxLocals = 39 := hml0
  have hown : s.vm.findClass "com/example/larder/larder/CacheStatsAverageLoadPenaltyPinLaw" = some m.cls := findClass_of_methodNamed Bd.named
  have hnm := (name_of_methodNamed Bd.named Bd.method).1
  have X0 : Stand p l e room_1 s m #[(.long q0), (.long q1), (.long q2), (.long q3), (.int p4)] below meth c s₁ [] 0 0 := Stand.of_body Bd
  have X0 : Stand p l e room_1 (s.setVm s.vm) m #[(.long q0), (.long q1), (.long q2), (.long q3), (.int p4)] below meth c s₁ [] 0 0 := X0
  have e0 : s₁.heap = h0 := by rw [← hh, Bd.state]; rfl
  have hS : s.Since s.vm n0 := (State.WarmedH.refl s).since n0
  have hk : n0 ≤ h0.size := Z0
  have N0 := Fr.nil n0
  show GoW p e below s ((LQW n0)) room_1.cells room_1.slots (s₁.setTop (entryFrame m #[(.long q0), (.long q1), (.long q2), (.long q3), (.int p4)] maxLocals))
  rw [ef_0 m q0 q1 q2 q3 p4]
  obtain ⟨wd, hj_wd⟩ : ∃ z : Int32, z = (if (p4 &&& (1 : Int32)) = (0 : Int32) then (0 : Int32) else (1 : Int32)) := ⟨_, rfl⟩
  have stj1 : ∀ tq, Steps p.tables e below (s₁.setTop (mkF m 12 #[.val (.long q0), .second, .val (.long q1), .second, .val (.long q2), .second, .val (.long q3), .second, .val (.int p4), .unset, .unset, .unset, .unset, .unset, .unset, .unset, .unset, .unset, .unset, .unset, .unset, .unset, .unset, .unset, .unset, .unset, .unset, .unset, .unset, .unset, .unset, .unset, .unset, .unset, .unset, .unset, .unset, .unset, .unset] [(.int wd)])) tq → Steps p.tables e below (s₁.setTop (mkF m 0 #[.val (.long q0), .second, .val (.long q1), .second, .val (.long q2), .second, .val (.long q3), .second, .val (.int p4), .unset, .unset, .unset, .unset, .unset, .unset, .unset, .unset, .unset, .unset, .unset, .unset, .unset, .unset, .unset, .unset, .unset, .unset, .unset, .unset, .unset, .unset, .unset, .unset, .unset, .unset, .unset, .unset, .unset, .unset] [])) tq := by
    intro tq kj
    refine via (S' := s₁.setTop (mkF m 2 #[.val (.long q0), .second, .val (.long q1), .second, .val (.long q2), .second, .val (.long q3), .second, .val (.int p4), .unset, .unset, .unset, .unset, .unset, .unset, .unset, .unset, .unset, .unset, .unset, .unset, .unset, .unset, .unset, .unset, .unset, .unset, .unset, .unset, .unset, .unset, .unset, .unset, .unset, .unset, .unset, .unset, .unset, .unset] [(.int p4)])) (fun kk => XS.iload X0.here hx rfl (hb hby at_0) rfl kk) ?_
    refine via (S' := s₁.setTop (mkF m 3 #[.val (.long q0), .second, .val (.long q1), .second, .val (.long q2), .second, .val (.long q3), .second, .val (.int p4), .unset, .unset, .unset, .unset, .unset, .unset, .unset, .unset, .unset, .unset, .unset, .unset, .unset, .unset, .unset, .unset, .unset, .unset, .unset, .unset, .unset, .unset, .unset, .unset, .unset, .unset, .unset, .unset, .unset, .unset] [(.int (1 : Int32)), (.int p4)])) (fun kk => XS.iconst X0.here hx rfl (hb hby at_2) kk) ?_
    refine via (S' := s₁.setTop (mkF m 4 #[.val (.long q0), .second, .val (.long q1), .second, .val (.long q2), .second, .val (.long q3), .second, .val (.int p4), .unset, .unset, .unset, .unset, .unset, .unset, .unset, .unset, .unset, .unset, .unset, .unset, .unset, .unset, .unset, .unset, .unset, .unset, .unset, .unset, .unset, .unset, .unset, .unset, .unset, .unset, .unset, .unset, .unset, .unset] [(.int (p4 &&& (1 : Int32)))])) (fun kk => XS.iand X0.here hx rfl (hb hby at_3) rfl kk) ?_
    by_cases hc2 : (p4 &&& (1 : Int32)) = (0 : Int32)
    · refine via (S' := s₁.setTop (mkF m 11 #[.val (.long q0), .second, .val (.long q1), .second, .val (.long q2), .second, .val (.long q3), .second, .val (.int p4), .unset, .unset, .unset, .unset, .unset, .unset, .unset, .unset, .unset, .unset, .unset, .unset, .unset, .unset, .unset, .unset, .unset, .unset, .unset, .unset, .unset, .unset, .unset, .unset, .unset, .unset, .unset, .unset, .unset, .unset] [])) (fun kk => XS.ifYes X0.here hx rfl (pc0 := 4) (pc' := 11) rfl (hb hby at_4) rfl ((if0 _ _).trans (teq hc2).1) (by decide) (by decide) kk) ?_
      refine via (S' := s₁.setTop (mkF m 12 #[.val (.long q0), .second, .val (.long q1), .second, .val (.long q2), .second, .val (.long q3), .second, .val (.int p4), .unset, .unset, .unset, .unset, .unset, .unset, .unset, .unset, .unset, .unset, .unset, .unset, .unset, .unset, .unset, .unset, .unset, .unset, .unset, .unset, .unset, .unset, .unset, .unset, .unset, .unset, .unset, .unset, .unset, .unset] [(.int (0 : Int32))])) (fun kk => XS.iconst X0.here hx rfl (hb hby at_11) kk) ?_
      have qj_wd : wd = (0 : Int32) := hj_wd.trans (by rw [if_pos hc2])
      rw [qj_wd] at kj
      exact kj
    · refine via (S' := s₁.setTop (mkF m 7 #[.val (.long q0), .second, .val (.long q1), .second, .val (.long q2), .second, .val (.long q3), .second, .val (.int p4), .unset, .unset, .unset, .unset, .unset, .unset, .unset, .unset, .unset, .unset, .unset, .unset, .unset, .unset, .unset, .unset, .unset, .unset, .unset, .unset, .unset, .unset, .unset, .unset, .unset, .unset, .unset, .unset, .unset, .unset] [])) (fun kk => XS.ifNo X0.here hx rfl (hb hby at_4) rfl ((if0 _ _).trans (feq hc2).1) kk) ?_
      refine via (S' := s₁.setTop (mkF m 8 #[.val (.long q0), .second, .val (.long q1), .second, .val (.long q2), .second, .val (.long q3), .second, .val (.int p4), .unset, .unset, .unset, .unset, .unset, .unset, .unset, .unset, .unset, .unset, .unset, .unset, .unset, .unset, .unset, .unset, .unset, .unset, .unset, .unset, .unset, .unset, .unset, .unset, .unset, .unset, .unset, .unset, .unset, .unset] [(.int (1 : Int32))])) (fun kk => XS.iconst X0.here hx rfl (hb hby at_7) kk) ?_
      refine via (S' := s₁.setTop (mkF m 12 #[.val (.long q0), .second, .val (.long q1), .second, .val (.long q2), .second, .val (.long q3), .second, .val (.int p4), .unset, .unset, .unset, .unset, .unset, .unset, .unset, .unset, .unset, .unset, .unset, .unset, .unset, .unset, .unset, .unset, .unset, .unset, .unset, .unset, .unset, .unset, .unset, .unset, .unset, .unset, .unset, .unset, .unset, .unset] [(.int (1 : Int32))])) (fun kk => XS.goto X0.here hx rfl (pc0 := 8) (pc' := 12) rfl (hb hby at_8) (by decide) (by decide) kk) ?_
      have qj_wd : wd = (1 : Int32) := hj_wd.trans (by rw [if_neg hc2])
      rw [qj_wd] at kj
      exact kj
  refine GoW.st (S' := s₁.setTop (mkF m 12 #[.val (.long q0), .second, .val (.long q1), .second, .val (.long q2), .second, .val (.long q3), .second, .val (.int p4), .unset, .unset, .unset, .unset, .unset, .unset, .unset, .unset, .unset, .unset, .unset, .unset, .unset, .unset, .unset, .unset, .unset, .unset, .unset, .unset, .unset, .unset, .unset, .unset, .unset, .unset, .unset, .unset, .unset, .unset] [(.int wd)])) stj1 ?_
  refine GoW.st (S' := s₁.setTop (mkF m 14 #[.val (.long q0), .second, .val (.long q1), .second, .val (.long q2), .second, .val (.long q3), .second, .val (.int p4), .val (.int wd), .unset, .unset, .unset, .unset, .unset, .unset, .unset, .unset, .unset, .unset, .unset, .unset, .unset, .unset, .unset, .unset, .unset, .unset, .unset, .unset, .unset, .unset, .unset, .unset, .unset, .unset, .unset, .unset, .unset] [])) (fun _ kk => XS.istore X0.here hx rfl (hb hby at_12) rfl (l' := #[.val (.long q0), .second, .val (.long q1), .second, .val (.long q2), .second, .val (.long q3), .second, .val (.int p4), .val (.int wd), .unset, .unset, .unset, .unset, .unset, .unset, .unset, .unset, .unset, .unset, .unset, .unset, .unset, .unset, .unset, .unset, .unset, .unset, .unset, .unset, .unset, .unset, .unset, .unset, .unset, .unset, .unset, .unset, .unset]) rfl kk) ?_
  obtain ⟨cm, hj_cm⟩ : ∃ z : Int64, z = (if wd = (0 : Int32) then (67108863 : Int64) else (2251799813685247 : Int64)) := ⟨_, rfl⟩
  have stj3 : ∀ tq, Steps p.tables e below (s₁.setTop (mkF m 28 #[.val (.long q0), .second, .val (.long q1), .second, .val (.long q2), .second, .val (.long q3), .second, .val (.int p4), .val (.int wd), .unset, .unset, .unset, .unset, .unset, .unset, .unset, .unset, .unset, .unset, .unset, .unset, .unset, .unset, .unset, .unset, .unset, .unset, .unset, .unset, .unset, .unset, .unset, .unset, .unset, .unset, .unset, .unset, .unset] [(.long cm)])) tq → Steps p.tables e below (s₁.setTop (mkF m 14 #[.val (.long q0), .second, .val (.long q1), .second, .val (.long q2), .second, .val (.long q3), .second, .val (.int p4), .val (.int wd), .unset, .unset, .unset, .unset, .unset, .unset, .unset, .unset, .unset, .unset, .unset, .unset, .unset, .unset, .unset, .unset, .unset, .unset, .unset, .unset, .unset, .unset, .unset, .unset, .unset, .unset, .unset, .unset, .unset] [])) tq := by
    intro tq kj
    refine via (S' := s₁.setTop (mkF m 16 #[.val (.long q0), .second, .val (.long q1), .second, .val (.long q2), .second, .val (.long q3), .second, .val (.int p4), .val (.int wd), .unset, .unset, .unset, .unset, .unset, .unset, .unset, .unset, .unset, .unset, .unset, .unset, .unset, .unset, .unset, .unset, .unset, .unset, .unset, .unset, .unset, .unset, .unset, .unset, .unset, .unset, .unset, .unset, .unset] [(.int wd)])) (fun kk => XS.iload X0.here hx rfl (hb hby at_14) rfl kk) ?_
    by_cases hc4 : wd = (0 : Int32)
    · refine via (S' := s₁.setTop (mkF m 25 #[.val (.long q0), .second, .val (.long q1), .second, .val (.long q2), .second, .val (.long q3), .second, .val (.int p4), .val (.int wd), .unset, .unset, .unset, .unset, .unset, .unset, .unset, .unset, .unset, .unset, .unset, .unset, .unset, .unset, .unset, .unset, .unset, .unset, .unset, .unset, .unset, .unset, .unset, .unset, .unset, .unset, .unset, .unset, .unset] [])) (fun kk => XS.ifYes X0.here hx rfl (pc0 := 16) (pc' := 25) rfl (hb hby at_16) rfl ((if0 _ _).trans (teq hc4).1) (by decide) (by decide) kk) ?_
      refine via (S' := s₁.setTop (mkF m 28 #[.val (.long q0), .second, .val (.long q1), .second, .val (.long q2), .second, .val (.long q3), .second, .val (.int p4), .val (.int wd), .unset, .unset, .unset, .unset, .unset, .unset, .unset, .unset, .unset, .unset, .unset, .unset, .unset, .unset, .unset, .unset, .unset, .unset, .unset, .unset, .unset, .unset, .unset, .unset, .unset, .unset, .unset, .unset, .unset] [(.long (67108863 : Int64))])) (fun kk => X0.ldc2Long hx hown (mvT hZ (hw _ (List.mem_of_getElem? (i := 52) rfl))) (g := (mkF m 25 #[.val (.long q0), .second, .val (.long q1), .second, .val (.long q2), .second, .val (.long q3), .second, .val (.int p4), .val (.int wd), .unset, .unset, .unset, .unset, .unset, .unset, .unset, .unset, .unset, .unset, .unset, .unset, .unset, .unset, .unset, .unset, .unset, .unset, .unset, .unset, .unset, .unset, .unset, .unset, .unset, .unset, .unset, .unset, .unset] [])) rfl (hb hby at_25) _ kk) ?_
      have qj_cm : cm = (67108863 : Int64) := hj_cm.trans (by rw [if_pos hc4])
      rw [qj_cm] at kj
      exact kj
    · refine via (S' := s₁.setTop (mkF m 19 #[.val (.long q0), .second, .val (.long q1), .second, .val (.long q2), .second, .val (.long q3), .second, .val (.int p4), .val (.int wd), .unset, .unset, .unset, .unset, .unset, .unset, .unset, .unset, .unset, .unset, .unset, .unset, .unset, .unset, .unset, .unset, .unset, .unset, .unset, .unset, .unset, .unset, .unset, .unset, .unset, .unset, .unset, .unset, .unset] [])) (fun kk => XS.ifNo X0.here hx rfl (hb hby at_16) rfl ((if0 _ _).trans (feq hc4).1) kk) ?_
      refine via (S' := s₁.setTop (mkF m 22 #[.val (.long q0), .second, .val (.long q1), .second, .val (.long q2), .second, .val (.long q3), .second, .val (.int p4), .val (.int wd), .unset, .unset, .unset, .unset, .unset, .unset, .unset, .unset, .unset, .unset, .unset, .unset, .unset, .unset, .unset, .unset, .unset, .unset, .unset, .unset, .unset, .unset, .unset, .unset, .unset, .unset, .unset, .unset, .unset] [(.long (2251799813685247 : Int64))])) (fun kk => X0.ldc2Long hx hown (mvT hZ (hw _ (List.mem_of_getElem? (i := 0) rfl))) (g := (mkF m 19 #[.val (.long q0), .second, .val (.long q1), .second, .val (.long q2), .second, .val (.long q3), .second, .val (.int p4), .val (.int wd), .unset, .unset, .unset, .unset, .unset, .unset, .unset, .unset, .unset, .unset, .unset, .unset, .unset, .unset, .unset, .unset, .unset, .unset, .unset, .unset, .unset, .unset, .unset, .unset, .unset, .unset, .unset, .unset, .unset] [])) rfl (hb hby at_19) _ kk) ?_
      refine via (S' := s₁.setTop (mkF m 28 #[.val (.long q0), .second, .val (.long q1), .second, .val (.long q2), .second, .val (.long q3), .second, .val (.int p4), .val (.int wd), .unset, .unset, .unset, .unset, .unset, .unset, .unset, .unset, .unset, .unset, .unset, .unset, .unset, .unset, .unset, .unset, .unset, .unset, .unset, .unset, .unset, .unset, .unset, .unset, .unset, .unset, .unset, .unset, .unset] [(.long (2251799813685247 : Int64))])) (fun kk => XS.goto X0.here hx rfl (pc0 := 22) (pc' := 28) rfl (hb hby at_22) (by decide) (by decide) kk) ?_
      have qj_cm : cm = (2251799813685247 : Int64) := hj_cm.trans (by rw [if_neg hc4])
      rw [qj_cm] at kj
      exact kj
  refine GoW.st (S' := s₁.setTop (mkF m 28 #[.val (.long q0), .second, .val (.long q1), .second, .val (.long q2), .second, .val (.long q3), .second, .val (.int p4), .val (.int wd), .unset, .unset, .unset, .unset, .unset, .unset, .unset, .unset, .unset, .unset, .unset, .unset, .unset, .unset, .unset, .unset, .unset, .unset, .unset, .unset, .unset, .unset, .unset, .unset, .unset, .unset, .unset, .unset, .unset] [(.long cm)])) stj3 ?_
  refine GoW.st (S' := s₁.setTop (mkF m 30 #[.val (.long q0), .second, .val (.long q1), .second, .val (.long q2), .second, .val (.long q3), .second, .val (.int p4), .val (.int wd), .val (.long cm), .second, .unset, .unset, .unset, .unset, .unset, .unset, .unset, .unset, .unset, .unset, .unset, .unset, .unset, .unset, .unset, .unset, .unset, .unset, .unset, .unset, .unset, .unset, .unset, .unset, .unset, .unset, .unset] [])) (fun _ kk => XS.lstore X0.here hx rfl (hb hby at_28) rfl (l' := #[.val (.long q0), .second, .val (.long q1), .second, .val (.long q2), .second, .val (.long q3), .second, .val (.int p4), .val (.int wd), .val (.long cm), .second, .unset, .unset, .unset, .unset, .unset, .unset, .unset, .unset, .unset, .unset, .unset, .unset, .unset, .unset, .unset, .unset, .unset, .unset, .unset, .unset, .unset, .unset, .unset, .unset, .unset, .unset, .unset]) rfl kk) ?_
  refine GoW.st (S' := s₁.setTop (mkF m 31 #[.val (.long q0), .second, .val (.long q1), .second, .val (.long q2), .second, .val (.long q3), .second, .val (.int p4), .val (.int wd), .val (.long cm), .second, .unset, .unset, .unset, .unset, .unset, .unset, .unset, .unset, .unset, .unset, .unset, .unset, .unset, .unset, .unset, .unset, .unset, .unset, .unset, .unset, .unset, .unset, .unset, .unset, .unset, .unset, .unset] [(.long q0)])) (fun _ kk => XS.lloadN X0.here hx rfl (hb hby at_30) rfl kk) ?_
  refine GoW.st (S' := s₁.setTop (mkF m 33 #[.val (.long q0), .second, .val (.long q1), .second, .val (.long q2), .second, .val (.long q3), .second, .val (.int p4), .val (.int wd), .val (.long cm), .second, .unset, .unset, .unset, .unset, .unset, .unset, .unset, .unset, .unset, .unset, .unset, .unset, .unset, .unset, .unset, .unset, .unset, .unset, .unset, .unset, .unset, .unset, .unset, .unset, .unset, .unset, .unset] [(.long cm), (.long q0)])) (fun _ kk => XS.lload X0.here hx rfl (hb hby at_31) rfl kk) ?_
  refine GoW.st (S' := s₁.setTop (mkF m 34 #[.val (.long q0), .second, .val (.long q1), .second, .val (.long q2), .second, .val (.long q3), .second, .val (.int p4), .val (.int wd), .val (.long cm), .second, .unset, .unset, .unset, .unset, .unset, .unset, .unset, .unset, .unset, .unset, .unset, .unset, .unset, .unset, .unset, .unset, .unset, .unset, .unset, .unset, .unset, .unset, .unset, .unset, .unset, .unset, .unset] [(.long (q0 &&& cm))])) (fun _ kk => XS.land X0.here hx rfl (hb hby at_33) rfl kk) ?_
  refine GoW.st (S' := s₁.setTop (mkF m 36 #[.val (.long q0), .second, .val (.long q1), .second, .val (.long q2), .second, .val (.long q3), .second, .val (.int p4), .val (.int wd), .val (.long cm), .second, .val (.long (q0 &&& cm)), .second, .unset, .unset, .unset, .unset, .unset, .unset, .unset, .unset, .unset, .unset, .unset, .unset, .unset, .unset, .unset, .unset, .unset, .unset, .unset, .unset, .unset, .unset, .unset, .unset, .unset] [])) (fun _ kk => XS.lstore X0.here hx rfl (hb hby at_34) rfl (l' := #[.val (.long q0), .second, .val (.long q1), .second, .val (.long q2), .second, .val (.long q3), .second, .val (.int p4), .val (.int wd), .val (.long cm), .second, .val (.long (q0 &&& cm)), .second, .unset, .unset, .unset, .unset, .unset, .unset, .unset, .unset, .unset, .unset, .unset, .unset, .unset, .unset, .unset, .unset, .unset, .unset, .unset, .unset, .unset, .unset, .unset, .unset, .unset]) rfl kk) ?_
  refine GoW.st (S' := s₁.setTop (mkF m 37 #[.val (.long q0), .second, .val (.long q1), .second, .val (.long q2), .second, .val (.long q3), .second, .val (.int p4), .val (.int wd), .val (.long cm), .second, .val (.long (q0 &&& cm)), .second, .unset, .unset, .unset, .unset, .unset, .unset, .unset, .unset, .unset, .unset, .unset, .unset, .unset, .unset, .unset, .unset, .unset, .unset, .unset, .unset, .unset, .unset, .unset, .unset, .unset] [(.long q1)])) (fun _ kk => XS.lloadN X0.here hx rfl (hb hby at_36) rfl kk) ?_
  refine GoW.st (S' := s₁.setTop (mkF m 39 #[.val (.long q0), .second, .val (.long q1), .second, .val (.long q2), .second, .val (.long q3), .second, .val (.int p4), .val (.int wd), .val (.long cm), .second, .val (.long (q0 &&& cm)), .second, .unset, .unset, .unset, .unset, .unset, .unset, .unset, .unset, .unset, .unset, .unset, .unset, .unset, .unset, .unset, .unset, .unset, .unset, .unset, .unset, .unset, .unset, .unset, .unset, .unset] [(.long cm), (.long q1)])) (fun _ kk => XS.lload X0.here hx rfl (hb hby at_37) rfl kk) ?_
  refine GoW.st (S' := s₁.setTop (mkF m 40 #[.val (.long q0), .second, .val (.long q1), .second, .val (.long q2), .second, .val (.long q3), .second, .val (.int p4), .val (.int wd), .val (.long cm), .second, .val (.long (q0 &&& cm)), .second, .unset, .unset, .unset, .unset, .unset, .unset, .unset, .unset, .unset, .unset, .unset, .unset, .unset, .unset, .unset, .unset, .unset, .unset, .unset, .unset, .unset, .unset, .unset, .unset, .unset] [(.long (q1 &&& cm))])) (fun _ kk => XS.land X0.here hx rfl (hb hby at_39) rfl kk) ?_
  refine GoW.st (S' := s₁.setTop (mkF m 42 #[.val (.long q0), .second, .val (.long q1), .second, .val (.long q2), .second, .val (.long q3), .second, .val (.int p4), .val (.int wd), .val (.long cm), .second, .val (.long (q0 &&& cm)), .second, .val (.long (q1 &&& cm)), .second, .unset, .unset, .unset, .unset, .unset, .unset, .unset, .unset, .unset, .unset, .unset, .unset, .unset, .unset, .unset, .unset, .unset, .unset, .unset, .unset, .unset, .unset, .unset] [])) (fun _ kk => XS.lstore X0.here hx rfl (hb hby at_40) rfl (l' := #[.val (.long q0), .second, .val (.long q1), .second, .val (.long q2), .second, .val (.long q3), .second, .val (.int p4), .val (.int wd), .val (.long cm), .second, .val (.long (q0 &&& cm)), .second, .val (.long (q1 &&& cm)), .second, .unset, .unset, .unset, .unset, .unset, .unset, .unset, .unset, .unset, .unset, .unset, .unset, .unset, .unset, .unset, .unset, .unset, .unset, .unset, .unset, .unset, .unset, .unset]) rfl kk) ?_
  obtain ⟨sv, hj_sv⟩ : ∃ z : Int64, z = (if (p4 &&& (6 : Int32)) = (6 : Int32) then (0 : Int64) else (q0 &&& cm)) := ⟨_, rfl⟩
  obtain ⟨fv, hj_fv⟩ : ∃ z : Int64, z = (if (p4 &&& (6 : Int32)) = (6 : Int32) then (0 : Int64) else (q1 &&& cm)) := ⟨_, rfl⟩
  have stj5 : ∀ tq, Steps p.tables e below (s₁.setTop (mkF m 58 #[.val (.long q0), .second, .val (.long q1), .second, .val (.long q2), .second, .val (.long q3), .second, .val (.int p4), .val (.int wd), .val (.long cm), .second, .val (.long sv), .second, .val (.long fv), .second, .unset, .unset, .unset, .unset, .unset, .unset, .unset, .unset, .unset, .unset, .unset, .unset, .unset, .unset, .unset, .unset, .unset, .unset, .unset, .unset, .unset, .unset, .unset] [])) tq → Steps p.tables e below (s₁.setTop (mkF m 42 #[.val (.long q0), .second, .val (.long q1), .second, .val (.long q2), .second, .val (.long q3), .second, .val (.int p4), .val (.int wd), .val (.long cm), .second, .val (.long (q0 &&& cm)), .second, .val (.long (q1 &&& cm)), .second, .unset, .unset, .unset, .unset, .unset, .unset, .unset, .unset, .unset, .unset, .unset, .unset, .unset, .unset, .unset, .unset, .unset, .unset, .unset, .unset, .unset, .unset, .unset] [])) tq := by
    intro tq kj
    refine via (S' := s₁.setTop (mkF m 44 #[.val (.long q0), .second, .val (.long q1), .second, .val (.long q2), .second, .val (.long q3), .second, .val (.int p4), .val (.int wd), .val (.long cm), .second, .val (.long (q0 &&& cm)), .second, .val (.long (q1 &&& cm)), .second, .unset, .unset, .unset, .unset, .unset, .unset, .unset, .unset, .unset, .unset, .unset, .unset, .unset, .unset, .unset, .unset, .unset, .unset, .unset, .unset, .unset, .unset, .unset] [(.int p4)])) (fun kk => XS.iload X0.here hx rfl (hb hby at_42) rfl kk) ?_
    refine via (S' := s₁.setTop (mkF m 46 #[.val (.long q0), .second, .val (.long q1), .second, .val (.long q2), .second, .val (.long q3), .second, .val (.int p4), .val (.int wd), .val (.long cm), .second, .val (.long (q0 &&& cm)), .second, .val (.long (q1 &&& cm)), .second, .unset, .unset, .unset, .unset, .unset, .unset, .unset, .unset, .unset, .unset, .unset, .unset, .unset, .unset, .unset, .unset, .unset, .unset, .unset, .unset, .unset, .unset, .unset] [(.int (6 : Int32)), (.int p4)])) (fun kk => XS.bipush X0.here hx rfl (hb hby at_44) kk) ?_
    refine via (S' := s₁.setTop (mkF m 47 #[.val (.long q0), .second, .val (.long q1), .second, .val (.long q2), .second, .val (.long q3), .second, .val (.int p4), .val (.int wd), .val (.long cm), .second, .val (.long (q0 &&& cm)), .second, .val (.long (q1 &&& cm)), .second, .unset, .unset, .unset, .unset, .unset, .unset, .unset, .unset, .unset, .unset, .unset, .unset, .unset, .unset, .unset, .unset, .unset, .unset, .unset, .unset, .unset, .unset, .unset] [(.int (p4 &&& (6 : Int32)))])) (fun kk => XS.iand X0.here hx rfl (hb hby at_46) rfl kk) ?_
    refine via (S' := s₁.setTop (mkF m 49 #[.val (.long q0), .second, .val (.long q1), .second, .val (.long q2), .second, .val (.long q3), .second, .val (.int p4), .val (.int wd), .val (.long cm), .second, .val (.long (q0 &&& cm)), .second, .val (.long (q1 &&& cm)), .second, .unset, .unset, .unset, .unset, .unset, .unset, .unset, .unset, .unset, .unset, .unset, .unset, .unset, .unset, .unset, .unset, .unset, .unset, .unset, .unset, .unset, .unset, .unset] [(.int (6 : Int32)), (.int (p4 &&& (6 : Int32)))])) (fun kk => XS.bipush X0.here hx rfl (hb hby at_47) kk) ?_
    by_cases hc6 : (p4 &&& (6 : Int32)) = (6 : Int32)
    · refine via (S' := s₁.setTop (mkF m 52 #[.val (.long q0), .second, .val (.long q1), .second, .val (.long q2), .second, .val (.long q3), .second, .val (.int p4), .val (.int wd), .val (.long cm), .second, .val (.long (q0 &&& cm)), .second, .val (.long (q1 &&& cm)), .second, .unset, .unset, .unset, .unset, .unset, .unset, .unset, .unset, .unset, .unset, .unset, .unset, .unset, .unset, .unset, .unset, .unset, .unset, .unset, .unset, .unset, .unset, .unset] [])) (fun kk => XS.icmpNo X0.here hx rfl (hb hby at_49) rfl (teq hc6).2 kk) ?_
      refine via (S' := s₁.setTop (mkF m 53 #[.val (.long q0), .second, .val (.long q1), .second, .val (.long q2), .second, .val (.long q3), .second, .val (.int p4), .val (.int wd), .val (.long cm), .second, .val (.long (q0 &&& cm)), .second, .val (.long (q1 &&& cm)), .second, .unset, .unset, .unset, .unset, .unset, .unset, .unset, .unset, .unset, .unset, .unset, .unset, .unset, .unset, .unset, .unset, .unset, .unset, .unset, .unset, .unset, .unset, .unset] [(.long (0 : Int64))])) (fun kk => XS.lconst X0.here hx rfl (hb hby at_52) kk) ?_
      refine via (S' := s₁.setTop (mkF m 55 #[.val (.long q0), .second, .val (.long q1), .second, .val (.long q2), .second, .val (.long q3), .second, .val (.int p4), .val (.int wd), .val (.long cm), .second, .val (.long (0 : Int64)), .second, .val (.long (q1 &&& cm)), .second, .unset, .unset, .unset, .unset, .unset, .unset, .unset, .unset, .unset, .unset, .unset, .unset, .unset, .unset, .unset, .unset, .unset, .unset, .unset, .unset, .unset, .unset, .unset] [])) (fun kk => XS.lstore X0.here hx rfl (hb hby at_53) rfl (l' := #[.val (.long q0), .second, .val (.long q1), .second, .val (.long q2), .second, .val (.long q3), .second, .val (.int p4), .val (.int wd), .val (.long cm), .second, .val (.long (0 : Int64)), .second, .val (.long (q1 &&& cm)), .second, .unset, .unset, .unset, .unset, .unset, .unset, .unset, .unset, .unset, .unset, .unset, .unset, .unset, .unset, .unset, .unset, .unset, .unset, .unset, .unset, .unset, .unset, .unset]) rfl kk) ?_
      refine via (S' := s₁.setTop (mkF m 56 #[.val (.long q0), .second, .val (.long q1), .second, .val (.long q2), .second, .val (.long q3), .second, .val (.int p4), .val (.int wd), .val (.long cm), .second, .val (.long (0 : Int64)), .second, .val (.long (q1 &&& cm)), .second, .unset, .unset, .unset, .unset, .unset, .unset, .unset, .unset, .unset, .unset, .unset, .unset, .unset, .unset, .unset, .unset, .unset, .unset, .unset, .unset, .unset, .unset, .unset] [(.long (0 : Int64))])) (fun kk => XS.lconst X0.here hx rfl (hb hby at_55) kk) ?_
      refine via (S' := s₁.setTop (mkF m 58 #[.val (.long q0), .second, .val (.long q1), .second, .val (.long q2), .second, .val (.long q3), .second, .val (.int p4), .val (.int wd), .val (.long cm), .second, .val (.long (0 : Int64)), .second, .val (.long (0 : Int64)), .second, .unset, .unset, .unset, .unset, .unset, .unset, .unset, .unset, .unset, .unset, .unset, .unset, .unset, .unset, .unset, .unset, .unset, .unset, .unset, .unset, .unset, .unset, .unset] [])) (fun kk => XS.lstore X0.here hx rfl (hb hby at_56) rfl (l' := #[.val (.long q0), .second, .val (.long q1), .second, .val (.long q2), .second, .val (.long q3), .second, .val (.int p4), .val (.int wd), .val (.long cm), .second, .val (.long (0 : Int64)), .second, .val (.long (0 : Int64)), .second, .unset, .unset, .unset, .unset, .unset, .unset, .unset, .unset, .unset, .unset, .unset, .unset, .unset, .unset, .unset, .unset, .unset, .unset, .unset, .unset, .unset, .unset, .unset]) rfl kk) ?_
      have qj_sv : sv = (0 : Int64) := hj_sv.trans (by rw [if_pos hc6])
      rw [qj_sv] at kj
      have qj_fv : fv = (0 : Int64) := hj_fv.trans (by rw [if_pos hc6])
      rw [qj_fv] at kj
      exact kj
    · refine via (S' := s₁.setTop (mkF m 58 #[.val (.long q0), .second, .val (.long q1), .second, .val (.long q2), .second, .val (.long q3), .second, .val (.int p4), .val (.int wd), .val (.long cm), .second, .val (.long (q0 &&& cm)), .second, .val (.long (q1 &&& cm)), .second, .unset, .unset, .unset, .unset, .unset, .unset, .unset, .unset, .unset, .unset, .unset, .unset, .unset, .unset, .unset, .unset, .unset, .unset, .unset, .unset, .unset, .unset, .unset] [])) (fun kk => XS.icmpYes X0.here hx rfl (pc0 := 49) (pc' := 58) rfl (hb hby at_49) rfl (feq hc6).2 (by decide) (by decide) kk) ?_
      have qj_sv : sv = (q0 &&& cm) := hj_sv.trans (by rw [if_neg hc6])
      rw [qj_sv] at kj
      have qj_fv : fv = (q1 &&& cm) := hj_fv.trans (by rw [if_neg hc6])
      rw [qj_fv] at kj
      exact kj
  refine GoW.st (S' := s₁.setTop (mkF m 58 #[.val (.long q0), .second, .val (.long q1), .second, .val (.long q2), .second, .val (.long q3), .second, .val (.int p4), .val (.int wd), .val (.long cm), .second, .val (.long sv), .second, .val (.long fv), .second, .unset, .unset, .unset, .unset, .unset, .unset, .unset, .unset, .unset, .unset, .unset, .unset, .unset, .unset, .unset, .unset, .unset, .unset, .unset, .unset, .unset, .unset, .unset] [])) stj5 ?_
  have bs := own_sv hj_cm hj_sv
  have bf := own_sv hj_cm hj_fv
  refine GoW.st (S' := s₁.setTop (mkF m 60 #[.val (.long q0), .second, .val (.long q1), .second, .val (.long q2), .second, .val (.long q3), .second, .val (.int p4), .val (.int wd), .val (.long cm), .second, .val (.long sv), .second, .val (.long fv), .second, .unset, .unset, .unset, .unset, .unset, .unset, .unset, .unset, .unset, .unset, .unset, .unset, .unset, .unset, .unset, .unset, .unset, .unset, .unset, .unset, .unset, .unset, .unset] [(.long q3)])) (fun _ kk => XS.lload X0.here hx rfl (hb hby at_58) rfl kk) ?_
  refine GoW.st (S' := s₁.setTop (mkF m 63 #[.val (.long q0), .second, .val (.long q1), .second, .val (.long q2), .second, .val (.long q3), .second, .val (.int p4), .val (.int wd), .val (.long cm), .second, .val (.long sv), .second, .val (.long fv), .second, .unset, .unset, .unset, .unset, .unset, .unset, .unset, .unset, .unset, .unset, .unset, .unset, .unset, .unset, .unset, .unset, .unset, .unset, .unset, .unset, .unset, .unset, .unset] [(.long (9223372036854775807 : Int64)), (.long q3)])) (fun _ kk => X0.ldc2Long hx hown (mvT hZ (hw _ (List.mem_of_getElem? (i := 1) rfl))) (g := (mkF m 60 #[.val (.long q0), .second, .val (.long q1), .second, .val (.long q2), .second, .val (.long q3), .second, .val (.int p4), .val (.int wd), .val (.long cm), .second, .val (.long sv), .second, .val (.long fv), .second, .unset, .unset, .unset, .unset, .unset, .unset, .unset, .unset, .unset, .unset, .unset, .unset, .unset, .unset, .unset, .unset, .unset, .unset, .unset, .unset, .unset, .unset, .unset] [(.long q3)])) rfl (hb hby at_60) _ kk) ?_
  refine GoW.st (S' := s₁.setTop (mkF m 64 #[.val (.long q0), .second, .val (.long q1), .second, .val (.long q2), .second, .val (.long q3), .second, .val (.int p4), .val (.int wd), .val (.long cm), .second, .val (.long sv), .second, .val (.long fv), .second, .unset, .unset, .unset, .unset, .unset, .unset, .unset, .unset, .unset, .unset, .unset, .unset, .unset, .unset, .unset, .unset, .unset, .unset, .unset, .unset, .unset, .unset, .unset] [(.long (q3 &&& (9223372036854775807 : Int64)))])) (fun _ kk => XS.land X0.here hx rfl (hb hby at_63) rfl kk) ?_
  obtain ⟨ht_, h_ht_⟩ : ∃ z : Int64, z = (q3 &&& (9223372036854775807 : Int64)) := ⟨_, rfl⟩
  rw [← h_ht_]
  have nn_ht_ := own_nn64 (show 0 ≤ ht_.toInt from by rw [h_ht_]; exact own_m63 _)
  refine GoW.st (S' := s₁.setTop (mkF m 66 #[.val (.long q0), .second, .val (.long q1), .second, .val (.long q2), .second, .val (.long q3), .second, .val (.int p4), .val (.int wd), .val (.long cm), .second, .val (.long sv), .second, .val (.long fv), .second, .val (.long ht_), .second, .unset, .unset, .unset, .unset, .unset, .unset, .unset, .unset, .unset, .unset, .unset, .unset, .unset, .unset, .unset, .unset, .unset, .unset, .unset, .unset, .unset] [])) (fun _ kk => XS.lstore X0.here hx rfl (hb hby at_64) rfl (l' := #[.val (.long q0), .second, .val (.long q1), .second, .val (.long q2), .second, .val (.long q3), .second, .val (.int p4), .val (.int wd), .val (.long cm), .second, .val (.long sv), .second, .val (.long fv), .second, .val (.long ht_), .second, .unset, .unset, .unset, .unset, .unset, .unset, .unset, .unset, .unset, .unset, .unset, .unset, .unset, .unset, .unset, .unset, .unset, .unset, .unset, .unset, .unset]) rfl kk) ?_
  refine GoW.st (S' := s₁.setTop (mkF m 68 #[.val (.long q0), .second, .val (.long q1), .second, .val (.long q2), .second, .val (.long q3), .second, .val (.int p4), .val (.int wd), .val (.long cm), .second, .val (.long sv), .second, .val (.long fv), .second, .val (.long ht_), .second, .unset, .unset, .unset, .unset, .unset, .unset, .unset, .unset, .unset, .unset, .unset, .unset, .unset, .unset, .unset, .unset, .unset, .unset, .unset, .unset, .unset] [(.long q2)])) (fun _ kk => XS.lload X0.here hx rfl (hb hby at_66) rfl kk) ?_
  refine GoW.st (S' := s₁.setTop (mkF m 71 #[.val (.long q0), .second, .val (.long q1), .second, .val (.long q2), .second, .val (.long q3), .second, .val (.int p4), .val (.int wd), .val (.long cm), .second, .val (.long sv), .second, .val (.long fv), .second, .val (.long ht_), .second, .unset, .unset, .unset, .unset, .unset, .unset, .unset, .unset, .unset, .unset, .unset, .unset, .unset, .unset, .unset, .unset, .unset, .unset, .unset, .unset, .unset] [(.long (9223372036854775807 : Int64)), (.long q2)])) (fun _ kk => X0.ldc2Long hx hown (mvT hZ (hw _ (List.mem_of_getElem? (i := 1) rfl))) (g := (mkF m 68 #[.val (.long q0), .second, .val (.long q1), .second, .val (.long q2), .second, .val (.long q3), .second, .val (.int p4), .val (.int wd), .val (.long cm), .second, .val (.long sv), .second, .val (.long fv), .second, .val (.long ht_), .second, .unset, .unset, .unset, .unset, .unset, .unset, .unset, .unset, .unset, .unset, .unset, .unset, .unset, .unset, .unset, .unset, .unset, .unset, .unset, .unset, .unset] [(.long q2)])) rfl (hb hby at_68) _ kk) ?_
  refine GoW.st (S' := s₁.setTop (mkF m 72 #[.val (.long q0), .second, .val (.long q1), .second, .val (.long q2), .second, .val (.long q3), .second, .val (.int p4), .val (.int wd), .val (.long cm), .second, .val (.long sv), .second, .val (.long fv), .second, .val (.long ht_), .second, .unset, .unset, .unset, .unset, .unset, .unset, .unset, .unset, .unset, .unset, .unset, .unset, .unset, .unset, .unset, .unset, .unset, .unset, .unset, .unset, .unset] [(.long (q2 &&& (9223372036854775807 : Int64)))])) (fun _ kk => XS.land X0.here hx rfl (hb hby at_71) rfl kk) ?_
  obtain ⟨ms_, h_ms_⟩ : ∃ z : Int64, z = (q2 &&& (9223372036854775807 : Int64)) := ⟨_, rfl⟩
  rw [← h_ms_]
  have nn_ms_ := own_nn64 (show 0 ≤ ms_.toInt from by rw [h_ms_]; exact own_m63 _)
  refine GoW.st (S' := s₁.setTop (mkF m 74 #[.val (.long q0), .second, .val (.long q1), .second, .val (.long q2), .second, .val (.long q3), .second, .val (.int p4), .val (.int wd), .val (.long cm), .second, .val (.long sv), .second, .val (.long fv), .second, .val (.long ht_), .second, .val (.long ms_), .second, .unset, .unset, .unset, .unset, .unset, .unset, .unset, .unset, .unset, .unset, .unset, .unset, .unset, .unset, .unset, .unset, .unset, .unset, .unset] [])) (fun _ kk => XS.lstore X0.here hx rfl (hb hby at_72) rfl (l' := #[.val (.long q0), .second, .val (.long q1), .second, .val (.long q2), .second, .val (.long q3), .second, .val (.int p4), .val (.int wd), .val (.long cm), .second, .val (.long sv), .second, .val (.long fv), .second, .val (.long ht_), .second, .val (.long ms_), .second, .unset, .unset, .unset, .unset, .unset, .unset, .unset, .unset, .unset, .unset, .unset, .unset, .unset, .unset, .unset, .unset, .unset, .unset, .unset]) rfl kk) ?_
  refine GoW.st (S' := s₁.setTop (mkF m 75 #[.val (.long q0), .second, .val (.long q1), .second, .val (.long q2), .second, .val (.long q3), .second, .val (.int p4), .val (.int wd), .val (.long cm), .second, .val (.long sv), .second, .val (.long fv), .second, .val (.long ht_), .second, .val (.long ms_), .second, .unset, .unset, .unset, .unset, .unset, .unset, .unset, .unset, .unset, .unset, .unset, .unset, .unset, .unset, .unset, .unset, .unset, .unset, .unset] [(.long q0)])) (fun _ kk => XS.lloadN X0.here hx rfl (hb hby at_74) rfl kk) ?_
  refine GoW.st (S' := s₁.setTop (mkF m 78 #[.val (.long q0), .second, .val (.long q1), .second, .val (.long q2), .second, .val (.long q3), .second, .val (.int p4), .val (.int wd), .val (.long cm), .second, .val (.long sv), .second, .val (.long fv), .second, .val (.long ht_), .second, .val (.long ms_), .second, .unset, .unset, .unset, .unset, .unset, .unset, .unset, .unset, .unset, .unset, .unset, .unset, .unset, .unset, .unset, .unset, .unset, .unset, .unset] [(.long (9223372036854775807 : Int64)), (.long q0)])) (fun _ kk => X0.ldc2Long hx hown (mvT hZ (hw _ (List.mem_of_getElem? (i := 1) rfl))) (g := (mkF m 75 #[.val (.long q0), .second, .val (.long q1), .second, .val (.long q2), .second, .val (.long q3), .second, .val (.int p4), .val (.int wd), .val (.long cm), .second, .val (.long sv), .second, .val (.long fv), .second, .val (.long ht_), .second, .val (.long ms_), .second, .unset, .unset, .unset, .unset, .unset, .unset, .unset, .unset, .unset, .unset, .unset, .unset, .unset, .unset, .unset, .unset, .unset, .unset, .unset] [(.long q0)])) rfl (hb hby at_75) _ kk) ?_
  refine GoW.st (S' := s₁.setTop (mkF m 79 #[.val (.long q0), .second, .val (.long q1), .second, .val (.long q2), .second, .val (.long q3), .second, .val (.int p4), .val (.int wd), .val (.long cm), .second, .val (.long sv), .second, .val (.long fv), .second, .val (.long ht_), .second, .val (.long ms_), .second, .unset, .unset, .unset, .unset, .unset, .unset, .unset, .unset, .unset, .unset, .unset, .unset, .unset, .unset, .unset, .unset, .unset, .unset, .unset] [(.long (q0 &&& (9223372036854775807 : Int64)))])) (fun _ kk => XS.land X0.here hx rfl (hb hby at_78) rfl kk) ?_
  obtain ⟨ev_, h_ev_⟩ : ∃ z : Int64, z = (q0 &&& (9223372036854775807 : Int64)) := ⟨_, rfl⟩
  rw [← h_ev_]
  have nn_ev_ := own_nn64 (show 0 ≤ ev_.toInt from by rw [h_ev_]; exact own_m63 _)
  refine GoW.st (S' := s₁.setTop (mkF m 81 #[.val (.long q0), .second, .val (.long q1), .second, .val (.long q2), .second, .val (.long q3), .second, .val (.int p4), .val (.int wd), .val (.long cm), .second, .val (.long sv), .second, .val (.long fv), .second, .val (.long ht_), .second, .val (.long ms_), .second, .val (.long ev_), .second, .unset, .unset, .unset, .unset, .unset, .unset, .unset, .unset, .unset, .unset, .unset, .unset, .unset, .unset, .unset, .unset, .unset] [])) (fun _ kk => XS.lstore X0.here hx rfl (hb hby at_79) rfl (l' := #[.val (.long q0), .second, .val (.long q1), .second, .val (.long q2), .second, .val (.long q3), .second, .val (.int p4), .val (.int wd), .val (.long cm), .second, .val (.long sv), .second, .val (.long fv), .second, .val (.long ht_), .second, .val (.long ms_), .second, .val (.long ev_), .second, .unset, .unset, .unset, .unset, .unset, .unset, .unset, .unset, .unset, .unset, .unset, .unset, .unset, .unset, .unset, .unset, .unset]) rfl kk) ?_
  refine GoW.st (S' := s₁.setTop (mkF m 82 #[.val (.long q0), .second, .val (.long q1), .second, .val (.long q2), .second, .val (.long q3), .second, .val (.int p4), .val (.int wd), .val (.long cm), .second, .val (.long sv), .second, .val (.long fv), .second, .val (.long ht_), .second, .val (.long ms_), .second, .val (.long ev_), .second, .unset, .unset, .unset, .unset, .unset, .unset, .unset, .unset, .unset, .unset, .unset, .unset, .unset, .unset, .unset, .unset, .unset] [(.long q1)])) (fun _ kk => XS.lloadN X0.here hx rfl (hb hby at_81) rfl kk) ?_
  refine GoW.st (S' := s₁.setTop (mkF m 85 #[.val (.long q0), .second, .val (.long q1), .second, .val (.long q2), .second, .val (.long q3), .second, .val (.int p4), .val (.int wd), .val (.long cm), .second, .val (.long sv), .second, .val (.long fv), .second, .val (.long ht_), .second, .val (.long ms_), .second, .val (.long ev_), .second, .unset, .unset, .unset, .unset, .unset, .unset, .unset, .unset, .unset, .unset, .unset, .unset, .unset, .unset, .unset, .unset, .unset] [(.long (9223372036854775807 : Int64)), (.long q1)])) (fun _ kk => X0.ldc2Long hx hown (mvT hZ (hw _ (List.mem_of_getElem? (i := 1) rfl))) (g := (mkF m 82 #[.val (.long q0), .second, .val (.long q1), .second, .val (.long q2), .second, .val (.long q3), .second, .val (.int p4), .val (.int wd), .val (.long cm), .second, .val (.long sv), .second, .val (.long fv), .second, .val (.long ht_), .second, .val (.long ms_), .second, .val (.long ev_), .second, .unset, .unset, .unset, .unset, .unset, .unset, .unset, .unset, .unset, .unset, .unset, .unset, .unset, .unset, .unset, .unset, .unset] [(.long q1)])) rfl (hb hby at_82) _ kk) ?_
  refine GoW.st (S' := s₁.setTop (mkF m 86 #[.val (.long q0), .second, .val (.long q1), .second, .val (.long q2), .second, .val (.long q3), .second, .val (.int p4), .val (.int wd), .val (.long cm), .second, .val (.long sv), .second, .val (.long fv), .second, .val (.long ht_), .second, .val (.long ms_), .second, .val (.long ev_), .second, .unset, .unset, .unset, .unset, .unset, .unset, .unset, .unset, .unset, .unset, .unset, .unset, .unset, .unset, .unset, .unset, .unset] [(.long (q1 &&& (9223372036854775807 : Int64)))])) (fun _ kk => XS.land X0.here hx rfl (hb hby at_85) rfl kk) ?_
  obtain ⟨ew_, h_ew_⟩ : ∃ z : Int64, z = (q1 &&& (9223372036854775807 : Int64)) := ⟨_, rfl⟩
  rw [← h_ew_]
  have nn_ew_ := own_nn64 (show 0 ≤ ew_.toInt from by rw [h_ew_]; exact own_m63 _)
  have nn_sv := own_nn64 bs.1
  have nn_fv := own_nn64 bf.1
  refine GoW.st (S' := s₁.setTop (mkF m 88 #[.val (.long q0), .second, .val (.long q1), .second, .val (.long q2), .second, .val (.long q3), .second, .val (.int p4), .val (.int wd), .val (.long cm), .second, .val (.long sv), .second, .val (.long fv), .second, .val (.long ht_), .second, .val (.long ms_), .second, .val (.long ev_), .second, .val (.long ew_), .second, .unset, .unset, .unset, .unset, .unset, .unset, .unset, .unset, .unset, .unset, .unset, .unset, .unset, .unset, .unset] [])) (fun _ kk => XS.lstore X0.here hx rfl (hb hby at_86) rfl (l' := #[.val (.long q0), .second, .val (.long q1), .second, .val (.long q2), .second, .val (.long q3), .second, .val (.int p4), .val (.int wd), .val (.long cm), .second, .val (.long sv), .second, .val (.long fv), .second, .val (.long ht_), .second, .val (.long ms_), .second, .val (.long ev_), .second, .val (.long ew_), .second, .unset, .unset, .unset, .unset, .unset, .unset, .unset, .unset, .unset, .unset, .unset, .unset, .unset, .unset, .unset]) rfl kk) ?_
  refine GoW.st (S' := s₁.setTop (mkF m 90 #[.val (.long q0), .second, .val (.long q1), .second, .val (.long q2), .second, .val (.long q3), .second, .val (.int p4), .val (.int wd), .val (.long cm), .second, .val (.long sv), .second, .val (.long fv), .second, .val (.long ht_), .second, .val (.long ms_), .second, .val (.long ev_), .second, .val (.long ew_), .second, .unset, .unset, .unset, .unset, .unset, .unset, .unset, .unset, .unset, .unset, .unset, .unset, .unset, .unset, .unset] [(.long sv)])) (fun _ kk => XS.lload X0.here hx rfl (hb hby at_88) rfl kk) ?_
  refine GoW.st (S' := s₁.setTop (mkF m 92 #[.val (.long q0), .second, .val (.long q1), .second, .val (.long q2), .second, .val (.long q3), .second, .val (.int p4), .val (.int wd), .val (.long cm), .second, .val (.long sv), .second, .val (.long fv), .second, .val (.long ht_), .second, .val (.long ms_), .second, .val (.long ev_), .second, .val (.long ew_), .second, .unset, .unset, .unset, .unset, .unset, .unset, .unset, .unset, .unset, .unset, .unset, .unset, .unset, .unset, .unset] [(.long fv), (.long sv)])) (fun _ kk => XS.lload X0.here hx rfl (hb hby at_90) rfl kk) ?_
  refine GoW.st (S' := s₁.setTop (mkF m 93 #[.val (.long q0), .second, .val (.long q1), .second, .val (.long q2), .second, .val (.long q3), .second, .val (.int p4), .val (.int wd), .val (.long cm), .second, .val (.long sv), .second, .val (.long fv), .second, .val (.long ht_), .second, .val (.long ms_), .second, .val (.long ev_), .second, .val (.long ew_), .second, .unset, .unset, .unset, .unset, .unset, .unset, .unset, .unset, .unset, .unset, .unset, .unset, .unset, .unset, .unset] [(.long (sv + fv))])) (fun _ kk => XS.ladd X0.here hx rfl (hb hby at_92) rfl kk) ?_
  obtain ⟨nv, h_nv⟩ : ∃ z : Int64, z = (sv + fv) := ⟨_, rfl⟩
  rw [← h_nv]
  have bn := own_nv bs bf h_nv
  refine GoW.st (S' := s₁.setTop (mkF m 95 #[.val (.long q0), .second, .val (.long q1), .second, .val (.long q2), .second, .val (.long q3), .second, .val (.int p4), .val (.int wd), .val (.long cm), .second, .val (.long sv), .second, .val (.long fv), .second, .val (.long ht_), .second, .val (.long ms_), .second, .val (.long ev_), .second, .val (.long ew_), .second, .val (.long nv), .second, .unset, .unset, .unset, .unset, .unset, .unset, .unset, .unset, .unset, .unset, .unset, .unset, .unset] [])) (fun _ kk => XS.lstore X0.here hx rfl (hb hby at_93) rfl (l' := #[.val (.long q0), .second, .val (.long q1), .second, .val (.long q2), .second, .val (.long q3), .second, .val (.int p4), .val (.int wd), .val (.long cm), .second, .val (.long sv), .second, .val (.long fv), .second, .val (.long ht_), .second, .val (.long ms_), .second, .val (.long ev_), .second, .val (.long ew_), .second, .val (.long nv), .second, .unset, .unset, .unset, .unset, .unset, .unset, .unset, .unset, .unset, .unset, .unset, .unset, .unset]) rfl kk) ?_
  refine GoW.st (S' := s₁.setTop (mkF m 97 #[.val (.long q0), .second, .val (.long q1), .second, .val (.long q2), .second, .val (.long q3), .second, .val (.int p4), .val (.int wd), .val (.long cm), .second, .val (.long sv), .second, .val (.long fv), .second, .val (.long ht_), .second, .val (.long ms_), .second, .val (.long ev_), .second, .val (.long ew_), .second, .val (.long nv), .second, .unset, .unset, .unset, .unset, .unset, .unset, .unset, .unset, .unset, .unset, .unset, .unset, .unset] [(.long nv)])) (fun _ kk => XS.lload X0.here hx rfl (hb hby at_95) rfl kk) ?_
  refine GoW.st (S' := s₁.setTop (mkF m 98 #[.val (.long q0), .second, .val (.long q1), .second, .val (.long q2), .second, .val (.long q3), .second, .val (.int p4), .val (.int wd), .val (.long cm), .second, .val (.long sv), .second, .val (.long fv), .second, .val (.long ht_), .second, .val (.long ms_), .second, .val (.long ev_), .second, .val (.long ew_), .second, .val (.long nv), .second, .unset, .unset, .unset, .unset, .unset, .unset, .unset, .unset, .unset, .unset, .unset, .unset, .unset] [(.long (0 : Int64)), (.long nv)])) (fun _ kk => XS.lconst X0.here hx rfl (hb hby at_97) kk) ?_
  refine GoW.st (S' := s₁.setTop (mkF m 99 #[.val (.long q0), .second, .val (.long q1), .second, .val (.long q2), .second, .val (.long q3), .second, .val (.int p4), .val (.int wd), .val (.long cm), .second, .val (.long sv), .second, .val (.long fv), .second, .val (.long ht_), .second, .val (.long ms_), .second, .val (.long ev_), .second, .val (.long ew_), .second, .val (.long nv), .second, .unset, .unset, .unset, .unset, .unset, .unset, .unset, .unset, .unset, .unset, .unset, .unset, .unset] [(.int (lcmpW nv (0 : Int64)))])) (fun _ kk => XS.lcmp X0.here hx rfl (hb hby at_98) rfl kk) ?_
  by_cases hc7 : nv = (0 : Int64)
  · refine GoW.st (S' := s₁.setTop (mkF m 102 #[.val (.long q0), .second, .val (.long q1), .second, .val (.long q2), .second, .val (.long q3), .second, .val (.int p4), .val (.int wd), .val (.long cm), .second, .val (.long sv), .second, .val (.long fv), .second, .val (.long ht_), .second, .val (.long ms_), .second, .val (.long ev_), .second, .val (.long ew_), .second, .val (.long nv), .second, .unset, .unset, .unset, .unset, .unset, .unset, .unset, .unset, .unset, .unset, .unset, .unset, .unset] [])) (fun _ kk => XS.ifNo X0.here hx rfl (hb hby at_99) rfl ((if0 _ _).trans (teq ((lw_eq nv (0 : Int64)).mpr hc7)).2) kk) ?_
    refine GoW.st (S' := s₁.setTop (mkF m 104 #[.val (.long q0), .second, .val (.long q1), .second, .val (.long q2), .second, .val (.long q3), .second, .val (.int p4), .val (.int wd), .val (.long cm), .second, .val (.long sv), .second, .val (.long fv), .second, .val (.long ht_), .second, .val (.long ms_), .second, .val (.long ev_), .second, .val (.long ew_), .second, .val (.long nv), .second, .unset, .unset, .unset, .unset, .unset, .unset, .unset, .unset, .unset, .unset, .unset, .unset, .unset] [(.long q2)])) (fun _ kk => XS.lload X0.here hx rfl (hb hby at_102) rfl kk) ?_
    refine GoW.st (S' := s₁.setTop (mkF m 107 #[.val (.long q0), .second, .val (.long q1), .second, .val (.long q2), .second, .val (.long q3), .second, .val (.int p4), .val (.int wd), .val (.long cm), .second, .val (.long sv), .second, .val (.long fv), .second, .val (.long ht_), .second, .val (.long ms_), .second, .val (.long ev_), .second, .val (.long ew_), .second, .val (.long nv), .second, .unset, .unset, .unset, .unset, .unset, .unset, .unset, .unset, .unset, .unset, .unset, .unset, .unset] [(.long (9223372036854775807 : Int64)), (.long q2)])) (fun _ kk => X0.ldc2Long hx hown (mvT hZ (hw _ (List.mem_of_getElem? (i := 1) rfl))) (g := (mkF m 104 #[.val (.long q0), .second, .val (.long q1), .second, .val (.long q2), .second, .val (.long q3), .second, .val (.int p4), .val (.int wd), .val (.long cm), .second, .val (.long sv), .second, .val (.long fv), .second, .val (.long ht_), .second, .val (.long ms_), .second, .val (.long ev_), .second, .val (.long ew_), .second, .val (.long nv), .second, .unset, .unset, .unset, .unset, .unset, .unset, .unset, .unset, .unset, .unset, .unset, .unset, .unset] [(.long q2)])) rfl (hb hby at_104) _ kk) ?_
    refine GoW.st (S' := s₁.setTop (mkF m 108 #[.val (.long q0), .second, .val (.long q1), .second, .val (.long q2), .second, .val (.long q3), .second, .val (.int p4), .val (.int wd), .val (.long cm), .second, .val (.long sv), .second, .val (.long fv), .second, .val (.long ht_), .second, .val (.long ms_), .second, .val (.long ev_), .second, .val (.long ew_), .second, .val (.long nv), .second, .unset, .unset, .unset, .unset, .unset, .unset, .unset, .unset, .unset, .unset, .unset, .unset, .unset] [(.long (q2 &&& (9223372036854775807 : Int64)))])) (fun _ kk => XS.land X0.here hx rfl (hb hby at_107) rfl kk) ?_
    obtain ⟨tz, h_tz⟩ : ∃ z : Int64, z = (q2 &&& (9223372036854775807 : Int64)) := ⟨_, rfl⟩
    rw [← h_tz]
    have nn_tz := own_nn64 (show 0 ≤ tz.toInt from by rw [h_tz]; exact own_m63 _)
    have hs0 : (sv + fv) = (0 : Int64) := h_nv.symm.trans hc7
    have hpen : ¬ (sv + fv) = (0 : Int64) → Own.Pos (FP.ddiv (FP.l2d tz) (FP.l2d (sv + fv))) := fun q => absurd hs0 q
    have hz0 : Own.fPen sv fv tz = 0 := if_pos hs0
    refine GoW.st (S' := s₁.setTop (mkF m 110 #[.val (.long q0), .second, .val (.long q1), .second, .val (.long q2), .second, .val (.long q3), .second, .val (.int p4), .val (.int wd), .val (.long cm), .second, .val (.long sv), .second, .val (.long fv), .second, .val (.long ht_), .second, .val (.long ms_), .second, .val (.long ev_), .second, .val (.long ew_), .second, .val (.long nv), .second, .val (.long tz), .second, .unset, .unset, .unset, .unset, .unset, .unset, .unset, .unset, .unset, .unset, .unset] [])) (fun _ kk => XS.lstore X0.here hx rfl (hb hby at_108) rfl (l' := #[.val (.long q0), .second, .val (.long q1), .second, .val (.long q2), .second, .val (.long q3), .second, .val (.int p4), .val (.int wd), .val (.long cm), .second, .val (.long sv), .second, .val (.long fv), .second, .val (.long ht_), .second, .val (.long ms_), .second, .val (.long ev_), .second, .val (.long ew_), .second, .val (.long nv), .second, .val (.long tz), .second, .unset, .unset, .unset, .unset, .unset, .unset, .unset, .unset, .unset, .unset, .unset]) rfl kk) ?_
    obtain ⟨T8, h8, X8, e8, E8, A8, D8, -, st8⟩ := newO X0 hx hZ hown (hw _ (List.mem_of_getElem? (i := 2) rfl)) (hw _ (List.mem_of_getElem? (i := 3) rfl)) (hw _ (List.mem_of_getElem? (i := 4) rfl)) e0 (g := (mkF m 110 #[.val (.long q0), .second, .val (.long q1), .second, .val (.long q2), .second, .val (.long q3), .second, .val (.int p4), .val (.int wd), .val (.long cm), .second, .val (.long sv), .second, .val (.long fv), .second, .val (.long ht_), .second, .val (.long ms_), .second, .val (.long ev_), .second, .val (.long ew_), .second, .val (.long nv), .second, .val (.long tz), .second, .unset, .unset, .unset, .unset, .unset, .unset, .unset, .unset, .unset, .unset, .unset] [])) rfl (hb hby at_110) (by decide : 0 + 1 ≤ _) (by decide : 0 + 7 ≤ _)
    obtain ⟨b8, g8⟩ : ∃ z, z = h0.size := ⟨_, rfl⟩
    rw [← g8] at A8 D8 st8
    have g_b8 : n0 ≤ b8 := Nat.le_trans Z0 (Nat.le_of_eq g8.symm)
    have Zs9 := Nat.le_trans Z0 E8.1
    have hk := Nat.le_trans hk E8.1
    have E_b8 := A8
    have F_hitCount_b8 : Fld Z h8 b8 "com/example/larder/larder/CacheStats" "hitCount" "J" (.long (0 : Int64)) := D8 (Or.inr (hw _ (List.mem_of_getElem? (i := 34) rfl))) (ty := .long) (by decide)
    have F_missCount_b8 : Fld Z h8 b8 "com/example/larder/larder/CacheStats" "missCount" "J" (.long (0 : Int64)) := D8 (Or.inr (hw _ (List.mem_of_getElem? (i := 36) rfl))) (ty := .long) (by decide)
    have F_loadSuccessCount_b8 : Fld Z h8 b8 "com/example/larder/larder/CacheStats" "loadSuccessCount" "J" (.long (0 : Int64)) := D8 (Or.inr (hw _ (List.mem_of_getElem? (i := 38) rfl))) (ty := .long) (by decide)
    have F_loadFailureCount_b8 : Fld Z h8 b8 "com/example/larder/larder/CacheStats" "loadFailureCount" "J" (.long (0 : Int64)) := D8 (Or.inr (hw _ (List.mem_of_getElem? (i := 40) rfl))) (ty := .long) (by decide)
    have F_totalLoadTime_b8 : Fld Z h8 b8 "com/example/larder/larder/CacheStats" "totalLoadTime" "J" (.long (0 : Int64)) := D8 (Or.inr (hw _ (List.mem_of_getElem? (i := 42) rfl))) (ty := .long) (by decide)
    have F_evictionCount_b8 : Fld Z h8 b8 "com/example/larder/larder/CacheStats" "evictionCount" "J" (.long (0 : Int64)) := D8 (Or.inr (hw _ (List.mem_of_getElem? (i := 44) rfl))) (ty := .long) (by decide)
    have F_evictionWeight_b8 : Fld Z h8 b8 "com/example/larder/larder/CacheStats" "evictionWeight" "J" (.long (0 : Int64)) := D8 (Or.inr (hw _ (List.mem_of_getElem? (i := 46) rfl))) (ty := .long) (by decide)
    refine GoW.st (S' := T8.setTop (mkF m 113 #[.val (.long q0), .second, .val (.long q1), .second, .val (.long q2), .second, .val (.long q3), .second, .val (.int p4), .val (.int wd), .val (.long cm), .second, .val (.long sv), .second, .val (.long fv), .second, .val (.long ht_), .second, .val (.long ms_), .second, .val (.long ev_), .second, .val (.long ew_), .second, .val (.long nv), .second, .val (.long tz), .second, .unset, .unset, .unset, .unset, .unset, .unset, .unset, .unset, .unset, .unset, .unset] [(.ref b8)])) st8 ?_
    refine GoW.st (S' := T8.setTop (mkF m 114 #[.val (.long q0), .second, .val (.long q1), .second, .val (.long q2), .second, .val (.long q3), .second, .val (.int p4), .val (.int wd), .val (.long cm), .second, .val (.long sv), .second, .val (.long fv), .second, .val (.long ht_), .second, .val (.long ms_), .second, .val (.long ev_), .second, .val (.long ew_), .second, .val (.long nv), .second, .val (.long tz), .second, .unset, .unset, .unset, .unset, .unset, .unset, .unset, .unset, .unset, .unset, .unset] [(.ref b8), (.ref b8)])) (fun _ kk => XS.dup X8.here hx rfl (hb hby at_113) rfl rfl kk) ?_
    refine GoW.st (S' := T8.setTop (mkF m 116 #[.val (.long q0), .second, .val (.long q1), .second, .val (.long q2), .second, .val (.long q3), .second, .val (.int p4), .val (.int wd), .val (.long cm), .second, .val (.long sv), .second, .val (.long fv), .second, .val (.long ht_), .second, .val (.long ms_), .second, .val (.long ev_), .second, .val (.long ew_), .second, .val (.long nv), .second, .val (.long tz), .second, .unset, .unset, .unset, .unset, .unset, .unset, .unset, .unset, .unset, .unset, .unset] [(.long ht_), (.ref b8), (.ref b8)])) (fun _ kk => XS.lload X8.here hx rfl (hb hby at_114) rfl kk) ?_
    refine GoW.st (S' := T8.setTop (mkF m 118 #[.val (.long q0), .second, .val (.long q1), .second, .val (.long q2), .second, .val (.long q3), .second, .val (.int p4), .val (.int wd), .val (.long cm), .second, .val (.long sv), .second, .val (.long fv), .second, .val (.long ht_), .second, .val (.long ms_), .second, .val (.long ev_), .second, .val (.long ew_), .second, .val (.long nv), .second, .val (.long tz), .second, .unset, .unset, .unset, .unset, .unset, .unset, .unset, .unset, .unset, .unset, .unset] [(.long ms_), (.long ht_), (.ref b8), (.ref b8)])) (fun _ kk => XS.lload X8.here hx rfl (hb hby at_116) rfl kk) ?_
    refine GoW.st (S' := T8.setTop (mkF m 120 #[.val (.long q0), .second, .val (.long q1), .second, .val (.long q2), .second, .val (.long q3), .second, .val (.int p4), .val (.int wd), .val (.long cm), .second, .val (.long sv), .second, .val (.long fv), .second, .val (.long ht_), .second, .val (.long ms_), .second, .val (.long ev_), .second, .val (.long ew_), .second, .val (.long nv), .second, .val (.long tz), .second, .unset, .unset, .unset, .unset, .unset, .unset, .unset, .unset, .unset, .unset, .unset] [(.long sv), (.long ms_), (.long ht_), (.ref b8), (.ref b8)])) (fun _ kk => XS.lload X8.here hx rfl (hb hby at_118) rfl kk) ?_
    refine GoW.st (S' := T8.setTop (mkF m 122 #[.val (.long q0), .second, .val (.long q1), .second, .val (.long q2), .second, .val (.long q3), .second, .val (.int p4), .val (.int wd), .val (.long cm), .second, .val (.long sv), .second, .val (.long fv), .second, .val (.long ht_), .second, .val (.long ms_), .second, .val (.long ev_), .second, .val (.long ew_), .second, .val (.long nv), .second, .val (.long tz), .second, .unset, .unset, .unset, .unset, .unset, .unset, .unset, .unset, .unset, .unset, .unset] [(.long fv), (.long sv), (.long ms_), (.long ht_), (.ref b8), (.ref b8)])) (fun _ kk => XS.lload X8.here hx rfl (hb hby at_120) rfl kk) ?_
    refine GoW.st (S' := T8.setTop (mkF m 124 #[.val (.long q0), .second, .val (.long q1), .second, .val (.long q2), .second, .val (.long q3), .second, .val (.int p4), .val (.int wd), .val (.long cm), .second, .val (.long sv), .second, .val (.long fv), .second, .val (.long ht_), .second, .val (.long ms_), .second, .val (.long ev_), .second, .val (.long ew_), .second, .val (.long nv), .second, .val (.long tz), .second, .unset, .unset, .unset, .unset, .unset, .unset, .unset, .unset, .unset, .unset, .unset] [(.long tz), (.long fv), (.long sv), (.long ms_), (.long ht_), (.ref b8), (.ref b8)])) (fun _ kk => XS.lload X8.here hx rfl (hb hby at_122) rfl kk) ?_
    refine GoW.st (S' := T8.setTop (mkF m 126 #[.val (.long q0), .second, .val (.long q1), .second, .val (.long q2), .second, .val (.long q3), .second, .val (.int p4), .val (.int wd), .val (.long cm), .second, .val (.long sv), .second, .val (.long fv), .second, .val (.long ht_), .second, .val (.long ms_), .second, .val (.long ev_), .second, .val (.long ew_), .second, .val (.long nv), .second, .val (.long tz), .second, .unset, .unset, .unset, .unset, .unset, .unset, .unset, .unset, .unset, .unset, .unset] [(.long ev_), (.long tz), (.long fv), (.long sv), (.long ms_), (.long ht_), (.ref b8), (.ref b8)])) (fun _ kk => XS.lload X8.here hx rfl (hb hby at_124) rfl kk) ?_
    refine GoW.st (S' := T8.setTop (mkF m 128 #[.val (.long q0), .second, .val (.long q1), .second, .val (.long q2), .second, .val (.long q3), .second, .val (.int p4), .val (.int wd), .val (.long cm), .second, .val (.long sv), .second, .val (.long fv), .second, .val (.long ht_), .second, .val (.long ms_), .second, .val (.long ev_), .second, .val (.long ew_), .second, .val (.long nv), .second, .val (.long tz), .second, .unset, .unset, .unset, .unset, .unset, .unset, .unset, .unset, .unset, .unset, .unset] [(.long ew_), (.long ev_), (.long tz), (.long fv), (.long sv), (.long ms_), (.long ht_), (.ref b8), (.ref b8)])) (fun _ kk => XS.lload X8.here hx rfl (hb hby at_126) rfl kk) ?_
    obtain ⟨_, _, ⟨T10, L10, k10, n10⟩, -, X10, hS10, hg10, ⟨Lc10, hQ10, l10, y10, z10⟩, st10⟩ := X8.specialBackS hx (y := (⟨"com/example/larder/larder/CacheStats", "<init>", "(JJJJJJJ)V"⟩ : MethodName)) rfl hown (mvT hZ (hw _ (List.mem_of_getElem? (i := 5) rfl))) (mvT hZ (hw _ (List.mem_of_getElem? (i := 6) rfl))) (mvT hZ (hw _ (List.mem_of_getElem? (i := 7) rfl))) (by decide) (own_backS (W := 1) (P := PTr) (rmCsc l Z az hw [] b8 ht_ ms_ sv fv tz ev_ ew_ h8 n0 Zs9 E_b8 g_b8 F_hitCount_b8 F_missCount_b8 F_loadSuccessCount_b8 F_loadFailureCount_b8 F_totalLoadTime_b8 F_evictionCount_b8 F_evictionWeight_b8 nn_ht_ nn_ms_ nn_sv nn_fv nn_tz nn_ev_ nn_ew_) hZ (hw _ (List.mem_of_getElem? (i := 7) rfl)) (hw _ (List.mem_of_getElem? (i := 4) rfl)) (by decide) (by decide)) (g := (mkF m 128 #[.val (.long q0), .second, .val (.long q1), .second, .val (.long q2), .second, .val (.long q3), .second, .val (.int p4), .val (.int wd), .val (.long cm), .second, .val (.long sv), .second, .val (.long fv), .second, .val (.long ht_), .second, .val (.long ms_), .second, .val (.long ev_), .second, .val (.long ew_), .second, .val (.long nv), .second, .val (.long tz), .second, .unset, .unset, .unset, .unset, .unset, .unset, .unset, .unset, .unset, .unset, .unset] [(.long ew_), (.long ev_), (.long tz), (.long fv), (.long sv), (.long ms_), (.long ht_), (.ref b8), (.ref b8)])) rfl (by rw [hml]; rfl) (Steps.refl _) (a := b8) (argsL := [(.long ht_), (.long ms_), (.long sv), (.long fv), (.long tz), (.long ev_), (.long ew_)]) (rest := [(.ref b8)]) (lenOf pd_0 rfl) rfl (by show 2 * 0 + _ ≤ _; exact Nat.le_of_eq rfl) (hb hby at_128) (fun vmq hvq => ⟨rfl, e8, trivial, (by decide : 1 + 14 ≤ _), (by decide : 7 + 384 ≤ _)⟩)
    dsimp only [Pt.U, Pt.locs, Pt.cells, Pt.slots] at X10 l10 y10 z10 st10 hQ10 hS10 hg10
    rw [l10, y10, z10] at X10
    obtain ⟨X10, hS, hZ, hown⟩ := rebS hS (own_hk e8 hk) X10 hS10 hg10 hZ hown
    obtain ⟨rfl, N10q, K10, Ec10, Fc10_0, Fc10_1, Fc10_2, Fc10_3, Fc10_4, Fc10_5, Fc10_6, Lt10⟩ := hQ10
    have N10 := Fr.app N0 N10q
    have E_b8 := E_b8.keep K10
    have Zs11 := Nat.le_trans Zs9 K10.1
    have hk := Nat.le_trans hk K10.1
    have hk : T10.heap.size ≤ (T10.heap).size := Nat.le_of_eq (congrArg Array.size (show T10.heap = T10.heap from rfl))
    refine GoW.tr (S' := T10.setTop (mkF m 131 #[.val (.long q0), .second, .val (.long q1), .second, .val (.long q2), .second, .val (.long q3), .second, .val (.int p4), .val (.int wd), .val (.long cm), .second, .val (.long sv), .second, .val (.long fv), .second, .val (.long ht_), .second, .val (.long ms_), .second, .val (.long ev_), .second, .val (.long ew_), .second, .val (.long nv), .second, .val (.long tz), .second, .unset, .unset, .unset, .unset, .unset, .unset, .unset, .unset, .unset, .unset, .unset] [(.ref b8)])) st10 ?_
    refine GoW.st (S' := T10.setTop (mkF m 133 #[.val (.long q0), .second, .val (.long q1), .second, .val (.long q2), .second, .val (.long q3), .second, .val (.int p4), .val (.int wd), .val (.long cm), .second, .val (.long sv), .second, .val (.long fv), .second, .val (.long ht_), .second, .val (.long ms_), .second, .val (.long ev_), .second, .val (.long ew_), .second, .val (.long nv), .second, .val (.long tz), .second, .val (.ref b8), .unset, .unset, .unset, .unset, .unset, .unset, .unset, .unset, .unset, .unset] [])) (fun _ kk => XS.astore X10.here hx rfl (hb hby at_131) rfl rfl (l' := #[.val (.long q0), .second, .val (.long q1), .second, .val (.long q2), .second, .val (.long q3), .second, .val (.int p4), .val (.int wd), .val (.long cm), .second, .val (.long sv), .second, .val (.long fv), .second, .val (.long ht_), .second, .val (.long ms_), .second, .val (.long ev_), .second, .val (.long ew_), .second, .val (.long nv), .second, .val (.long tz), .second, .val (.ref b8), .unset, .unset, .unset, .unset, .unset, .unset, .unset, .unset, .unset, .unset]) rfl kk) ?_
    refine GoW.st (S' := T10.setTop (mkF m 135 #[.val (.long q0), .second, .val (.long q1), .second, .val (.long q2), .second, .val (.long q3), .second, .val (.int p4), .val (.int wd), .val (.long cm), .second, .val (.long sv), .second, .val (.long fv), .second, .val (.long ht_), .second, .val (.long ms_), .second, .val (.long ev_), .second, .val (.long ew_), .second, .val (.long nv), .second, .val (.long tz), .second, .val (.ref b8), .unset, .unset, .unset, .unset, .unset, .unset, .unset, .unset, .unset, .unset] [(.ref b8)])) (fun _ kk => XS.aload X10.here hx rfl (hb hby at_133) rfl rfl kk) ?_
    obtain ⟨cq12, kq12, q12a, q12b, q12c⟩ := isOf hZ rfl Ec10
    obtain ⟨_, _, ⟨T12, L12, k12, n12⟩, -, X12, ⟨Lc12, hQ12, l12, y12, z12⟩, st12⟩ := X10.virtualBack hx (y := (⟨"com/example/larder/larder/CacheStats", "averageLoadPenalty", "()D"⟩ : MethodName)) (z := (⟨"com/example/larder/larder/CacheStats", "averageLoadPenalty", "()D"⟩ : MethodName)) hown (mvT hZ (hw _ (List.mem_of_getElem? (i := 47) rfl))) (mvT hZ (hw _ (List.mem_of_getElem? (i := 48) rfl))) (notFace_of_selects (args := #[]) (mvT hZ (hw _ (List.mem_of_getElem? (i := 50) rfl)))) (mvT hZ (hw _ (List.mem_of_getElem? (i := 50) rfl))) (mvT hZ (hw _ (List.mem_of_getElem? (i := 49) rfl))) (by decide) (backOf (W := 0) (rmAP l Z az hw [] b8 sv fv tz T10.heap n0 Zs11 Fc10_2 Fc10_3 Fc10_4 hpen) hZ (hw _ (List.mem_of_getElem? (i := 51) rfl)) (hw _ (List.mem_of_getElem? (i := 4) rfl)) (by decide) (by decide)) q12a q12c (g := (mkF m 135 #[.val (.long q0), .second, .val (.long q1), .second, .val (.long q2), .second, .val (.long q3), .second, .val (.int p4), .val (.int wd), .val (.long cm), .second, .val (.long sv), .second, .val (.long fv), .second, .val (.long ht_), .second, .val (.long ms_), .second, .val (.long ev_), .second, .val (.long ew_), .second, .val (.long nv), .second, .val (.long tz), .second, .val (.ref b8), .unset, .unset, .unset, .unset, .unset, .unset, .unset, .unset, .unset, .unset] [(.ref b8)])) rfl (by rw [hml]; rfl) (Steps.refl _) (argsL := []) (rest := []) (lenOf pd_3 rfl) rfl (by show 2 * 0 + _ ≤ _; exact Nat.le_of_eq rfl) (hb hby at_135) (fun _ _ => ⟨rfl, rfl, (by decide : 15 + 0 ≤ _), (by decide : 391 + 0 ≤ _)⟩)
    dsimp only [Pt.U, Pt.locs, Pt.cells, Pt.slots] at X12 l12 y12 z12 st12 hQ12
    rw [l12, y12, z12] at X12
    obtain ⟨hv12, N12q, e12⟩ := hQ12
    subst hv12
    have N12 := Fr.app N10 N12q
    refine GoW.tr (S' := T12.setTop (mkF m 138 #[.val (.long q0), .second, .val (.long q1), .second, .val (.long q2), .second, .val (.long q3), .second, .val (.int p4), .val (.int wd), .val (.long cm), .second, .val (.long sv), .second, .val (.long fv), .second, .val (.long ht_), .second, .val (.long ms_), .second, .val (.long ev_), .second, .val (.long ew_), .second, .val (.long nv), .second, .val (.long tz), .second, .val (.ref b8), .unset, .unset, .unset, .unset, .unset, .unset, .unset, .unset, .unset, .unset] [(.double (Own.fPen sv fv tz))])) st12 ?_
    refine GoW.st (S' := T12.setTop (mkF m 139 #[.val (.long q0), .second, .val (.long q1), .second, .val (.long q2), .second, .val (.long q3), .second, .val (.int p4), .val (.int wd), .val (.long cm), .second, .val (.long sv), .second, .val (.long fv), .second, .val (.long ht_), .second, .val (.long ms_), .second, .val (.long ev_), .second, .val (.long ew_), .second, .val (.long nv), .second, .val (.long tz), .second, .val (.ref b8), .unset, .unset, .unset, .unset, .unset, .unset, .unset, .unset, .unset, .unset] [(.double (0 : UInt64)), (.double (Own.fPen sv fv tz))])) (fun _ kk => XS.dconst0 X12.here hx rfl (hb hby at_138) rfl kk) ?_
    refine GoW.st (S' := T12.setTop (mkF m 140 #[.val (.long q0), .second, .val (.long q1), .second, .val (.long q2), .second, .val (.long q3), .second, .val (.int p4), .val (.int wd), .val (.long cm), .second, .val (.long sv), .second, .val (.long fv), .second, .val (.long ht_), .second, .val (.long ms_), .second, .val (.long ev_), .second, .val (.long ew_), .second, .val (.long nv), .second, .val (.long tz), .second, .val (.ref b8), .unset, .unset, .unset, .unset, .unset, .unset, .unset, .unset, .unset, .unset] [(.int (cmpValue (FP.dcmp (Own.fPen sv fv tz) (0 : UInt64)) .l))])) (fun _ kk => XS.dcmpS X12.here hx rfl (hb hby at_139) rfl rfl kk) ?_
    refine GoW.st (S' := T12.setTop (mkF m 143 #[.val (.long q0), .second, .val (.long q1), .second, .val (.long q2), .second, .val (.long q3), .second, .val (.int p4), .val (.int wd), .val (.long cm), .second, .val (.long sv), .second, .val (.long fv), .second, .val (.long ht_), .second, .val (.long ms_), .second, .val (.long ev_), .second, .val (.long ew_), .second, .val (.long nv), .second, .val (.long tz), .second, .val (.ref b8), .unset, .unset, .unset, .unset, .unset, .unset, .unset, .unset, .unset, .unset] [])) (fun _ kk => XS.ifNo X12.here hx rfl (hb hby at_140) rfl ((if0 _ _).trans (teq (by rw [hz0]; exact own_ceq Own.zero_pos Own.zero_pos .l rfl)).2) kk) ?_
    refine GoW.st (S' := T12.setTop (mkF m 144 #[.val (.long q0), .second, .val (.long q1), .second, .val (.long q2), .second, .val (.long q3), .second, .val (.int p4), .val (.int wd), .val (.long cm), .second, .val (.long sv), .second, .val (.long fv), .second, .val (.long ht_), .second, .val (.long ms_), .second, .val (.long ev_), .second, .val (.long ew_), .second, .val (.long nv), .second, .val (.long tz), .second, .val (.ref b8), .unset, .unset, .unset, .unset, .unset, .unset, .unset, .unset, .unset, .unset] [(.int (1 : Int32))])) (fun _ kk => XS.iconst X12.here hx rfl (hb hby at_143) kk) ?_
    refine GoW.st (S' := T12.setTop (mkF m 148 #[.val (.long q0), .second, .val (.long q1), .second, .val (.long q2), .second, .val (.long q3), .second, .val (.int p4), .val (.int wd), .val (.long cm), .second, .val (.long sv), .second, .val (.long fv), .second, .val (.long ht_), .second, .val (.long ms_), .second, .val (.long ev_), .second, .val (.long ew_), .second, .val (.long nv), .second, .val (.long tz), .second, .val (.ref b8), .unset, .unset, .unset, .unset, .unset, .unset, .unset, .unset, .unset, .unset] [(.int (1 : Int32))])) (fun _ kk => XS.goto X12.here hx rfl (pc0 := 144) (pc' := 148) rfl (hb hby at_144) (by decide) (by decide) kk) ?_
    exact GoW.retN X12 hx hlk hS (own_hk e12 hk) (t := .boolean) Bd.returns (by simp) (hb hby at_148) (⟨rfl, N12⟩) (by decide) (by decide)
  · refine GoW.st (S' := s₁.setTop (mkF m 149 #[.val (.long q0), .second, .val (.long q1), .second, .val (.long q2), .second, .val (.long q3), .second, .val (.int p4), .val (.int wd), .val (.long cm), .second, .val (.long sv), .second, .val (.long fv), .second, .val (.long ht_), .second, .val (.long ms_), .second, .val (.long ev_), .second, .val (.long ew_), .second, .val (.long nv), .second, .unset, .unset, .unset, .unset, .unset, .unset, .unset, .unset, .unset, .unset, .unset, .unset, .unset] [])) (fun _ kk => XS.ifYes X0.here hx rfl (pc0 := 99) (pc' := 149) rfl (hb hby at_99) rfl ((if0 _ _).trans (feq (fun q => hc7 ((lw_eq nv (0 : Int64)).mp q))).2) (by decide) (by decide) kk) ?_
    have hn1 := own_n1 bs.1 bf.1 bn.1 hc7
    obtain ⟨qm, hj_qm⟩ : ∃ z : Int64, z = (if wd = (0 : Int32) then (67108863 : Int64) else (1 : Int64)) := ⟨_, rfl⟩
    have stj13 : ∀ tq, Steps p.tables e below (s₁.setTop (mkF m 161 #[.val (.long q0), .second, .val (.long q1), .second, .val (.long q2), .second, .val (.long q3), .second, .val (.int p4), .val (.int wd), .val (.long cm), .second, .val (.long sv), .second, .val (.long fv), .second, .val (.long ht_), .second, .val (.long ms_), .second, .val (.long ev_), .second, .val (.long ew_), .second, .val (.long nv), .second, .unset, .unset, .unset, .unset, .unset, .unset, .unset, .unset, .unset, .unset, .unset, .unset, .unset] [(.long qm)])) tq → Steps p.tables e below (s₁.setTop (mkF m 149 #[.val (.long q0), .second, .val (.long q1), .second, .val (.long q2), .second, .val (.long q3), .second, .val (.int p4), .val (.int wd), .val (.long cm), .second, .val (.long sv), .second, .val (.long fv), .second, .val (.long ht_), .second, .val (.long ms_), .second, .val (.long ev_), .second, .val (.long ew_), .second, .val (.long nv), .second, .unset, .unset, .unset, .unset, .unset, .unset, .unset, .unset, .unset, .unset, .unset, .unset, .unset] [])) tq := by
      intro tq kj
      refine via (S' := s₁.setTop (mkF m 151 #[.val (.long q0), .second, .val (.long q1), .second, .val (.long q2), .second, .val (.long q3), .second, .val (.int p4), .val (.int wd), .val (.long cm), .second, .val (.long sv), .second, .val (.long fv), .second, .val (.long ht_), .second, .val (.long ms_), .second, .val (.long ev_), .second, .val (.long ew_), .second, .val (.long nv), .second, .unset, .unset, .unset, .unset, .unset, .unset, .unset, .unset, .unset, .unset, .unset, .unset, .unset] [(.int wd)])) (fun kk => XS.iload X0.here hx rfl (hb hby at_149) rfl kk) ?_
      by_cases hc14 : wd = (0 : Int32)
      · refine via (S' := s₁.setTop (mkF m 158 #[.val (.long q0), .second, .val (.long q1), .second, .val (.long q2), .second, .val (.long q3), .second, .val (.int p4), .val (.int wd), .val (.long cm), .second, .val (.long sv), .second, .val (.long fv), .second, .val (.long ht_), .second, .val (.long ms_), .second, .val (.long ev_), .second, .val (.long ew_), .second, .val (.long nv), .second, .unset, .unset, .unset, .unset, .unset, .unset, .unset, .unset, .unset, .unset, .unset, .unset, .unset] [])) (fun kk => XS.ifYes X0.here hx rfl (pc0 := 151) (pc' := 158) rfl (hb hby at_151) rfl ((if0 _ _).trans (teq hc14).1) (by decide) (by decide) kk) ?_
        refine via (S' := s₁.setTop (mkF m 161 #[.val (.long q0), .second, .val (.long q1), .second, .val (.long q2), .second, .val (.long q3), .second, .val (.int p4), .val (.int wd), .val (.long cm), .second, .val (.long sv), .second, .val (.long fv), .second, .val (.long ht_), .second, .val (.long ms_), .second, .val (.long ev_), .second, .val (.long ew_), .second, .val (.long nv), .second, .unset, .unset, .unset, .unset, .unset, .unset, .unset, .unset, .unset, .unset, .unset, .unset, .unset] [(.long (67108863 : Int64))])) (fun kk => X0.ldc2Long hx hown (mvT hZ (hw _ (List.mem_of_getElem? (i := 52) rfl))) (g := (mkF m 158 #[.val (.long q0), .second, .val (.long q1), .second, .val (.long q2), .second, .val (.long q3), .second, .val (.int p4), .val (.int wd), .val (.long cm), .second, .val (.long sv), .second, .val (.long fv), .second, .val (.long ht_), .second, .val (.long ms_), .second, .val (.long ev_), .second, .val (.long ew_), .second, .val (.long nv), .second, .unset, .unset, .unset, .unset, .unset, .unset, .unset, .unset, .unset, .unset, .unset, .unset, .unset] [])) rfl (hb hby at_158) _ kk) ?_
        have qj_qm : qm = (67108863 : Int64) := hj_qm.trans (by rw [if_pos hc14])
        rw [qj_qm] at kj
        exact kj
      · refine via (S' := s₁.setTop (mkF m 154 #[.val (.long q0), .second, .val (.long q1), .second, .val (.long q2), .second, .val (.long q3), .second, .val (.int p4), .val (.int wd), .val (.long cm), .second, .val (.long sv), .second, .val (.long fv), .second, .val (.long ht_), .second, .val (.long ms_), .second, .val (.long ev_), .second, .val (.long ew_), .second, .val (.long nv), .second, .unset, .unset, .unset, .unset, .unset, .unset, .unset, .unset, .unset, .unset, .unset, .unset, .unset] [])) (fun kk => XS.ifNo X0.here hx rfl (hb hby at_151) rfl ((if0 _ _).trans (feq hc14).1) kk) ?_
        refine via (S' := s₁.setTop (mkF m 155 #[.val (.long q0), .second, .val (.long q1), .second, .val (.long q2), .second, .val (.long q3), .second, .val (.int p4), .val (.int wd), .val (.long cm), .second, .val (.long sv), .second, .val (.long fv), .second, .val (.long ht_), .second, .val (.long ms_), .second, .val (.long ev_), .second, .val (.long ew_), .second, .val (.long nv), .second, .unset, .unset, .unset, .unset, .unset, .unset, .unset, .unset, .unset, .unset, .unset, .unset, .unset] [(.long (1 : Int64))])) (fun kk => XS.lconst X0.here hx rfl (hb hby at_154) kk) ?_
        refine via (S' := s₁.setTop (mkF m 161 #[.val (.long q0), .second, .val (.long q1), .second, .val (.long q2), .second, .val (.long q3), .second, .val (.int p4), .val (.int wd), .val (.long cm), .second, .val (.long sv), .second, .val (.long fv), .second, .val (.long ht_), .second, .val (.long ms_), .second, .val (.long ev_), .second, .val (.long ew_), .second, .val (.long nv), .second, .unset, .unset, .unset, .unset, .unset, .unset, .unset, .unset, .unset, .unset, .unset, .unset, .unset] [(.long (1 : Int64))])) (fun kk => XS.goto X0.here hx rfl (pc0 := 155) (pc' := 161) rfl (hb hby at_155) (by decide) (by decide) kk) ?_
        have qj_qm : qm = (1 : Int64) := hj_qm.trans (by rw [if_neg hc14])
        rw [qj_qm] at kj
        exact kj
    refine GoW.st (S' := s₁.setTop (mkF m 161 #[.val (.long q0), .second, .val (.long q1), .second, .val (.long q2), .second, .val (.long q3), .second, .val (.int p4), .val (.int wd), .val (.long cm), .second, .val (.long sv), .second, .val (.long fv), .second, .val (.long ht_), .second, .val (.long ms_), .second, .val (.long ev_), .second, .val (.long ew_), .second, .val (.long nv), .second, .unset, .unset, .unset, .unset, .unset, .unset, .unset, .unset, .unset, .unset, .unset, .unset, .unset] [(.long qm)])) stj13 ?_
    refine GoW.st (S' := s₁.setTop (mkF m 163 #[.val (.long q0), .second, .val (.long q1), .second, .val (.long q2), .second, .val (.long q3), .second, .val (.int p4), .val (.int wd), .val (.long cm), .second, .val (.long sv), .second, .val (.long fv), .second, .val (.long ht_), .second, .val (.long ms_), .second, .val (.long ev_), .second, .val (.long ew_), .second, .val (.long nv), .second, .val (.long qm), .second, .unset, .unset, .unset, .unset, .unset, .unset, .unset, .unset, .unset, .unset, .unset] [])) (fun _ kk => XS.lstore X0.here hx rfl (hb hby at_161) rfl (l' := #[.val (.long q0), .second, .val (.long q1), .second, .val (.long q2), .second, .val (.long q3), .second, .val (.int p4), .val (.int wd), .val (.long cm), .second, .val (.long sv), .second, .val (.long fv), .second, .val (.long ht_), .second, .val (.long ms_), .second, .val (.long ev_), .second, .val (.long ew_), .second, .val (.long nv), .second, .val (.long qm), .second, .unset, .unset, .unset, .unset, .unset, .unset, .unset, .unset, .unset, .unset, .unset]) rfl kk) ?_
    refine GoW.st (S' := s₁.setTop (mkF m 165 #[.val (.long q0), .second, .val (.long q1), .second, .val (.long q2), .second, .val (.long q3), .second, .val (.int p4), .val (.int wd), .val (.long cm), .second, .val (.long sv), .second, .val (.long fv), .second, .val (.long ht_), .second, .val (.long ms_), .second, .val (.long ev_), .second, .val (.long ew_), .second, .val (.long nv), .second, .val (.long qm), .second, .unset, .unset, .unset, .unset, .unset, .unset, .unset, .unset, .unset, .unset, .unset] [(.long q2)])) (fun _ kk => XS.lload X0.here hx rfl (hb hby at_163) rfl kk) ?_
    refine GoW.st (S' := s₁.setTop (mkF m 167 #[.val (.long q0), .second, .val (.long q1), .second, .val (.long q2), .second, .val (.long q3), .second, .val (.int p4), .val (.int wd), .val (.long cm), .second, .val (.long sv), .second, .val (.long fv), .second, .val (.long ht_), .second, .val (.long ms_), .second, .val (.long ev_), .second, .val (.long ew_), .second, .val (.long nv), .second, .val (.long qm), .second, .unset, .unset, .unset, .unset, .unset, .unset, .unset, .unset, .unset, .unset, .unset] [(.long qm), (.long q2)])) (fun _ kk => XS.lload X0.here hx rfl (hb hby at_165) rfl kk) ?_
    refine GoW.st (S' := s₁.setTop (mkF m 168 #[.val (.long q0), .second, .val (.long q1), .second, .val (.long q2), .second, .val (.long q3), .second, .val (.int p4), .val (.int wd), .val (.long cm), .second, .val (.long sv), .second, .val (.long fv), .second, .val (.long ht_), .second, .val (.long ms_), .second, .val (.long ev_), .second, .val (.long ew_), .second, .val (.long nv), .second, .val (.long qm), .second, .unset, .unset, .unset, .unset, .unset, .unset, .unset, .unset, .unset, .unset, .unset] [(.long (q2 &&& qm))])) (fun _ kk => XS.land X0.here hx rfl (hb hby at_167) rfl kk) ?_
    obtain ⟨qv, h_qv⟩ : ∃ z : Int64, z = (q2 &&& qm) := ⟨_, rfl⟩
    rw [← h_qv]
    have bq : 0 ≤ qv.toInt ∧ qv.toInt ≤ if wd = 0 then 67108863 else 1 := by rw [h_qv]; exact own_qv hj_qm
    refine GoW.st (S' := s₁.setTop (mkF m 170 #[.val (.long q0), .second, .val (.long q1), .second, .val (.long q2), .second, .val (.long q3), .second, .val (.int p4), .val (.int wd), .val (.long cm), .second, .val (.long sv), .second, .val (.long fv), .second, .val (.long ht_), .second, .val (.long ms_), .second, .val (.long ev_), .second, .val (.long ew_), .second, .val (.long nv), .second, .val (.long qm), .second, .val (.long qv), .second, .unset, .unset, .unset, .unset, .unset, .unset, .unset, .unset, .unset] [])) (fun _ kk => XS.lstore X0.here hx rfl (hb hby at_168) rfl (l' := #[.val (.long q0), .second, .val (.long q1), .second, .val (.long q2), .second, .val (.long q3), .second, .val (.int p4), .val (.int wd), .val (.long cm), .second, .val (.long sv), .second, .val (.long fv), .second, .val (.long ht_), .second, .val (.long ms_), .second, .val (.long ev_), .second, .val (.long ew_), .second, .val (.long nv), .second, .val (.long qm), .second, .val (.long qv), .second, .unset, .unset, .unset, .unset, .unset, .unset, .unset, .unset, .unset]) rfl kk) ?_
    refine GoW.st (S' := s₁.setTop (mkF m 172 #[.val (.long q0), .second, .val (.long q1), .second, .val (.long q2), .second, .val (.long q3), .second, .val (.int p4), .val (.int wd), .val (.long cm), .second, .val (.long sv), .second, .val (.long fv), .second, .val (.long ht_), .second, .val (.long ms_), .second, .val (.long ev_), .second, .val (.long ew_), .second, .val (.long nv), .second, .val (.long qm), .second, .val (.long qv), .second, .unset, .unset, .unset, .unset, .unset, .unset, .unset, .unset, .unset] [(.long q3)])) (fun _ kk => XS.lload X0.here hx rfl (hb hby at_170) rfl kk) ?_
    refine GoW.st (S' := s₁.setTop (mkF m 175 #[.val (.long q0), .second, .val (.long q1), .second, .val (.long q2), .second, .val (.long q3), .second, .val (.int p4), .val (.int wd), .val (.long cm), .second, .val (.long sv), .second, .val (.long fv), .second, .val (.long ht_), .second, .val (.long ms_), .second, .val (.long ev_), .second, .val (.long ew_), .second, .val (.long nv), .second, .val (.long qm), .second, .val (.long qv), .second, .unset, .unset, .unset, .unset, .unset, .unset, .unset, .unset, .unset] [(.long (9223372036854775807 : Int64)), (.long q3)])) (fun _ kk => X0.ldc2Long hx hown (mvT hZ (hw _ (List.mem_of_getElem? (i := 1) rfl))) (g := (mkF m 172 #[.val (.long q0), .second, .val (.long q1), .second, .val (.long q2), .second, .val (.long q3), .second, .val (.int p4), .val (.int wd), .val (.long cm), .second, .val (.long sv), .second, .val (.long fv), .second, .val (.long ht_), .second, .val (.long ms_), .second, .val (.long ev_), .second, .val (.long ew_), .second, .val (.long nv), .second, .val (.long qm), .second, .val (.long qv), .second, .unset, .unset, .unset, .unset, .unset, .unset, .unset, .unset, .unset] [(.long q3)])) rfl (hb hby at_172) _ kk) ?_
    refine GoW.st (S' := s₁.setTop (mkF m 176 #[.val (.long q0), .second, .val (.long q1), .second, .val (.long q2), .second, .val (.long q3), .second, .val (.int p4), .val (.int wd), .val (.long cm), .second, .val (.long sv), .second, .val (.long fv), .second, .val (.long ht_), .second, .val (.long ms_), .second, .val (.long ev_), .second, .val (.long ew_), .second, .val (.long nv), .second, .val (.long qm), .second, .val (.long qv), .second, .unset, .unset, .unset, .unset, .unset, .unset, .unset, .unset, .unset] [(.long (q3 &&& (9223372036854775807 : Int64)))])) (fun _ kk => XS.land X0.here hx rfl (hb hby at_175) rfl kk) ?_
    refine GoW.st (S' := s₁.setTop (mkF m 178 #[.val (.long q0), .second, .val (.long q1), .second, .val (.long q2), .second, .val (.long q3), .second, .val (.int p4), .val (.int wd), .val (.long cm), .second, .val (.long sv), .second, .val (.long fv), .second, .val (.long ht_), .second, .val (.long ms_), .second, .val (.long ev_), .second, .val (.long ew_), .second, .val (.long nv), .second, .val (.long qm), .second, .val (.long qv), .second, .unset, .unset, .unset, .unset, .unset, .unset, .unset, .unset, .unset] [(.long nv), (.long (q3 &&& (9223372036854775807 : Int64)))])) (fun _ kk => XS.lload X0.here hx rfl (hb hby at_176) rfl kk) ?_
    refine GoW.st (S' := s₁.setTop (mkF m 179 #[.val (.long q0), .second, .val (.long q1), .second, .val (.long q2), .second, .val (.long q3), .second, .val (.int p4), .val (.int wd), .val (.long cm), .second, .val (.long sv), .second, .val (.long fv), .second, .val (.long ht_), .second, .val (.long ms_), .second, .val (.long ev_), .second, .val (.long ew_), .second, .val (.long nv), .second, .val (.long qm), .second, .val (.long qv), .second, .unset, .unset, .unset, .unset, .unset, .unset, .unset, .unset, .unset] [(.long ((q3 &&& (9223372036854775807 : Int64)) - ((q3 &&& (9223372036854775807 : Int64)) / nv) * nv))])) (fun _ kk => XS.lrem X0.here hx rfl (hb hby at_178) rfl hc7 kk) ?_
    obtain ⟨rv, h_rv⟩ : ∃ z : Int64, z = ((q3 &&& (9223372036854775807 : Int64)) - ((q3 &&& (9223372036854775807 : Int64)) / nv) * nv) := ⟨_, rfl⟩
    rw [← h_rv]
    have br := own_rv (own_m63 _) hn1 h_rv
    obtain ⟨K, hK1, hK2, hK3⟩ := own_K bq bn.2
    refine GoW.st (S' := s₁.setTop (mkF m 181 #[.val (.long q0), .second, .val (.long q1), .second, .val (.long q2), .second, .val (.long q3), .second, .val (.int p4), .val (.int wd), .val (.long cm), .second, .val (.long sv), .second, .val (.long fv), .second, .val (.long ht_), .second, .val (.long ms_), .second, .val (.long ev_), .second, .val (.long ew_), .second, .val (.long nv), .second, .val (.long qm), .second, .val (.long qv), .second, .val (.long rv), .second, .unset, .unset, .unset, .unset, .unset, .unset, .unset] [])) (fun _ kk => XS.lstore X0.here hx rfl (hb hby at_179) rfl (l' := #[.val (.long q0), .second, .val (.long q1), .second, .val (.long q2), .second, .val (.long q3), .second, .val (.int p4), .val (.int wd), .val (.long cm), .second, .val (.long sv), .second, .val (.long fv), .second, .val (.long ht_), .second, .val (.long ms_), .second, .val (.long ev_), .second, .val (.long ew_), .second, .val (.long nv), .second, .val (.long qm), .second, .val (.long qv), .second, .val (.long rv), .second, .unset, .unset, .unset, .unset, .unset, .unset, .unset]) rfl kk) ?_
    refine GoW.st (S' := s₁.setTop (mkF m 183 #[.val (.long q0), .second, .val (.long q1), .second, .val (.long q2), .second, .val (.long q3), .second, .val (.int p4), .val (.int wd), .val (.long cm), .second, .val (.long sv), .second, .val (.long fv), .second, .val (.long ht_), .second, .val (.long ms_), .second, .val (.long ev_), .second, .val (.long ew_), .second, .val (.long nv), .second, .val (.long qm), .second, .val (.long qv), .second, .val (.long rv), .second, .unset, .unset, .unset, .unset, .unset, .unset, .unset] [(.long qv)])) (fun _ kk => XS.lload X0.here hx rfl (hb hby at_181) rfl kk) ?_
    refine GoW.st (S' := s₁.setTop (mkF m 185 #[.val (.long q0), .second, .val (.long q1), .second, .val (.long q2), .second, .val (.long q3), .second, .val (.int p4), .val (.int wd), .val (.long cm), .second, .val (.long sv), .second, .val (.long fv), .second, .val (.long ht_), .second, .val (.long ms_), .second, .val (.long ev_), .second, .val (.long ew_), .second, .val (.long nv), .second, .val (.long qm), .second, .val (.long qv), .second, .val (.long rv), .second, .unset, .unset, .unset, .unset, .unset, .unset, .unset] [(.long nv), (.long qv)])) (fun _ kk => XS.lload X0.here hx rfl (hb hby at_183) rfl kk) ?_
    refine GoW.st (S' := s₁.setTop (mkF m 186 #[.val (.long q0), .second, .val (.long q1), .second, .val (.long q2), .second, .val (.long q3), .second, .val (.int p4), .val (.int wd), .val (.long cm), .second, .val (.long sv), .second, .val (.long fv), .second, .val (.long ht_), .second, .val (.long ms_), .second, .val (.long ev_), .second, .val (.long ew_), .second, .val (.long nv), .second, .val (.long qm), .second, .val (.long qv), .second, .val (.long rv), .second, .unset, .unset, .unset, .unset, .unset, .unset, .unset] [(.long (qv * nv))])) (fun _ kk => XS.lmul X0.here hx rfl (hb hby at_185) rfl kk) ?_
    refine GoW.st (S' := s₁.setTop (mkF m 188 #[.val (.long q0), .second, .val (.long q1), .second, .val (.long q2), .second, .val (.long q3), .second, .val (.int p4), .val (.int wd), .val (.long cm), .second, .val (.long sv), .second, .val (.long fv), .second, .val (.long ht_), .second, .val (.long ms_), .second, .val (.long ev_), .second, .val (.long ew_), .second, .val (.long nv), .second, .val (.long qm), .second, .val (.long qv), .second, .val (.long rv), .second, .unset, .unset, .unset, .unset, .unset, .unset, .unset] [(.long rv), (.long (qv * nv))])) (fun _ kk => XS.lload X0.here hx rfl (hb hby at_186) rfl kk) ?_
    refine GoW.st (S' := s₁.setTop (mkF m 189 #[.val (.long q0), .second, .val (.long q1), .second, .val (.long q2), .second, .val (.long q3), .second, .val (.int p4), .val (.int wd), .val (.long cm), .second, .val (.long sv), .second, .val (.long fv), .second, .val (.long ht_), .second, .val (.long ms_), .second, .val (.long ev_), .second, .val (.long ew_), .second, .val (.long nv), .second, .val (.long qm), .second, .val (.long qv), .second, .val (.long rv), .second, .unset, .unset, .unset, .unset, .unset, .unset, .unset] [(.long ((qv * nv) + rv))])) (fun _ kk => XS.ladd X0.here hx rfl (hb hby at_188) rfl kk) ?_
    obtain ⟨tv, h_tv⟩ : ∃ z : Int64, z = ((qv * nv) + rv) := ⟨_, rfl⟩
    rw [← h_tv]
    have et := own_tv bq.1 hn1 br hK2 hK3 h_tv
    have bt_ := Own.pen_t bq.1 hn1 br et hK2 hK3
    have nn_tv := own_nn64 bt_.1
    have hns : ¬ (sv + fv) = (0 : Int64) := fun q => hc7 (h_nv.trans q)
    have hpp := Own.pen_pos bt_.1 bt_.2.1 hn1 bt_.2.2.1
    have hpen : ¬ (sv + fv) = (0 : Int64) → Own.Pos (FP.ddiv (FP.l2d tv) (FP.l2d (sv + fv))) := fun _ => by rw [← h_nv]; exact hpp
    have hre : Own.fPen sv fv tv = FP.ddiv (FP.l2d tv) (FP.l2d nv) := by rw [h_nv]; exact if_neg hns
    refine GoW.st (S' := s₁.setTop (mkF m 191 #[.val (.long q0), .second, .val (.long q1), .second, .val (.long q2), .second, .val (.long q3), .second, .val (.int p4), .val (.int wd), .val (.long cm), .second, .val (.long sv), .second, .val (.long fv), .second, .val (.long ht_), .second, .val (.long ms_), .second, .val (.long ev_), .second, .val (.long ew_), .second, .val (.long nv), .second, .val (.long qm), .second, .val (.long qv), .second, .val (.long rv), .second, .val (.long tv), .second, .unset, .unset, .unset, .unset, .unset] [])) (fun _ kk => XS.lstore X0.here hx rfl (hb hby at_189) rfl (l' := #[.val (.long q0), .second, .val (.long q1), .second, .val (.long q2), .second, .val (.long q3), .second, .val (.int p4), .val (.int wd), .val (.long cm), .second, .val (.long sv), .second, .val (.long fv), .second, .val (.long ht_), .second, .val (.long ms_), .second, .val (.long ev_), .second, .val (.long ew_), .second, .val (.long nv), .second, .val (.long qm), .second, .val (.long qv), .second, .val (.long rv), .second, .val (.long tv), .second, .unset, .unset, .unset, .unset, .unset]) rfl kk) ?_
    obtain ⟨T15, h15, X15, e15, E15, A15, D15, -, st15⟩ := newO X0 hx hZ hown (hw _ (List.mem_of_getElem? (i := 2) rfl)) (hw _ (List.mem_of_getElem? (i := 3) rfl)) (hw _ (List.mem_of_getElem? (i := 4) rfl)) e0 (g := (mkF m 191 #[.val (.long q0), .second, .val (.long q1), .second, .val (.long q2), .second, .val (.long q3), .second, .val (.int p4), .val (.int wd), .val (.long cm), .second, .val (.long sv), .second, .val (.long fv), .second, .val (.long ht_), .second, .val (.long ms_), .second, .val (.long ev_), .second, .val (.long ew_), .second, .val (.long nv), .second, .val (.long qm), .second, .val (.long qv), .second, .val (.long rv), .second, .val (.long tv), .second, .unset, .unset, .unset, .unset, .unset] [])) rfl (hb hby at_191) (by decide : 0 + 1 ≤ _) (by decide : 0 + 7 ≤ _)
    obtain ⟨b15, g15⟩ : ∃ z, z = h0.size := ⟨_, rfl⟩
    rw [← g15] at A15 D15 st15
    have g_b15 : n0 ≤ b15 := Nat.le_trans Z0 (Nat.le_of_eq g15.symm)
    have Zs16 := Nat.le_trans Z0 E15.1
    have hk := Nat.le_trans hk E15.1
    have E_b15 := A15
    have F_hitCount_b15 : Fld Z h15 b15 "com/example/larder/larder/CacheStats" "hitCount" "J" (.long (0 : Int64)) := D15 (Or.inr (hw _ (List.mem_of_getElem? (i := 34) rfl))) (ty := .long) (by decide)
    have F_missCount_b15 : Fld Z h15 b15 "com/example/larder/larder/CacheStats" "missCount" "J" (.long (0 : Int64)) := D15 (Or.inr (hw _ (List.mem_of_getElem? (i := 36) rfl))) (ty := .long) (by decide)
    have F_loadSuccessCount_b15 : Fld Z h15 b15 "com/example/larder/larder/CacheStats" "loadSuccessCount" "J" (.long (0 : Int64)) := D15 (Or.inr (hw _ (List.mem_of_getElem? (i := 38) rfl))) (ty := .long) (by decide)
    have F_loadFailureCount_b15 : Fld Z h15 b15 "com/example/larder/larder/CacheStats" "loadFailureCount" "J" (.long (0 : Int64)) := D15 (Or.inr (hw _ (List.mem_of_getElem? (i := 40) rfl))) (ty := .long) (by decide)
    have F_totalLoadTime_b15 : Fld Z h15 b15 "com/example/larder/larder/CacheStats" "totalLoadTime" "J" (.long (0 : Int64)) := D15 (Or.inr (hw _ (List.mem_of_getElem? (i := 42) rfl))) (ty := .long) (by decide)
    have F_evictionCount_b15 : Fld Z h15 b15 "com/example/larder/larder/CacheStats" "evictionCount" "J" (.long (0 : Int64)) := D15 (Or.inr (hw _ (List.mem_of_getElem? (i := 44) rfl))) (ty := .long) (by decide)
    have F_evictionWeight_b15 : Fld Z h15 b15 "com/example/larder/larder/CacheStats" "evictionWeight" "J" (.long (0 : Int64)) := D15 (Or.inr (hw _ (List.mem_of_getElem? (i := 46) rfl))) (ty := .long) (by decide)
    refine GoW.st (S' := T15.setTop (mkF m 194 #[.val (.long q0), .second, .val (.long q1), .second, .val (.long q2), .second, .val (.long q3), .second, .val (.int p4), .val (.int wd), .val (.long cm), .second, .val (.long sv), .second, .val (.long fv), .second, .val (.long ht_), .second, .val (.long ms_), .second, .val (.long ev_), .second, .val (.long ew_), .second, .val (.long nv), .second, .val (.long qm), .second, .val (.long qv), .second, .val (.long rv), .second, .val (.long tv), .second, .unset, .unset, .unset, .unset, .unset] [(.ref b15)])) st15 ?_
    refine GoW.st (S' := T15.setTop (mkF m 195 #[.val (.long q0), .second, .val (.long q1), .second, .val (.long q2), .second, .val (.long q3), .second, .val (.int p4), .val (.int wd), .val (.long cm), .second, .val (.long sv), .second, .val (.long fv), .second, .val (.long ht_), .second, .val (.long ms_), .second, .val (.long ev_), .second, .val (.long ew_), .second, .val (.long nv), .second, .val (.long qm), .second, .val (.long qv), .second, .val (.long rv), .second, .val (.long tv), .second, .unset, .unset, .unset, .unset, .unset] [(.ref b15), (.ref b15)])) (fun _ kk => XS.dup X15.here hx rfl (hb hby at_194) rfl rfl kk) ?_
    refine GoW.st (S' := T15.setTop (mkF m 197 #[.val (.long q0), .second, .val (.long q1), .second, .val (.long q2), .second, .val (.long q3), .second, .val (.int p4), .val (.int wd), .val (.long cm), .second, .val (.long sv), .second, .val (.long fv), .second, .val (.long ht_), .second, .val (.long ms_), .second, .val (.long ev_), .second, .val (.long ew_), .second, .val (.long nv), .second, .val (.long qm), .second, .val (.long qv), .second, .val (.long rv), .second, .val (.long tv), .second, .unset, .unset, .unset, .unset, .unset] [(.long ht_), (.ref b15), (.ref b15)])) (fun _ kk => XS.lload X15.here hx rfl (hb hby at_195) rfl kk) ?_
    refine GoW.st (S' := T15.setTop (mkF m 199 #[.val (.long q0), .second, .val (.long q1), .second, .val (.long q2), .second, .val (.long q3), .second, .val (.int p4), .val (.int wd), .val (.long cm), .second, .val (.long sv), .second, .val (.long fv), .second, .val (.long ht_), .second, .val (.long ms_), .second, .val (.long ev_), .second, .val (.long ew_), .second, .val (.long nv), .second, .val (.long qm), .second, .val (.long qv), .second, .val (.long rv), .second, .val (.long tv), .second, .unset, .unset, .unset, .unset, .unset] [(.long ms_), (.long ht_), (.ref b15), (.ref b15)])) (fun _ kk => XS.lload X15.here hx rfl (hb hby at_197) rfl kk) ?_
    refine GoW.st (S' := T15.setTop (mkF m 201 #[.val (.long q0), .second, .val (.long q1), .second, .val (.long q2), .second, .val (.long q3), .second, .val (.int p4), .val (.int wd), .val (.long cm), .second, .val (.long sv), .second, .val (.long fv), .second, .val (.long ht_), .second, .val (.long ms_), .second, .val (.long ev_), .second, .val (.long ew_), .second, .val (.long nv), .second, .val (.long qm), .second, .val (.long qv), .second, .val (.long rv), .second, .val (.long tv), .second, .unset, .unset, .unset, .unset, .unset] [(.long sv), (.long ms_), (.long ht_), (.ref b15), (.ref b15)])) (fun _ kk => XS.lload X15.here hx rfl (hb hby at_199) rfl kk) ?_
    refine GoW.st (S' := T15.setTop (mkF m 203 #[.val (.long q0), .second, .val (.long q1), .second, .val (.long q2), .second, .val (.long q3), .second, .val (.int p4), .val (.int wd), .val (.long cm), .second, .val (.long sv), .second, .val (.long fv), .second, .val (.long ht_), .second, .val (.long ms_), .second, .val (.long ev_), .second, .val (.long ew_), .second, .val (.long nv), .second, .val (.long qm), .second, .val (.long qv), .second, .val (.long rv), .second, .val (.long tv), .second, .unset, .unset, .unset, .unset, .unset] [(.long fv), (.long sv), (.long ms_), (.long ht_), (.ref b15), (.ref b15)])) (fun _ kk => XS.lload X15.here hx rfl (hb hby at_201) rfl kk) ?_
    refine GoW.st (S' := T15.setTop (mkF m 205 #[.val (.long q0), .second, .val (.long q1), .second, .val (.long q2), .second, .val (.long q3), .second, .val (.int p4), .val (.int wd), .val (.long cm), .second, .val (.long sv), .second, .val (.long fv), .second, .val (.long ht_), .second, .val (.long ms_), .second, .val (.long ev_), .second, .val (.long ew_), .second, .val (.long nv), .second, .val (.long qm), .second, .val (.long qv), .second, .val (.long rv), .second, .val (.long tv), .second, .unset, .unset, .unset, .unset, .unset] [(.long tv), (.long fv), (.long sv), (.long ms_), (.long ht_), (.ref b15), (.ref b15)])) (fun _ kk => XS.lload X15.here hx rfl (hb hby at_203) rfl kk) ?_
    refine GoW.st (S' := T15.setTop (mkF m 207 #[.val (.long q0), .second, .val (.long q1), .second, .val (.long q2), .second, .val (.long q3), .second, .val (.int p4), .val (.int wd), .val (.long cm), .second, .val (.long sv), .second, .val (.long fv), .second, .val (.long ht_), .second, .val (.long ms_), .second, .val (.long ev_), .second, .val (.long ew_), .second, .val (.long nv), .second, .val (.long qm), .second, .val (.long qv), .second, .val (.long rv), .second, .val (.long tv), .second, .unset, .unset, .unset, .unset, .unset] [(.long ev_), (.long tv), (.long fv), (.long sv), (.long ms_), (.long ht_), (.ref b15), (.ref b15)])) (fun _ kk => XS.lload X15.here hx rfl (hb hby at_205) rfl kk) ?_
    refine GoW.st (S' := T15.setTop (mkF m 209 #[.val (.long q0), .second, .val (.long q1), .second, .val (.long q2), .second, .val (.long q3), .second, .val (.int p4), .val (.int wd), .val (.long cm), .second, .val (.long sv), .second, .val (.long fv), .second, .val (.long ht_), .second, .val (.long ms_), .second, .val (.long ev_), .second, .val (.long ew_), .second, .val (.long nv), .second, .val (.long qm), .second, .val (.long qv), .second, .val (.long rv), .second, .val (.long tv), .second, .unset, .unset, .unset, .unset, .unset] [(.long ew_), (.long ev_), (.long tv), (.long fv), (.long sv), (.long ms_), (.long ht_), (.ref b15), (.ref b15)])) (fun _ kk => XS.lload X15.here hx rfl (hb hby at_207) rfl kk) ?_
    obtain ⟨_, _, ⟨T17, L17, k17, n17⟩, -, X17, hS17, hg17, ⟨Lc17, hQ17, l17, y17, z17⟩, st17⟩ := X15.specialBackS hx (y := (⟨"com/example/larder/larder/CacheStats", "<init>", "(JJJJJJJ)V"⟩ : MethodName)) rfl hown (mvT hZ (hw _ (List.mem_of_getElem? (i := 5) rfl))) (mvT hZ (hw _ (List.mem_of_getElem? (i := 6) rfl))) (mvT hZ (hw _ (List.mem_of_getElem? (i := 7) rfl))) (by decide) (own_backS (W := 1) (P := PTr) (rmCsc l Z az hw [] b15 ht_ ms_ sv fv tv ev_ ew_ h15 n0 Zs16 E_b15 g_b15 F_hitCount_b15 F_missCount_b15 F_loadSuccessCount_b15 F_loadFailureCount_b15 F_totalLoadTime_b15 F_evictionCount_b15 F_evictionWeight_b15 nn_ht_ nn_ms_ nn_sv nn_fv nn_tv nn_ev_ nn_ew_) hZ (hw _ (List.mem_of_getElem? (i := 7) rfl)) (hw _ (List.mem_of_getElem? (i := 4) rfl)) (by decide) (by decide)) (g := (mkF m 209 #[.val (.long q0), .second, .val (.long q1), .second, .val (.long q2), .second, .val (.long q3), .second, .val (.int p4), .val (.int wd), .val (.long cm), .second, .val (.long sv), .second, .val (.long fv), .second, .val (.long ht_), .second, .val (.long ms_), .second, .val (.long ev_), .second, .val (.long ew_), .second, .val (.long nv), .second, .val (.long qm), .second, .val (.long qv), .second, .val (.long rv), .second, .val (.long tv), .second, .unset, .unset, .unset, .unset, .unset] [(.long ew_), (.long ev_), (.long tv), (.long fv), (.long sv), (.long ms_), (.long ht_), (.ref b15), (.ref b15)])) rfl (by rw [hml]; rfl) (Steps.refl _) (a := b15) (argsL := [(.long ht_), (.long ms_), (.long sv), (.long fv), (.long tv), (.long ev_), (.long ew_)]) (rest := [(.ref b15)]) (lenOf pd_0 rfl) rfl (by show 2 * 0 + _ ≤ _; exact Nat.le_of_eq rfl) (hb hby at_209) (fun vmq hvq => ⟨rfl, e15, trivial, (by decide : 1 + 14 ≤ _), (by decide : 7 + 384 ≤ _)⟩)
    dsimp only [Pt.U, Pt.locs, Pt.cells, Pt.slots] at X17 l17 y17 z17 st17 hQ17 hS17 hg17
    rw [l17, y17, z17] at X17
    obtain ⟨X17, hS, hZ, hown⟩ := rebS hS (own_hk e15 hk) X17 hS17 hg17 hZ hown
    obtain ⟨rfl, N17q, K17, Ec17, Fc17_0, Fc17_1, Fc17_2, Fc17_3, Fc17_4, Fc17_5, Fc17_6, Lt17⟩ := hQ17
    have N17 := Fr.app N0 N17q
    have E_b15 := E_b15.keep K17
    have Zs18 := Nat.le_trans Zs16 K17.1
    have hk := Nat.le_trans hk K17.1
    have hk : T17.heap.size ≤ (T17.heap).size := Nat.le_of_eq (congrArg Array.size (show T17.heap = T17.heap from rfl))
    refine GoW.tr (S' := T17.setTop (mkF m 212 #[.val (.long q0), .second, .val (.long q1), .second, .val (.long q2), .second, .val (.long q3), .second, .val (.int p4), .val (.int wd), .val (.long cm), .second, .val (.long sv), .second, .val (.long fv), .second, .val (.long ht_), .second, .val (.long ms_), .second, .val (.long ev_), .second, .val (.long ew_), .second, .val (.long nv), .second, .val (.long qm), .second, .val (.long qv), .second, .val (.long rv), .second, .val (.long tv), .second, .unset, .unset, .unset, .unset, .unset] [(.ref b15)])) st17 ?_
    refine GoW.st (S' := T17.setTop (mkF m 214 #[.val (.long q0), .second, .val (.long q1), .second, .val (.long q2), .second, .val (.long q3), .second, .val (.int p4), .val (.int wd), .val (.long cm), .second, .val (.long sv), .second, .val (.long fv), .second, .val (.long ht_), .second, .val (.long ms_), .second, .val (.long ev_), .second, .val (.long ew_), .second, .val (.long nv), .second, .val (.long qm), .second, .val (.long qv), .second, .val (.long rv), .second, .val (.long tv), .second, .val (.ref b15), .unset, .unset, .unset, .unset] [])) (fun _ kk => XS.astore X17.here hx rfl (hb hby at_212) rfl rfl (l' := #[.val (.long q0), .second, .val (.long q1), .second, .val (.long q2), .second, .val (.long q3), .second, .val (.int p4), .val (.int wd), .val (.long cm), .second, .val (.long sv), .second, .val (.long fv), .second, .val (.long ht_), .second, .val (.long ms_), .second, .val (.long ev_), .second, .val (.long ew_), .second, .val (.long nv), .second, .val (.long qm), .second, .val (.long qv), .second, .val (.long rv), .second, .val (.long tv), .second, .val (.ref b15), .unset, .unset, .unset, .unset]) rfl kk) ?_
    refine GoW.st (S' := T17.setTop (mkF m 216 #[.val (.long q0), .second, .val (.long q1), .second, .val (.long q2), .second, .val (.long q3), .second, .val (.int p4), .val (.int wd), .val (.long cm), .second, .val (.long sv), .second, .val (.long fv), .second, .val (.long ht_), .second, .val (.long ms_), .second, .val (.long ev_), .second, .val (.long ew_), .second, .val (.long nv), .second, .val (.long qm), .second, .val (.long qv), .second, .val (.long rv), .second, .val (.long tv), .second, .val (.ref b15), .unset, .unset, .unset, .unset] [(.ref b15)])) (fun _ kk => XS.aload X17.here hx rfl (hb hby at_214) rfl rfl kk) ?_
    obtain ⟨cq19, kq19, q19a, q19b, q19c⟩ := isOf hZ rfl Ec17
    obtain ⟨_, _, ⟨T19, L19, k19, n19⟩, -, X19, ⟨Lc19, hQ19, l19, y19, z19⟩, st19⟩ := X17.virtualBack hx (y := (⟨"com/example/larder/larder/CacheStats", "averageLoadPenalty", "()D"⟩ : MethodName)) (z := (⟨"com/example/larder/larder/CacheStats", "averageLoadPenalty", "()D"⟩ : MethodName)) hown (mvT hZ (hw _ (List.mem_of_getElem? (i := 47) rfl))) (mvT hZ (hw _ (List.mem_of_getElem? (i := 48) rfl))) (notFace_of_selects (args := #[]) (mvT hZ (hw _ (List.mem_of_getElem? (i := 50) rfl)))) (mvT hZ (hw _ (List.mem_of_getElem? (i := 50) rfl))) (mvT hZ (hw _ (List.mem_of_getElem? (i := 49) rfl))) (by decide) (backOf (W := 0) (rmAP l Z az hw [] b15 sv fv tv T17.heap n0 Zs18 Fc17_2 Fc17_3 Fc17_4 hpen) hZ (hw _ (List.mem_of_getElem? (i := 51) rfl)) (hw _ (List.mem_of_getElem? (i := 4) rfl)) (by decide) (by decide)) q19a q19c (g := (mkF m 216 #[.val (.long q0), .second, .val (.long q1), .second, .val (.long q2), .second, .val (.long q3), .second, .val (.int p4), .val (.int wd), .val (.long cm), .second, .val (.long sv), .second, .val (.long fv), .second, .val (.long ht_), .second, .val (.long ms_), .second, .val (.long ev_), .second, .val (.long ew_), .second, .val (.long nv), .second, .val (.long qm), .second, .val (.long qv), .second, .val (.long rv), .second, .val (.long tv), .second, .val (.ref b15), .unset, .unset, .unset, .unset] [(.ref b15)])) rfl (by rw [hml]; rfl) (Steps.refl _) (argsL := []) (rest := []) (lenOf pd_3 rfl) rfl (by show 2 * 0 + _ ≤ _; exact Nat.le_of_eq rfl) (hb hby at_216) (fun _ _ => ⟨rfl, rfl, (by decide : 15 + 0 ≤ _), (by decide : 391 + 0 ≤ _)⟩)
    dsimp only [Pt.U, Pt.locs, Pt.cells, Pt.slots] at X19 l19 y19 z19 st19 hQ19
    rw [l19, y19, z19] at X19
    obtain ⟨hv19, N19q, e19⟩ := hQ19
    subst hv19
    have N19 := Fr.app N17 N19q
    refine GoW.tr (S' := T19.setTop (mkF m 219 #[.val (.long q0), .second, .val (.long q1), .second, .val (.long q2), .second, .val (.long q3), .second, .val (.int p4), .val (.int wd), .val (.long cm), .second, .val (.long sv), .second, .val (.long fv), .second, .val (.long ht_), .second, .val (.long ms_), .second, .val (.long ev_), .second, .val (.long ew_), .second, .val (.long nv), .second, .val (.long qm), .second, .val (.long qv), .second, .val (.long rv), .second, .val (.long tv), .second, .val (.ref b15), .unset, .unset, .unset, .unset] [(.double (Own.fPen sv fv tv))])) st19 ?_
    refine GoW.st (S' := T19.setTop (mkF m 221 #[.val (.long q0), .second, .val (.long q1), .second, .val (.long q2), .second, .val (.long q3), .second, .val (.int p4), .val (.int wd), .val (.long cm), .second, .val (.long sv), .second, .val (.long fv), .second, .val (.long ht_), .second, .val (.long ms_), .second, .val (.long ev_), .second, .val (.long ew_), .second, .val (.long nv), .second, .val (.long qm), .second, .val (.long qv), .second, .val (.long rv), .second, .val (.long tv), .second, .val (.ref b15), .val (.double (Own.fPen sv fv tv)), .second, .unset, .unset] [])) (fun _ kk => XS.dstore X19.here hx rfl (hb hby at_219) rfl (l' := #[.val (.long q0), .second, .val (.long q1), .second, .val (.long q2), .second, .val (.long q3), .second, .val (.int p4), .val (.int wd), .val (.long cm), .second, .val (.long sv), .second, .val (.long fv), .second, .val (.long ht_), .second, .val (.long ms_), .second, .val (.long ev_), .second, .val (.long ew_), .second, .val (.long nv), .second, .val (.long qm), .second, .val (.long qv), .second, .val (.long rv), .second, .val (.long tv), .second, .val (.ref b15), .val (.double (Own.fPen sv fv tv)), .second, .unset, .unset]) rfl kk) ?_
    refine GoW.st (S' := T19.setTop (mkF m 223 #[.val (.long q0), .second, .val (.long q1), .second, .val (.long q2), .second, .val (.long q3), .second, .val (.int p4), .val (.int wd), .val (.long cm), .second, .val (.long sv), .second, .val (.long fv), .second, .val (.long ht_), .second, .val (.long ms_), .second, .val (.long ev_), .second, .val (.long ew_), .second, .val (.long nv), .second, .val (.long qm), .second, .val (.long qv), .second, .val (.long rv), .second, .val (.long tv), .second, .val (.ref b15), .val (.double (Own.fPen sv fv tv)), .second, .unset, .unset] [(.long qv)])) (fun _ kk => XS.lload X19.here hx rfl (hb hby at_221) rfl kk) ?_
    refine GoW.st (S' := T19.setTop (mkF m 224 #[.val (.long q0), .second, .val (.long q1), .second, .val (.long q2), .second, .val (.long q3), .second, .val (.int p4), .val (.int wd), .val (.long cm), .second, .val (.long sv), .second, .val (.long fv), .second, .val (.long ht_), .second, .val (.long ms_), .second, .val (.long ev_), .second, .val (.long ew_), .second, .val (.long nv), .second, .val (.long qm), .second, .val (.long qv), .second, .val (.long rv), .second, .val (.long tv), .second, .val (.ref b15), .val (.double (Own.fPen sv fv tv)), .second, .unset, .unset] [(.double (FP.l2d qv))])) (fun _ kk => XS.l2dS X19.here hx rfl (hb hby at_223) rfl rfl kk) ?_
    refine GoW.st (S' := T19.setTop (mkF m 226 #[.val (.long q0), .second, .val (.long q1), .second, .val (.long q2), .second, .val (.long q3), .second, .val (.int p4), .val (.int wd), .val (.long cm), .second, .val (.long sv), .second, .val (.long fv), .second, .val (.long ht_), .second, .val (.long ms_), .second, .val (.long ev_), .second, .val (.long ew_), .second, .val (.long nv), .second, .val (.long qm), .second, .val (.long qv), .second, .val (.long rv), .second, .val (.long tv), .second, .val (.ref b15), .val (.double (Own.fPen sv fv tv)), .second, .val (.double (FP.l2d qv)), .second] [])) (fun _ kk => XS.dstore X19.here hx rfl (hb hby at_224) rfl (l' := #[.val (.long q0), .second, .val (.long q1), .second, .val (.long q2), .second, .val (.long q3), .second, .val (.int p4), .val (.int wd), .val (.long cm), .second, .val (.long sv), .second, .val (.long fv), .second, .val (.long ht_), .second, .val (.long ms_), .second, .val (.long ev_), .second, .val (.long ew_), .second, .val (.long nv), .second, .val (.long qm), .second, .val (.long qv), .second, .val (.long rv), .second, .val (.long tv), .second, .val (.ref b15), .val (.double (Own.fPen sv fv tv)), .second, .val (.double (FP.l2d qv)), .second]) rfl kk) ?_
    refine GoW.st (S' := T19.setTop (mkF m 228 #[.val (.long q0), .second, .val (.long q1), .second, .val (.long q2), .second, .val (.long q3), .second, .val (.int p4), .val (.int wd), .val (.long cm), .second, .val (.long sv), .second, .val (.long fv), .second, .val (.long ht_), .second, .val (.long ms_), .second, .val (.long ev_), .second, .val (.long ew_), .second, .val (.long nv), .second, .val (.long qm), .second, .val (.long qv), .second, .val (.long rv), .second, .val (.long tv), .second, .val (.ref b15), .val (.double (Own.fPen sv fv tv)), .second, .val (.double (FP.l2d qv)), .second] [(.long rv)])) (fun _ kk => XS.lload X19.here hx rfl (hb hby at_226) rfl kk) ?_
    refine GoW.st (S' := T19.setTop (mkF m 229 #[.val (.long q0), .second, .val (.long q1), .second, .val (.long q2), .second, .val (.long q3), .second, .val (.int p4), .val (.int wd), .val (.long cm), .second, .val (.long sv), .second, .val (.long fv), .second, .val (.long ht_), .second, .val (.long ms_), .second, .val (.long ev_), .second, .val (.long ew_), .second, .val (.long nv), .second, .val (.long qm), .second, .val (.long qv), .second, .val (.long rv), .second, .val (.long tv), .second, .val (.ref b15), .val (.double (Own.fPen sv fv tv)), .second, .val (.double (FP.l2d qv)), .second] [(.long (0 : Int64)), (.long rv)])) (fun _ kk => XS.lconst X19.here hx rfl (hb hby at_228) kk) ?_
    refine GoW.st (S' := T19.setTop (mkF m 230 #[.val (.long q0), .second, .val (.long q1), .second, .val (.long q2), .second, .val (.long q3), .second, .val (.int p4), .val (.int wd), .val (.long cm), .second, .val (.long sv), .second, .val (.long fv), .second, .val (.long ht_), .second, .val (.long ms_), .second, .val (.long ev_), .second, .val (.long ew_), .second, .val (.long nv), .second, .val (.long qm), .second, .val (.long qv), .second, .val (.long rv), .second, .val (.long tv), .second, .val (.ref b15), .val (.double (Own.fPen sv fv tv)), .second, .val (.double (FP.l2d qv)), .second] [(.int (lcmpW rv (0 : Int64)))])) (fun _ kk => XS.lcmp X19.here hx rfl (hb hby at_229) rfl kk) ?_
    by_cases hc20 : rv = (0 : Int64)
    · refine GoW.st (S' := T19.setTop (mkF m 233 #[.val (.long q0), .second, .val (.long q1), .second, .val (.long q2), .second, .val (.long q3), .second, .val (.int p4), .val (.int wd), .val (.long cm), .second, .val (.long sv), .second, .val (.long fv), .second, .val (.long ht_), .second, .val (.long ms_), .second, .val (.long ev_), .second, .val (.long ew_), .second, .val (.long nv), .second, .val (.long qm), .second, .val (.long qv), .second, .val (.long rv), .second, .val (.long tv), .second, .val (.ref b15), .val (.double (Own.fPen sv fv tv)), .second, .val (.double (FP.l2d qv)), .second] [])) (fun _ kk => XS.ifNo X19.here hx rfl (hb hby at_230) rfl ((if0 _ _).trans (teq ((lw_eq rv (0 : Int64)).mpr hc20)).2) kk) ?_
      refine GoW.st (S' := T19.setTop (mkF m 235 #[.val (.long q0), .second, .val (.long q1), .second, .val (.long q2), .second, .val (.long q3), .second, .val (.int p4), .val (.int wd), .val (.long cm), .second, .val (.long sv), .second, .val (.long fv), .second, .val (.long ht_), .second, .val (.long ms_), .second, .val (.long ev_), .second, .val (.long ew_), .second, .val (.long nv), .second, .val (.long qm), .second, .val (.long qv), .second, .val (.long rv), .second, .val (.long tv), .second, .val (.ref b15), .val (.double (Own.fPen sv fv tv)), .second, .val (.double (FP.l2d qv)), .second] [(.double (Own.fPen sv fv tv))])) (fun _ kk => XS.dload X19.here hx rfl (hb hby at_233) rfl kk) ?_
      refine GoW.st (S' := T19.setTop (mkF m 237 #[.val (.long q0), .second, .val (.long q1), .second, .val (.long q2), .second, .val (.long q3), .second, .val (.int p4), .val (.int wd), .val (.long cm), .second, .val (.long sv), .second, .val (.long fv), .second, .val (.long ht_), .second, .val (.long ms_), .second, .val (.long ev_), .second, .val (.long ew_), .second, .val (.long nv), .second, .val (.long qm), .second, .val (.long qv), .second, .val (.long rv), .second, .val (.long tv), .second, .val (.ref b15), .val (.double (Own.fPen sv fv tv)), .second, .val (.double (FP.l2d qv)), .second] [(.double (FP.l2d qv)), (.double (Own.fPen sv fv tv))])) (fun _ kk => XS.dload X19.here hx rfl (hb hby at_235) rfl kk) ?_
      refine GoW.st (S' := T19.setTop (mkF m 238 #[.val (.long q0), .second, .val (.long q1), .second, .val (.long q2), .second, .val (.long q3), .second, .val (.int p4), .val (.int wd), .val (.long cm), .second, .val (.long sv), .second, .val (.long fv), .second, .val (.long ht_), .second, .val (.long ms_), .second, .val (.long ev_), .second, .val (.long ew_), .second, .val (.long nv), .second, .val (.long qm), .second, .val (.long qv), .second, .val (.long rv), .second, .val (.long tv), .second, .val (.ref b15), .val (.double (Own.fPen sv fv tv)), .second, .val (.double (FP.l2d qv)), .second] [(.int (cmpValue (FP.dcmp (Own.fPen sv fv tv) (FP.l2d qv)) .l))])) (fun _ kk => XS.dcmpS X19.here hx rfl (hb hby at_237) rfl rfl kk) ?_
      refine GoW.st (S' := T19.setTop (mkF m 241 #[.val (.long q0), .second, .val (.long q1), .second, .val (.long q2), .second, .val (.long q3), .second, .val (.int p4), .val (.int wd), .val (.long cm), .second, .val (.long sv), .second, .val (.long fv), .second, .val (.long ht_), .second, .val (.long ms_), .second, .val (.long ev_), .second, .val (.long ew_), .second, .val (.long nv), .second, .val (.long qm), .second, .val (.long qv), .second, .val (.long rv), .second, .val (.long tv), .second, .val (.ref b15), .val (.double (Own.fPen sv fv tv)), .second, .val (.double (FP.l2d qv)), .second] [])) (fun _ kk => XS.ifNo X19.here hx rfl (hb hby at_238) rfl ((if0 _ _).trans (teq (by rw [hre]; exact own_ceq hpp (Own.l2d_pos bq.1) .l (Own.pen_eq bq.1 hn1 (by have := own_z hc20; omega) bt_.2.1 bt_.2.2.1 (by omega)))).2) kk) ?_
      refine GoW.st (S' := T19.setTop (mkF m 242 #[.val (.long q0), .second, .val (.long q1), .second, .val (.long q2), .second, .val (.long q3), .second, .val (.int p4), .val (.int wd), .val (.long cm), .second, .val (.long sv), .second, .val (.long fv), .second, .val (.long ht_), .second, .val (.long ms_), .second, .val (.long ev_), .second, .val (.long ew_), .second, .val (.long nv), .second, .val (.long qm), .second, .val (.long qv), .second, .val (.long rv), .second, .val (.long tv), .second, .val (.ref b15), .val (.double (Own.fPen sv fv tv)), .second, .val (.double (FP.l2d qv)), .second] [(.int (1 : Int32))])) (fun _ kk => XS.iconst X19.here hx rfl (hb hby at_241) kk) ?_
      refine GoW.st (S' := T19.setTop (mkF m 246 #[.val (.long q0), .second, .val (.long q1), .second, .val (.long q2), .second, .val (.long q3), .second, .val (.int p4), .val (.int wd), .val (.long cm), .second, .val (.long sv), .second, .val (.long fv), .second, .val (.long ht_), .second, .val (.long ms_), .second, .val (.long ev_), .second, .val (.long ew_), .second, .val (.long nv), .second, .val (.long qm), .second, .val (.long qv), .second, .val (.long rv), .second, .val (.long tv), .second, .val (.ref b15), .val (.double (Own.fPen sv fv tv)), .second, .val (.double (FP.l2d qv)), .second] [(.int (1 : Int32))])) (fun _ kk => XS.goto X19.here hx rfl (pc0 := 242) (pc' := 246) rfl (hb hby at_242) (by decide) (by decide) kk) ?_
      exact GoW.retN X19 hx hlk hS (own_hk e19 hk) (t := .boolean) Bd.returns (by simp) (hb hby at_246) (⟨rfl, N19⟩) (by decide) (by decide)
    · refine GoW.st (S' := T19.setTop (mkF m 247 #[.val (.long q0), .second, .val (.long q1), .second, .val (.long q2), .second, .val (.long q3), .second, .val (.int p4), .val (.int wd), .val (.long cm), .second, .val (.long sv), .second, .val (.long fv), .second, .val (.long ht_), .second, .val (.long ms_), .second, .val (.long ev_), .second, .val (.long ew_), .second, .val (.long nv), .second, .val (.long qm), .second, .val (.long qv), .second, .val (.long rv), .second, .val (.long tv), .second, .val (.ref b15), .val (.double (Own.fPen sv fv tv)), .second, .val (.double (FP.l2d qv)), .second] [])) (fun _ kk => XS.ifYes X19.here hx rfl (pc0 := 230) (pc' := 247) rfl (hb hby at_230) rfl ((if0 _ _).trans (feq (fun q => hc20 ((lw_eq rv (0 : Int64)).mp q))).2) (by decide) (by decide) kk) ?_
      have hr0 : 0 < rv.toInt ∧ rv.toInt < nv.toInt := ⟨by have : ¬ rv.toInt = 0 := fun z => hc20 (Int64.toInt_inj.mp z); omega, br.2⟩
      have hlt := Own.pen_lt hK1 bq.1 hn1 hr0 et hK2 hK3
      have q53 : qv.toInt ≤ 2 ^ 53 - 2 := by have := bq.2; split at this <;> omega
      have hdp := own_dp bq.1 q53
      refine GoW.st (S' := T19.setTop (mkF m 249 #[.val (.long q0), .second, .val (.long q1), .second, .val (.long q2), .second, .val (.long q3), .second, .val (.int p4), .val (.int wd), .val (.long cm), .second, .val (.long sv), .second, .val (.long fv), .second, .val (.long ht_), .second, .val (.long ms_), .second, .val (.long ev_), .second, .val (.long ew_), .second, .val (.long nv), .second, .val (.long qm), .second, .val (.long qv), .second, .val (.long rv), .second, .val (.long tv), .second, .val (.ref b15), .val (.double (Own.fPen sv fv tv)), .second, .val (.double (FP.l2d qv)), .second] [(.double (FP.l2d qv))])) (fun _ kk => XS.dload X19.here hx rfl (hb hby at_247) rfl kk) ?_
      refine GoW.st (S' := T19.setTop (mkF m 251 #[.val (.long q0), .second, .val (.long q1), .second, .val (.long q2), .second, .val (.long q3), .second, .val (.int p4), .val (.int wd), .val (.long cm), .second, .val (.long sv), .second, .val (.long fv), .second, .val (.long ht_), .second, .val (.long ms_), .second, .val (.long ev_), .second, .val (.long ew_), .second, .val (.long nv), .second, .val (.long qm), .second, .val (.long qv), .second, .val (.long rv), .second, .val (.long tv), .second, .val (.ref b15), .val (.double (Own.fPen sv fv tv)), .second, .val (.double (FP.l2d qv)), .second] [(.double (Own.fPen sv fv tv)), (.double (FP.l2d qv))])) (fun _ kk => XS.dload X19.here hx rfl (hb hby at_249) rfl kk) ?_
      refine GoW.st (S' := T19.setTop (mkF m 252 #[.val (.long q0), .second, .val (.long q1), .second, .val (.long q2), .second, .val (.long q3), .second, .val (.int p4), .val (.int wd), .val (.long cm), .second, .val (.long sv), .second, .val (.long fv), .second, .val (.long ht_), .second, .val (.long ms_), .second, .val (.long ev_), .second, .val (.long ew_), .second, .val (.long nv), .second, .val (.long qm), .second, .val (.long qv), .second, .val (.long rv), .second, .val (.long tv), .second, .val (.ref b15), .val (.double (Own.fPen sv fv tv)), .second, .val (.double (FP.l2d qv)), .second] [(.int (cmpValue (FP.dcmp (FP.l2d qv) (Own.fPen sv fv tv)) .g))])) (fun _ kk => XS.dcmpS X19.here hx rfl (hb hby at_251) rfl rfl kk) ?_
      refine GoW.st (S' := T19.setTop (mkF m 255 #[.val (.long q0), .second, .val (.long q1), .second, .val (.long q2), .second, .val (.long q3), .second, .val (.int p4), .val (.int wd), .val (.long cm), .second, .val (.long sv), .second, .val (.long fv), .second, .val (.long ht_), .second, .val (.long ms_), .second, .val (.long ev_), .second, .val (.long ew_), .second, .val (.long nv), .second, .val (.long qm), .second, .val (.long qv), .second, .val (.long rv), .second, .val (.long tv), .second, .val (.ref b15), .val (.double (Own.fPen sv fv tv)), .second, .val (.double (FP.l2d qv)), .second] [])) (fun _ kk => XS.ifNo X19.here hx rfl (hb hby at_252) rfl ((if0 _ _).trans (tlt (by rw [hre]; exact own_clt (Own.l2d_pos bq.1) hpp .g hlt.1)).2.1) kk) ?_
      refine GoW.st (S' := T19.setTop (mkF m 257 #[.val (.long q0), .second, .val (.long q1), .second, .val (.long q2), .second, .val (.long q3), .second, .val (.int p4), .val (.int wd), .val (.long cm), .second, .val (.long sv), .second, .val (.long fv), .second, .val (.long ht_), .second, .val (.long ms_), .second, .val (.long ev_), .second, .val (.long ew_), .second, .val (.long nv), .second, .val (.long qm), .second, .val (.long qv), .second, .val (.long rv), .second, .val (.long tv), .second, .val (.ref b15), .val (.double (Own.fPen sv fv tv)), .second, .val (.double (FP.l2d qv)), .second] [(.double (Own.fPen sv fv tv))])) (fun _ kk => XS.dload X19.here hx rfl (hb hby at_255) rfl kk) ?_
      refine GoW.st (S' := T19.setTop (mkF m 259 #[.val (.long q0), .second, .val (.long q1), .second, .val (.long q2), .second, .val (.long q3), .second, .val (.int p4), .val (.int wd), .val (.long cm), .second, .val (.long sv), .second, .val (.long fv), .second, .val (.long ht_), .second, .val (.long ms_), .second, .val (.long ev_), .second, .val (.long ew_), .second, .val (.long nv), .second, .val (.long qm), .second, .val (.long qv), .second, .val (.long rv), .second, .val (.long tv), .second, .val (.ref b15), .val (.double (Own.fPen sv fv tv)), .second, .val (.double (FP.l2d qv)), .second] [(.double (FP.l2d qv)), (.double (Own.fPen sv fv tv))])) (fun _ kk => XS.dload X19.here hx rfl (hb hby at_257) rfl kk) ?_
      refine GoW.st (S' := T19.setTop (mkF m 260 #[.val (.long q0), .second, .val (.long q1), .second, .val (.long q2), .second, .val (.long q3), .second, .val (.int p4), .val (.int wd), .val (.long cm), .second, .val (.long sv), .second, .val (.long fv), .second, .val (.long ht_), .second, .val (.long ms_), .second, .val (.long ev_), .second, .val (.long ew_), .second, .val (.long nv), .second, .val (.long qm), .second, .val (.long qv), .second, .val (.long rv), .second, .val (.long tv), .second, .val (.ref b15), .val (.double (Own.fPen sv fv tv)), .second, .val (.double (FP.l2d qv)), .second] [(.double (4607182418800017408 : UInt64)), (.double (FP.l2d qv)), (.double (Own.fPen sv fv tv))])) (fun _ kk => XS.dconst1 X19.here hx rfl (hb hby at_259) rfl kk) ?_
      refine GoW.st (S' := T19.setTop (mkF m 261 #[.val (.long q0), .second, .val (.long q1), .second, .val (.long q2), .second, .val (.long q3), .second, .val (.int p4), .val (.int wd), .val (.long cm), .second, .val (.long sv), .second, .val (.long fv), .second, .val (.long ht_), .second, .val (.long ms_), .second, .val (.long ev_), .second, .val (.long ew_), .second, .val (.long nv), .second, .val (.long qm), .second, .val (.long qv), .second, .val (.long rv), .second, .val (.long tv), .second, .val (.ref b15), .val (.double (Own.fPen sv fv tv)), .second, .val (.double (FP.l2d qv)), .second] [(.double (FP.dadd (FP.l2d qv) (4607182418800017408 : UInt64))), (.double (Own.fPen sv fv tv))])) (fun _ kk => XS.daddS X19.here hx rfl (hb hby at_260) rfl (Own.Pos.noNaN hdp.1) rfl kk) ?_
      refine GoW.st (S' := T19.setTop (mkF m 262 #[.val (.long q0), .second, .val (.long q1), .second, .val (.long q2), .second, .val (.long q3), .second, .val (.int p4), .val (.int wd), .val (.long cm), .second, .val (.long sv), .second, .val (.long fv), .second, .val (.long ht_), .second, .val (.long ms_), .second, .val (.long ev_), .second, .val (.long ew_), .second, .val (.long nv), .second, .val (.long qm), .second, .val (.long qv), .second, .val (.long rv), .second, .val (.long tv), .second, .val (.ref b15), .val (.double (Own.fPen sv fv tv)), .second, .val (.double (FP.l2d qv)), .second] [(.int (cmpValue (FP.dcmp (Own.fPen sv fv tv) (FP.dadd (FP.l2d qv) (4607182418800017408 : UInt64))) .g))])) (fun _ kk => XS.dcmpS X19.here hx rfl (hb hby at_261) rfl rfl kk) ?_
      refine GoW.st (S' := T19.setTop (mkF m 265 #[.val (.long q0), .second, .val (.long q1), .second, .val (.long q2), .second, .val (.long q3), .second, .val (.int p4), .val (.int wd), .val (.long cm), .second, .val (.long sv), .second, .val (.long fv), .second, .val (.long ht_), .second, .val (.long ms_), .second, .val (.long ev_), .second, .val (.long ew_), .second, .val (.long nv), .second, .val (.long qm), .second, .val (.long qv), .second, .val (.long rv), .second, .val (.long tv), .second, .val (.ref b15), .val (.double (Own.fPen sv fv tv)), .second, .val (.double (FP.l2d qv)), .second] [])) (fun _ kk => XS.ifNo X19.here hx rfl (hb hby at_262) rfl ((if0 _ _).trans (tlt (by rw [hre]; exact own_clt hpp hdp.1 .g (by rw [hdp.2]; exact hlt.2))).2.1) kk) ?_
      refine GoW.st (S' := T19.setTop (mkF m 266 #[.val (.long q0), .second, .val (.long q1), .second, .val (.long q2), .second, .val (.long q3), .second, .val (.int p4), .val (.int wd), .val (.long cm), .second, .val (.long sv), .second, .val (.long fv), .second, .val (.long ht_), .second, .val (.long ms_), .second, .val (.long ev_), .second, .val (.long ew_), .second, .val (.long nv), .second, .val (.long qm), .second, .val (.long qv), .second, .val (.long rv), .second, .val (.long tv), .second, .val (.ref b15), .val (.double (Own.fPen sv fv tv)), .second, .val (.double (FP.l2d qv)), .second] [(.int (1 : Int32))])) (fun _ kk => XS.iconst X19.here hx rfl (hb hby at_265) kk) ?_
      refine GoW.st (S' := T19.setTop (mkF m 270 #[.val (.long q0), .second, .val (.long q1), .second, .val (.long q2), .second, .val (.long q3), .second, .val (.int p4), .val (.int wd), .val (.long cm), .second, .val (.long sv), .second, .val (.long fv), .second, .val (.long ht_), .second, .val (.long ms_), .second, .val (.long ev_), .second, .val (.long ew_), .second, .val (.long nv), .second, .val (.long qm), .second, .val (.long qv), .second, .val (.long rv), .second, .val (.long tv), .second, .val (.ref b15), .val (.double (Own.fPen sv fv tv)), .second, .val (.double (FP.l2d qv)), .second] [(.int (1 : Int32))])) (fun _ kk => XS.goto X19.here hx rfl (pc0 := 266) (pc' := 270) rfl (hb hby at_266) (by decide) (by decide) kk) ?_
      exact GoW.retN X19 hx hlk hS (own_hk e19 hk) (t := .boolean) Bd.returns (by simp) (hb hby at_270) (⟨rfl, N19⟩) (by decide) (by decide)
set_option maxRecDepth 65536 in
set_option maxHeartbeats 4000000 in
theorem comes_1 {Post : Tables → Env → Array Value → State → Outcome → State → Prop} (hpost : ∀ tb e args s v u, (limb_1_1.after args s (.returned v) u = true ∧ limb_1_2.after args s (.returned v) u = true ∧ True) → Jvm.D.FramedW s (.returned v) u (Jvm.fieldLocs frame_1_writes args s ++ Jvm.arrayLocs frame_1_arrays args s ++ Jvm.staticLocs frame_1_statics s) 24 7296 → Post tb e args s (.returned v) u) :
    ArmFor flags0 classFile x code maxLocals ret World_1 tables_1 room_1 Calls_1 rest_1 Pre_1 Post := by
  intro l hfl _ _ p e ha hc hk s m args below hf hA hF happ hP
  obtain ⟨hcalls, hrest, hpre⟩ := hP
  obtain ⟨-, -, -, hnamed, -, -, -, hat⟩ := (Spec.applies_iff hf).mp happ
  obtain ⟨hg, hn⟩ := and_e (Cond.before_iff.mp (show (Jvm.Cond.and given_1 narrow_1).before args s = true from hpre))
  obtain ⟨g0, gr0⟩ := and_e hg
  obtain ⟨ga0, gr1⟩ := and_e gr0
  obtain ⟨ga1, gr2⟩ := and_e gr1
  obtain ⟨ga2, gr3⟩ := and_e gr2
  obtain ⟨ga3, gr4⟩ := and_e gr3
  have ga4 := gr4
  obtain ⟨w0, w1, w2, w3, w4, rfl⟩ : ∃ w0 w1 w2 w3 w4 : Value, args = #[w0, w1, w2, w3, w4] := by
    have hs : args.size = 5 := by simpa [Cond.value, given_1] using g0
    obtain ⟨L⟩ := args
    match L, hs with
    | [w0, w1, w2, w3, w4], _ => exact ⟨w0, w1, w2, w3, w4, rfl⟩
  have hw := fun d (hd : d ∈ tables_1) => atoms_spec (ws := Jvm.Cond.code x code maxLocals ret :: tables_1) hat d (List.mem_cons_of_mem _ hd)
  have hfit : Fit s := fun {y c} hc i hi => by
    obtain ⟨ha, rfl⟩ := Array.getElem?_eq_some_iff.mp hc
    have q := List.all_eq_true.mp ((Array.all_eq_true_iff_forall_mem.mp hF) _ (Array.getElem_mem ha)) i (List.mem_range.mpr hi)
    simpa [Array.getElem?_eq_getElem hi] using q
  obtain ⟨i0, ei0⟩ := isL_v ga0
  obtain rfl : w0 = (.long i0) := Option.some.inj ei0
  obtain ⟨i1, ei1⟩ := isL_v ga1
  obtain rfl : w1 = (.long i1) := Option.some.inj ei1
  obtain ⟨i2, ei2⟩ := isL_v ga2
  obtain rfl : w2 = (.long i2) := Option.some.inj ei2
  obtain ⟨i3, ei3⟩ := isL_v ga3
  obtain rfl : w3 = (.long i3) := Option.some.inj ei3
  obtain ⟨i4, ei4⟩ := is_v ga4
  obtain rfl : w4 = (.int i4) := Option.some.inj ei4
  obtain ⟨n, o, h1, h2, h3, _, L, rfl, ⟨rfl, N⟩, hq⟩ := rm0 l s _ hw tables_1 i0 i1 i2 i3 i4 s.heap s.heap.size (Nat.le_refl _) p e ha hc hk s m _ below hf ((Spec.applies_iff_loose hf).mp happ).1 ⟨rfl, State.Warmed39.refl s, rfl, trivial⟩ trivial
  refine ⟨n, _, h1, h2, h3, hpost _ _ _ _ _ _ ⟨Cond.after_iff.mpr rfl, Cond.after_iff.mpr (eq_i res_at (Term.int_eval (1)) rfl), trivial⟩ ⟨hq.1, hq.2.1, hq.2.2.1, (hq.2.2.2.sift fun y hy => Or.inr (N y hy)).mono (by decide) (by decide)⟩⟩
theorem main_1_1 : Claimed_1_1 := comes_1 fun _ _ _ _ _ _ h hF => ⟨h.1, hF⟩
theorem main_1_2 : Claimed_1_2 := comes_1 fun _ _ _ _ _ _ h hF => ⟨h.2.1, hF⟩
end Jvm.Pilot.@@N@@
namespace Jvm.Pilot.@@N@@
open Jvm Jvm.ClassFile Sem Op Lib Jvm.Free Jvm.Stand Jvm.Pilot.@@N@@.Jvm.D
/-! MADE BY PROGRAM (witnessworld.py) out of the Statement's table words and the real class files: 15 classes; the members and pool entries that the words name. The judged class is class 1, her method 1. -/
namespace start1
open Jvm.ClassFile
def u (s : String) : CpInfo := .utf8 (stringToUtf16 s)
/-- a pool by its gaps: so many unusable entries, then the entry; so many at the end -/
def gap : Nat → List CpInfo → List CpInfo
  | 0, r => r
  | n + 1, r => .unusable :: gap n r
def poolList (es : List (Nat × CpInfo)) (last : Nat) : List CpInfo := es.foldr (fun e r => gap e.1 (e.2 :: r)) (gap last [])
def pool (es : List (Nat × CpInfo)) (last : Nat) : Array CpInfo := ⟨poolList es last⟩
def fileOf (pool : Array CpInfo) (this : Nat) (attrs : Array Attribute := #[]) (ms : Array MethodInfo := #[]) (fl : Nat := 33) (sup : Nat := 0) (ifs : Array Nat := #[]) (fds : Array FieldInfo := #[]) : ClassFile where
  minorVersion := 0
  majorVersion := 65
  constantPool := pool
  accessFlags := fl
  thisClass := this
  superClass := sup
  interfaces := ifs
  fields := fds
  methods := ms
  attributes := attrs
def plain (name : String) (sup : Option ClassId) : Class where
  name := name
  kind := .ordinary
  loader := none
  accessFlags := 33
  super := sup
  interfaces := #[]
  cf := none
  fields := #[]
  methods := #[]
  instanceTypes := #[]
  staticTypes := #[]
  resolved := #[]
  callSites := []
  init := .initialized
  statics := none
  mirror := none

def pool0 : Array CpInfo := pool [(5, u "<init>"), (0, u "()V"), (1, .class_ 10), (1, u "java/lang/Object")] 113

def k0c0 : Code := { maxStack := 0, maxLocals := 1, code := object_method_1_code, exceptionTable := #[], attributes := #[] }
def k0m0 : Method := { name := "<init>", desc := "()V", sig := { parameters := [], returnType := none }, accessFlags := 1, code := some k0c0 }
/-- java/lang/Object -/
def k0 : Class := { plain "java/lang/Object" none with
  accessFlags := 33
  interfaces := #[]
  cf := some (fileOf pool0 8 #[] #[{ accessFlags := 1, nameIndex := 5, descriptorIndex := 6, attributes := #[] }] 33 0 #[] #[])
  fields := #[]
  methods := #[k0m0]
  instanceTypes := #[]
  staticTypes := #[]
  resolved := Array.replicate 124 none
  statics := none }

def pool1 : Array CpInfo := pool [(2, .class_ 4), (1, u "java/lang/Object"), (0, u "<init>"), (0, u "()V"), (0, .long 2251799813685247), (1, .long 67108863), (3, .long 9223372036854775807), (1, .class_ 16), (0, u "com/example/larder/larder/CacheStats"), (0, .methodref 15 18), (0, .nameAndType 5 19), (0, u "(JJJJJJJ)V"), (0, .methodref 15 21), (0, .nameAndType 22 23), (0, u "averageLoadPenalty"), (0, u "()D"), (0, .class_ 25), (0, u "com/example/larder/larder/CacheStatsAverageLoadPenaltyPinLaw"), (2, u "law"), (0, u "(JJJJI)Z")] 3

def k1m0 : Method := { name := "<init>", desc := "()V", sig := { parameters := [], returnType := none }, accessFlags := 1, code := none }
def k1c1 : Code := { maxStack := 16, maxLocals := 39, code := code, exceptionTable := #[], attributes := #[] }
def k1m1 : Method := { name := "law", desc := "(JJJJI)Z", sig := { parameters := [.long, .long, .long, .long, .int], returnType := some .boolean }, accessFlags := 9, code := some k1c1 }
/-- com/example/larder/larder/CacheStatsAverageLoadPenaltyPinLaw -/
def k1 : Class := { plain "com/example/larder/larder/CacheStatsAverageLoadPenaltyPinLaw" (some 0) with
  accessFlags := 49
  interfaces := #[]
  cf := some (fileOf pool1 24 #[] #[{ accessFlags := 1, nameIndex := 5, descriptorIndex := 6, attributes := #[] }, { accessFlags := 9, nameIndex := 28, descriptorIndex := 29, attributes := #[] }] 49 2 #[] #[])
  fields := #[]
  methods := #[k1m0, k1m1]
  instanceTypes := #[]
  staticTypes := #[]
  resolved := Array.replicate 33 none
  statics := none }

def pool2 : Array CpInfo := pool [(1, .methodref 2 3), (0, .class_ 4), (0, .nameAndType 5 6), (0, u "java/lang/Object"), (0, u "<init>"), (0, u "()V"), (0, .class_ 8), (0, u "java/lang/Record")] 13

def k2c0 : Code := { maxStack := 1, maxLocals := 1, code := jdk_30_method_1_code, exceptionTable := #[], attributes := #[] }
def k2m0 : Method := { name := "<init>", desc := "()V", sig := { parameters := [], returnType := none }, accessFlags := 4, code := some k2c0 }
/-- java/lang/Record -/
def k2 : Class := { plain "java/lang/Record" (some 0) with
  accessFlags := 1057
  interfaces := #[]
  cf := some (fileOf pool2 7 #[] #[{ accessFlags := 4, nameIndex := 5, descriptorIndex := 6, attributes := #[] }] 1057 2 #[] #[])
  fields := #[]
  methods := #[k2m0]
  instanceTypes := #[]
  staticTypes := #[]
  resolved := Array.replicate 22 none
  statics := none }

def pool3 : Array CpInfo := pool [(1, .methodref 2 3), (0, .class_ 4), (0, .nameAndType 5 6), (0, u "java/lang/Record"), (0, u "<init>"), (0, u "()V"), (0, .string 8), (0, u "hitCount"), (0, .methodref 10 11), (0, .class_ 12), (0, .nameAndType 13 14), (0, u "com/example/larder/larder/CacheStats"), (0, u "requireNonNegative"), (0, u "(JLjava/lang/String;)V"), (0, .string 16), (0, u "missCount"), (0, .string 18), (0, u "loadSuccessCount"), (0, .string 20), (0, u "loadFailureCount"), (0, .string 22), (0, u "totalLoadTime"), (0, .string 24), (0, u "evictionCount"), (0, .string 26), (0, u "evictionWeight"), (0, .fieldref 10 28), (0, .nameAndType 8 29), (0, u "J"), (0, .fieldref 10 31), (0, .nameAndType 16 29), (0, .fieldref 10 33), (0, .nameAndType 18 29), (0, .fieldref 10 35), (0, .nameAndType 20 29), (0, .fieldref 10 37), (0, .nameAndType 22 29), (0, .fieldref 10 39), (0, .nameAndType 24 29), (0, .fieldref 10 41), (0, .nameAndType 26 29), (21, u "(JJJJJJJ)V"), (4, u "()D"), (1, u "averageLoadPenalty")] 38

def k3c0 : Code := { maxStack := 3, maxLocals := 15, code := prog_1_method_1_code, exceptionTable := #[], attributes := #[] }
def k3m0 : Method := { name := "<init>", desc := "(JJJJJJJ)V", sig := { parameters := [.long, .long, .long, .long, .long, .long, .long], returnType := none }, accessFlags := 1, code := some k3c0 }
def k3c1 : Code := { maxStack := 4, maxLocals := 3, code := prog_1_method_3_code, exceptionTable := #[], attributes := #[] }
def k3m1 : Method := { name := "averageLoadPenalty", desc := "()D", sig := { parameters := [], returnType := some .double }, accessFlags := 1, code := some k3c1 }
def k3c2 : Code := { maxStack := 5, maxLocals := 3, code := prog_1_method_4_code, exceptionTable := #[], attributes := #[] }
def k3m2 : Method := { name := "requireNonNegative", desc := "(JLjava/lang/String;)V", sig := { parameters := [.long, (.object "java/lang/String")], returnType := none }, accessFlags := 10, code := some k3c2 }
/-- com/example/larder/larder/CacheStats -/
def k3 : Class := { plain "com/example/larder/larder/CacheStats" (some 2) with
  accessFlags := 49
  interfaces := #[]
  cf := some (fileOf pool3 10 #[] #[{ accessFlags := 1, nameIndex := 5, descriptorIndex := 63, attributes := #[] }, { accessFlags := 1, nameIndex := 70, descriptorIndex := 68, attributes := #[] }, { accessFlags := 10, nameIndex := 13, descriptorIndex := 14, attributes := #[] }] 49 2 #[] #[{ accessFlags := 18, nameIndex := 8, descriptorIndex := 29, attributes := #[] }, { accessFlags := 18, nameIndex := 16, descriptorIndex := 29, attributes := #[] }, { accessFlags := 18, nameIndex := 18, descriptorIndex := 29, attributes := #[] }, { accessFlags := 18, nameIndex := 20, descriptorIndex := 29, attributes := #[] }, { accessFlags := 18, nameIndex := 22, descriptorIndex := 29, attributes := #[] }, { accessFlags := 18, nameIndex := 24, descriptorIndex := 29, attributes := #[] }, { accessFlags := 18, nameIndex := 26, descriptorIndex := 29, attributes := #[] }])
  fields := #[{ name := "hitCount", type := .long, accessFlags := 18, slot := 0, constantValue := 0 }, { name := "missCount", type := .long, accessFlags := 18, slot := 1, constantValue := 0 }, { name := "loadSuccessCount", type := .long, accessFlags := 18, slot := 2, constantValue := 0 }, { name := "loadFailureCount", type := .long, accessFlags := 18, slot := 3, constantValue := 0 }, { name := "totalLoadTime", type := .long, accessFlags := 18, slot := 4, constantValue := 0 }, { name := "evictionCount", type := .long, accessFlags := 18, slot := 5, constantValue := 0 }, { name := "evictionWeight", type := .long, accessFlags := 18, slot := 6, constantValue := 0 }]
  methods := #[k3m0, k3m1, k3m2]
  instanceTypes := #[.long, .long, .long, .long, .long, .long, .long]
  staticTypes := #[]
  resolved := Array.replicate 109 none
  statics := none }

def pool4 : Array CpInfo := pool [(1, .class_ 2), (0, u "java/io/Serializable"), (0, .class_ 4), (0, u "java/lang/Object")] 2

/-- java/io/Serializable -/
def k4 : Class := { plain "java/io/Serializable" (some 0) with
  accessFlags := 1537
  interfaces := #[]
  cf := some (fileOf pool4 1 #[] #[] 1537 3 #[] #[])
  fields := #[]
  methods := #[]
  instanceTypes := #[]
  staticTypes := #[]
  resolved := Array.replicate 7 none
  statics := none }

def pool5 : Array CpInfo := pool [(1, .class_ 2), (0, u "java/lang/Comparable"), (0, .class_ 4), (0, u "java/lang/Object")] 7

/-- java/lang/Comparable -/
def k5 : Class := { plain "java/lang/Comparable" (some 0) with
  accessFlags := 1537
  interfaces := #[]
  cf := some (fileOf pool5 1 #[] #[] 1537 3 #[] #[])
  fields := #[]
  methods := #[]
  instanceTypes := #[]
  staticTypes := #[]
  resolved := Array.replicate 12 none
  statics := none }

def pool6 : Array CpInfo := pool [(2, .class_ 4), (1, u "java/lang/CharSequence"), (42, .class_ 48), (0, u "java/lang/CharSequence$1CodePointIterator"), (10, .class_ 60), (0, u "java/lang/CharSequence$1CharIterator"), (5, .class_ 67), (0, u "java/lang/Object")] 63

/-- java/lang/CharSequence -/
def k6 : Class := { plain "java/lang/CharSequence" (some 0) with
  accessFlags := 1537
  interfaces := #[]
  cf := some (fileOf pool6 2 #[.nestMembers #[47, 59]] #[] 1537 66 #[] #[])
  fields := #[]
  methods := #[]
  instanceTypes := #[]
  staticTypes := #[]
  resolved := Array.replicate 131 none
  statics := none }

def pool7 : Array CpInfo := pool [(1, .class_ 2), (0, u "java/lang/constant/Constable"), (0, .class_ 4), (0, u "java/lang/Object")] 6

/-- java/lang/constant/Constable -/
def k7 : Class := { plain "java/lang/constant/Constable" (some 0) with
  accessFlags := 1537
  interfaces := #[]
  cf := some (fileOf pool7 1 #[] #[] 1537 3 #[] #[])
  fields := #[]
  methods := #[]
  instanceTypes := #[]
  staticTypes := #[]
  resolved := Array.replicate 11 none
  statics := none }

def pool8 : Array CpInfo := pool [(1, .class_ 2), (0, u "java/lang/constant/ConstantDesc"), (0, .class_ 4), (0, u "java/lang/Object")] 32

/-- java/lang/constant/ConstantDesc -/
def k8 : Class := { plain "java/lang/constant/ConstantDesc" (some 0) with
  accessFlags := 1537
  interfaces := #[]
  cf := some (fileOf pool8 1 #[] #[] 1537 3 #[] #[])
  fields := #[]
  methods := #[]
  instanceTypes := #[]
  staticTypes := #[]
  resolved := Array.replicate 37 none
  statics := none }

def pool9 : Array CpInfo := pool [(2, .class_ 4), (1, u "java/lang/Object"), (0, u "<init>"), (0, u "()V"), (3, .class_ 12), (1, u "java/lang/String"), (0, u "value"), (0, u "[B"), (2, u "coder"), (0, u "B"), (2, u "hash"), (0, u "I"), (2, u "hashIsZero"), (0, u "Z"), (13, u "COMPACT_STRINGS"), (534, .class_ 576), (0, u "java/lang/CharSequence"), (22, u "CASE_INSENSITIVE_ORDER"), (0, u "Ljava/util/Comparator;"), (500, u "serialPersistentFields"), (0, u "[Ljava/io/ObjectStreamField;"), (0, .class_ 1104), (0, u "java/lang/String$CaseInsensitiveComparator"), (1, .class_ 1107), (0, u "java/io/Serializable"), (0, .class_ 1109), (0, u "java/lang/Comparable"), (0, .class_ 1111), (0, u "java/lang/constant/Constable"), (0, .class_ 1113), (0, u "java/lang/constant/ConstantDesc"), (2, u "serialVersionUID"), (0, u "J"), (3, u "REPL"), (0, u "C"), (2, u "LATIN1"), (1, u "UTF16")] 323

def k9m0 : Method := { name := "<init>", desc := "()V", sig := { parameters := [], returnType := none }, accessFlags := 1, code := none }
/-- java/lang/String -/
def k9 : Class := { plain "java/lang/String" (some 0) with
  accessFlags := 49
  interfaces := #[4, 5, 6, 7, 8]
  cf := some (fileOf pool9 10 #[.nestMembers #[1103]] #[{ accessFlags := 1, nameIndex := 5, descriptorIndex := 6, attributes := #[] }] 49 2 #[1106, 1108, 575, 1110, 1112] #[{ accessFlags := 18, nameIndex := 13, descriptorIndex := 14, attributes := #[] }, { accessFlags := 18, nameIndex := 17, descriptorIndex := 18, attributes := #[] }, { accessFlags := 2, nameIndex := 21, descriptorIndex := 22, attributes := #[] }, { accessFlags := 2, nameIndex := 25, descriptorIndex := 26, attributes := #[] }, { accessFlags := 26, nameIndex := 1116, descriptorIndex := 1117, attributes := #[] }, { accessFlags := 24, nameIndex := 40, descriptorIndex := 26, attributes := #[] }, { accessFlags := 26, nameIndex := 1101, descriptorIndex := 1102, attributes := #[] }, { accessFlags := 26, nameIndex := 1121, descriptorIndex := 1122, attributes := #[] }, { accessFlags := 25, nameIndex := 599, descriptorIndex := 600, attributes := #[] }, { accessFlags := 24, nameIndex := 1125, descriptorIndex := 18, attributes := #[] }, { accessFlags := 24, nameIndex := 1127, descriptorIndex := 18, attributes := #[] }])
  fields := #[{ name := "value", type := (.array .byte), accessFlags := 18, slot := 0, constantValue := 0 }, { name := "coder", type := .byte, accessFlags := 18, slot := 1, constantValue := 0 }, { name := "hash", type := .int, accessFlags := 2, slot := 2, constantValue := 0 }, { name := "hashIsZero", type := .boolean, accessFlags := 2, slot := 3, constantValue := 0 }, { name := "serialVersionUID", type := .long, accessFlags := 26, slot := 0, constantValue := 0 }, { name := "COMPACT_STRINGS", type := .boolean, accessFlags := 24, slot := 1, constantValue := 0 }, { name := "serialPersistentFields", type := (.array (.object "java/io/ObjectStreamField")), accessFlags := 26, slot := 2, constantValue := 0 }, { name := "REPL", type := .char, accessFlags := 26, slot := 3, constantValue := 0 }, { name := "CASE_INSENSITIVE_ORDER", type := (.object "java/util/Comparator"), accessFlags := 25, slot := 4, constantValue := 0 }, { name := "LATIN1", type := .byte, accessFlags := 24, slot := 5, constantValue := 0 }, { name := "UTF16", type := .byte, accessFlags := 24, slot := 6, constantValue := 0 }]
  methods := #[k9m0]
  instanceTypes := #[(.array .byte), .byte, .int, .boolean]
  staticTypes := #[.long, .boolean, (.array (.object "java/io/ObjectStreamField")), .char, (.object "java/util/Comparator"), .byte, .byte]
  resolved := Array.replicate 1451 none
  statics := none }

def pool10 : Array CpInfo := pool [(1, u "java/lang/Cloneable"), (0, .class_ 1), (0, u "java/lang/Object"), (0, .class_ 3)] 3

/-- java/lang/Cloneable -/
def k10 : Class := { plain "java/lang/Cloneable" (some 0) with
  accessFlags := 1537
  interfaces := #[]
  cf := some (fileOf pool10 2 #[] #[] 1537 4 #[] #[])
  fields := #[]
  methods := #[]
  instanceTypes := #[]
  staticTypes := #[]
  resolved := Array.replicate 8 none
  statics := none }

/-- the primitive byte -/
def k11 : Class := { plain "byte" none with kind := .primitive 'B', accessFlags := 0x411 }
/-- [B -/
def k12 : Class := { plain "[B" (some 0) with kind := .array 11 .byte, interfaces := #[10, 4], accessFlags := 1041 }

/-- the primitive int -/
def k13 : Class := { plain "int" none with kind := .primitive 'I', accessFlags := 0x411 }
/-- [I -/
def k14 : Class := { plain "[I" (some 0) with kind := .array 13 .int, interfaces := #[10, 4], accessFlags := 1041 }

def heap : Heap := #[]
def classes : Array Class := #[k0, k1, k2, k3, k4, k5, k6, k7, k8, k9, k10, k11, k12, k13, k14]
def interned : List (Array UInt16 × Addr) := []
def slotsUsed : Nat := 0
def theMethod : MethodId := ⟨1, 1⟩
def args0 : Array Value := #[.long 5, .long 6, .long 7, .long 8, .int 1]
def aboutOver (below : List Frame) : State where
  vm := { classes := classes, interned := interned.toArray }
  heap := heap
  slotsUsed := slotsUsed
  threads := #[{ frames := .invoking theMethod args0 :: below }]
def below0 : List Frame := [.native { method := ⟨0, 0⟩, args := #[] }]
def about1 : State := aboutOver below0
def p0 : Program := .bare "" "" ""
def e0 : Env := launch0.env 0 0 0
theorem w_frames : about1.frames = Frame.invoking theMethod args0 :: below0 := rfl
set_option maxRecDepth 65536 in
theorem w_args : argsFit about1.vm theMethod args0 = true := by decide +kernel
set_option maxRecDepth 65536 in
theorem w_heap : heapFits about1 = true := by decide +kernel
set_option maxRecDepth 65536 in
theorem w_runnable : about1.curStatus? = some .runnable := by decide +kernel
set_option maxRecDepth 65536 in
theorem w_alone : about1.alone = true := by decide +kernel
set_option maxRecDepth 65536 in
theorem w_named : about1.methodNamed? x = some theMethod := by decide +kernel
set_option maxRecDepth 65536 in
theorem w_hears : about1.hears theMethod below0 = true := by decide +kernel
set_option maxRecDepth 65536 in
theorem w_ripe : about1.ripe theMethod args0 below0 = true := by decide +kernel
theorem w_running : about1.status = .running := rfl
set_option maxRecDepth 65536 in
theorem w_room : about1.hasRoom e0.platform room_1 = true :=
  launch0.hasRoom_least _ room_1 (by decide +kernel) (by decide +kernel) (by decide +kernel) (by decide +kernel) (by decide +kernel) (by decide +kernel)
theorem allAtoms_all (ts : List Jvm.Cond) (a : Array Jvm.Value) (st : Jvm.State) : (allAtoms ts).before a st = ts.all (fun c => c.before a st) := by
  induction ts with
  | nil => rfl
  | cons c t ih =>
    show (Jvm.Cond.and c (allAtoms t)).before a st = _
    rw [Jvm.Cond.before_and, ih, List.all_cons]
def words1 : List Jvm.Cond := Jvm.Cond.code x code maxLocals ret :: tables_1
/-- a 'code' word, met by the world's own term for the bytes: nothing is compared byte by byte -/
theorem code_word {y : MethodName} {bytes : ByteArray} {mx : Nat} {rt : Option FieldType} {a : Array Value} {s : State} {m : MethodId} {meth : Method} {c : Code} (h1 : s.methodNamed? y = some m) (h2 : s.vm.method? m = some meth) (h3 : meth.code = some c) (h4 : c.code = bytes)
    (h5 : (c.maxLocals == mx && c.exceptionTable.isEmpty && decide (c.maxStack ≤ mostOperands) && decide (meth.sig.returnType = rt) && !meth.locks && decide (parseMethodDescriptor y.desc = some meth.sig)) = true) : (Jvm.Cond.code y bytes mx rt).before a s = true := by
  simp only [Bool.and_eq_true, beq_iff_eq, Bool.not_eq_true', decide_eq_true_eq] at h5
  obtain ⟨⟨⟨⟨⟨g1, g2⟩, g3⟩, g4⟩, g5⟩, g6⟩ := h5
  simp [Cond.before, Cond.holds, Cond.value, h1, h2, h3, h4, g1, g2, g3, g4, g5, g6]
def isCode : Jvm.Cond → Bool
  | .code _ _ _ _ => true
  | _ => false
theorem all_split {L : List Jvm.Cond} {P : Jvm.Cond → Bool} (h1 : L.all (fun c => isCode c || P c) = true) (h2 : ∀ c ∈ L.filter isCode, P c = true) : L.all P = true := by
  refine List.all_eq_true.mpr fun c hc => ?_
  have h := List.all_eq_true.mp h1 c hc
  rcases Bool.eq_false_or_eq_true (isCode c) with hi | hi
  · exact h2 c (List.mem_filter.mpr ⟨hc, hi⟩)
  · simpa [hi] using h
set_option maxRecDepth 65536 in
theorem w_c0 : (Jvm.Cond.code x code maxLocals ret).before args0 about1 = true := code_word (m := ⟨1, 1⟩) (meth := k1m1) (c := k1c1) (by decide +kernel) rfl rfl rfl (by decide +kernel)
set_option maxRecDepth 65536 in
theorem w_c1 : (Jvm.Cond.code ({ cls := "com/example/larder/larder/CacheStats", name := "<init>", desc := "(JJJJJJJ)V" } : Jvm.MethodName) prog_1_method_1_code (15 : Nat) (Option.none : Option Jvm.ClassFile.FieldType)).before args0 about1 = true := code_word (m := ⟨3, 0⟩) (meth := k3m0) (c := k3c0) (by decide +kernel) rfl rfl rfl (by decide +kernel)
set_option maxRecDepth 65536 in
theorem w_c2 : (Jvm.Cond.code ({ cls := "java/lang/Record", name := "<init>", desc := "()V" } : Jvm.MethodName) jdk_30_method_1_code (1 : Nat) (Option.none : Option Jvm.ClassFile.FieldType)).before args0 about1 = true := code_word (m := ⟨2, 0⟩) (meth := k2m0) (c := k2c0) (by decide +kernel) rfl rfl rfl (by decide +kernel)
set_option maxRecDepth 65536 in
theorem w_c3 : (Jvm.Cond.code ({ cls := "java/lang/Object", name := "<init>", desc := "()V" } : Jvm.MethodName) object_method_1_code (1 : Nat) (Option.none : Option Jvm.ClassFile.FieldType)).before args0 about1 = true := code_word (m := ⟨0, 0⟩) (meth := k0m0) (c := k0c0) (by decide +kernel) rfl rfl rfl (by decide +kernel)
set_option maxRecDepth 65536 in
theorem w_c4 : (Jvm.Cond.code ({ cls := "com/example/larder/larder/CacheStats", name := "requireNonNegative", desc := "(JLjava/lang/String;)V" } : Jvm.MethodName) prog_1_method_4_code (3 : Nat) (Option.none : Option Jvm.ClassFile.FieldType)).before args0 about1 = true := code_word (m := ⟨3, 2⟩) (meth := k3m2) (c := k3c2) (by decide +kernel) rfl rfl rfl (by decide +kernel)
set_option maxRecDepth 65536 in
theorem w_c5 : (Jvm.Cond.code ({ cls := "com/example/larder/larder/CacheStats", name := "averageLoadPenalty", desc := "()D" } : Jvm.MethodName) prog_1_method_3_code (3 : Nat) (Option.some Jvm.ClassFile.FieldType.double)).before args0 about1 = true := code_word (m := ⟨3, 1⟩) (meth := k3m1) (c := k3c1) (by decide +kernel) rfl rfl rfl (by decide +kernel)
def codes1 : List Jvm.Cond := [Jvm.Cond.code x code maxLocals ret, Jvm.Cond.code ({ cls := "com/example/larder/larder/CacheStats", name := "<init>", desc := "(JJJJJJJ)V" } : Jvm.MethodName) prog_1_method_1_code (15 : Nat) (Option.none : Option Jvm.ClassFile.FieldType), Jvm.Cond.code ({ cls := "java/lang/Record", name := "<init>", desc := "()V" } : Jvm.MethodName) jdk_30_method_1_code (1 : Nat) (Option.none : Option Jvm.ClassFile.FieldType), Jvm.Cond.code ({ cls := "java/lang/Object", name := "<init>", desc := "()V" } : Jvm.MethodName) object_method_1_code (1 : Nat) (Option.none : Option Jvm.ClassFile.FieldType), Jvm.Cond.code ({ cls := "com/example/larder/larder/CacheStats", name := "requireNonNegative", desc := "(JLjava/lang/String;)V" } : Jvm.MethodName) prog_1_method_4_code (3 : Nat) (Option.none : Option Jvm.ClassFile.FieldType), Jvm.Cond.code ({ cls := "com/example/larder/larder/CacheStats", name := "averageLoadPenalty", desc := "()D" } : Jvm.MethodName) prog_1_method_3_code (3 : Nat) (Option.some Jvm.ClassFile.FieldType.double)]
set_option maxRecDepth 65536 in
theorem codes_eq : words1.filter isCode = codes1 := rfl
theorem w_codes : ∀ c ∈ words1.filter isCode, c.before args0 about1 = true := by
  rw [codes_eq]
  intro c hc
  simp only [codes1, List.mem_cons, List.not_mem_nil, or_false] at hc
  rcases hc with rfl | rfl | rfl | rfl | rfl | rfl
  · exact w_c0
  · exact w_c1
  · exact w_c2
  · exact w_c3
  · exact w_c4
  · exact w_c5
set_option maxRecDepth 65536 in
theorem w_t1 : (words1.take 24).all (fun c => isCode c || c.before args0 about1) = true := by decide +kernel
set_option maxRecDepth 65536 in
theorem w_t2 : ((words1.drop 24).take 24).all (fun c => isCode c || c.before args0 about1) = true := by decide +kernel
set_option maxRecDepth 65536 in
theorem w_t3 : ((words1.drop 24).drop 24).all (fun c => isCode c || c.before args0 about1) = true := by decide +kernel
theorem w_tables : (allAtoms (Jvm.Cond.code x code maxLocals ret :: tables_1)).before args0 about1 = true := by
  rw [allAtoms_all]
  show words1.all (fun c => c.before args0 about1) = true
  refine all_split ?_ w_codes
  rw [← List.take_append_drop 24 words1, List.all_append, w_t1, ← List.take_append_drop 24 (words1.drop 24), List.all_append, w_t2, w_t3]
  rfl
set_option maxRecDepth 65536 in
theorem w_case : (Jvm.Cond.and given_1 narrow_1).before args0 about1 = true := by decide +kernel
theorem w_applies : (headSpec (Jvm.Cond.code x code maxLocals ret :: tables_1) room_1).applies x e0.platform about1 = true :=
  (Spec.applies_iff w_frames).mpr ⟨w_running, w_runnable, w_alone, w_named, w_hears, w_ripe, w_room, w_tables⟩
theorem atStart : AtStart classFile x code maxLocals ret World_1 tables_1 room_1 Calls_1 rest_1 Pre_1 launch0 p0 e0 about1 theMethod args0 below0 :=
  ⟨lists_1, trivial, launch0.admits_env _ _ _, launch0.least_env, fairChoices_fair.cas, fairChoices_fair.clock, w_frames, w_args, w_heap, w_applies, trivial, trivial, w_case⟩
end start1
theorem witness_1 : WitnessClaimed_1 := ⟨start1.p0, start1.e0, start1.about1, start1.theMethod, start1.args0, start1.below0, start1.atStart⟩
end Jvm.Pilot.@@N@@
