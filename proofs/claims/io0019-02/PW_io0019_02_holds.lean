import PyProof.Rows.All
import Wide.All
import OpenK.AllK
import Wide.FinOn
import PySem.Challenge.RW_io0019_02
set_option Elab.async false
section
open PySem PySem.Float64
set_option maxRecDepth 100000
namespace Mine

theorem V_inj {t t' : Nat} (h : V t = V t') : t = t' := by
  rcases Nat.lt_trichotomy t t' with h1 | h1 | h1
  · have := V_lt h1; omega
  · exact h1
  · have := V_lt h1; omega

/-- w, in units of 2 ^ -1074, is a double. -/
def Rep (w : Nat) : Prop := ∃ t, t < infMag ∧ V t = w
/-- x is the double whose value, in units of 2 ^ -1074, is w (nought has no sign). -/
def Ex (x : UInt64) (w : Int) : Prop := ∃ t, t < infMag ∧ x = pack (decide (w < 0)) t ∧ V t = w.natAbs

theorem rep_zero : Rep 0 := ⟨0, by decide, V_zero⟩
theorem rep_pow {m e : Nat} (hm : m < 2 ^ 53) (he : 52 ≤ e) (he2 : e ≤ 2040) : Rep (m * 2 ^ e) := by
  by_cases h0 : m = 0
  · rw [h0, Nat.zero_mul]; exact rep_zero
  · have hl : m.log2 ≤ 52 := by have := (Nat.log2_lt h0).mpr hm; omega
    have h1 := Nat.log2_self_le h0
    have h2 : m < 2 ^ (m.log2 + 1) := Nat.lt_log2_self
    generalize m.log2 = l at *
    have g1 : 2 ^ 52 ≤ m * 2 ^ (52 - l) := by
      have h3 := Nat.mul_le_mul_right (2 ^ (52 - l)) h1
      rw [← Nat.pow_add, show l + (52 - l) = 52 by omega] at h3
      exact h3
    have g2 : m * 2 ^ (52 - l) < 2 ^ 53 := by
      have h3 := Nat.mul_lt_mul_of_pos_right h2 (Nat.two_pow_pos (52 - l))
      rw [← Nat.pow_add, show l + 1 + (52 - l) = 53 by omega] at h3
      exact h3
    refine ⟨(e - (52 - l)) * 2 ^ 52 + m * 2 ^ (52 - l), ?_, ?_⟩
    · unfold infMag
      have h3 : (e - (52 - l)) * 2 ^ 52 ≤ 2040 * 2 ^ 52 := Nat.mul_le_mul_right _ (by omega)
      omega
    · rw [V_at (Nat.le_of_lt g2) (.inl g1), Nat.mul_assoc, ← Nat.pow_add, show 52 - l + (e - (52 - l)) = e by omega]

theorem ex_of_right {r : UInt64} {neg : Bool} {W D : Nat} {w : Int} (R : Right r neg W D) (hD : 0 < D) (hW : W = D * w.natAbs) (hn : neg = decide (w < 0)) (hr : Rep w.natAbs) : Ex r w := by
  obtain ⟨t, e, ht, hov, hnear⟩ := R
  obtain ⟨t0, h0, hv⟩ := hr
  have hle : V t0 ≤ V (infMag - 1) := V_mono (Nat.le_sub_one_of_lt h0)
  have hA : V (infMag - 1) = (2 ^ 53 - 1) * 2 ^ 2045 := by
    have e : infMag - 1 = 2045 * 2 ^ 52 + (2 ^ 53 - 1) := by unfold infMag; omega
    rw [e]
    exact V_at (k := 2045) (q := 2 ^ 53 - 1) (by omega) (.inl (by omega))
  have hlt : t < infMag := by
    rcases Nat.lt_or_ge t infMag with h | h
    · exact h
    · exfalso
      have h1 := hov.mp (Nat.le_antisymm ht h)
      rw [hW, ← hv] at h1
      have h2 : (2 ^ 54 - 1) * 2 ^ 2045 ≤ 2 * V t0 := by
        refine Nat.le_of_mul_le_mul_left (c := D) ?_ hD
        rw [Nat.mul_left_comm D 2]
        exact h1
      rw [hA] at hle
      have hZ : (0 : Nat) < 2 ^ 2045 := Nat.two_pow_pos _
      generalize (2 : Nat) ^ 2045 = Z at *
      omega
  refine ⟨t, hlt, by rw [e, hn], ?_⟩
  have h1 := (hnear hlt t0).1
  rw [hW, hv] at h1
  have h2 : D * w.natAbs = D * V t := by
    unfold dist at h1; omega
  exact (Nat.eq_of_mul_eq_mul_left hD h2).symm

theorem Ex.rep {x : UInt64} {w : Int} (h : Ex x w) : Rep w.natAbs := let ⟨t, a, _, b⟩ := h; ⟨t, a, b⟩
theorem Ex.uniq {x y : UInt64} {w : Int} (h : Ex x w) (h' : Ex y w) : x = y := by
  obtain ⟨t, _, e, hv⟩ := h
  obtain ⟨t', _, e', hv'⟩ := h'
  rw [e, e', V_inj (hv.trans hv'.symm)]
theorem Ex.dec {x : UInt64} {w : Int} (h : Ex x w) : ∃ m e, decode x = .fin (decide (w < 0)) m e ∧ val x = w := by
  obtain ⟨t, ht, rfl, hv⟩ := h
  obtain ⟨m, e, hd, hm⟩ := decode_pack (decide (w < 0)) ht
  refine ⟨m, e, hd, ?_⟩
  rw [val_pack _ ht, hv]
  unfold sgn
  by_cases hw : w < 0
  · rw [if_pos (by simpa using hw)]; omega
  · rw [if_neg (by simpa using hw)]; omega
theorem ex_zero : Ex (zero false) 0 := ⟨0, by decide, rfl, V_zero⟩
theorem Ex.eq_zero {x : UInt64} (h : Ex x 0) : x = zero false := h.uniq ex_zero

theorem ex_add {x y : UInt64} {a b : Int} (hx : Ex x a) (hy : Ex y b) (hr : Rep (a + b).natAbs) : Ex (add x y) (a + b) := by
  obtain ⟨m, e, hd, hv⟩ := hx.dec
  obtain ⟨k, f, hd', hv'⟩ := hy.dec
  have h := add_right hd hd'
  rw [hv, hv'] at h
  by_cases h0 : a + b = 0
  · rw [h.1 h0, h0]
    have : (decide (a < 0) && decide (b < 0)) = false := by
      rw [Bool.and_eq_false_iff]
      by_cases ha : a < 0
      · right; exact decide_eq_false (by omega)
      · left; exact decide_eq_false ha
    rw [this]; exact ex_zero
  · exact ex_of_right (h.2 h0) (by omega) (Nat.one_mul _).symm rfl hr
theorem ex_sub {x y : UInt64} {a b : Int} (hx : Ex x a) (hy : Ex y b) (hr : Rep (a - b).natAbs) : Ex (sub x y) (a - b) := by
  obtain ⟨m, e, hd, hv⟩ := hx.dec
  obtain ⟨k, f, hd', hv'⟩ := hy.dec
  have h := sub_right hd hd'
  rw [hv, hv'] at h
  by_cases h0 : a - b = 0
  · rw [h.1 h0, h0]
    have : (decide (a < 0) && !decide (b < 0)) = false := by
      have : a = b := by omega
      rw [this]; cases decide (b < 0) <;> rfl
    rw [this]; exact ex_zero
  · exact ex_of_right (h.2 h0) (by omega) (Nat.one_mul _).symm rfl hr
theorem ex_mul {x y : UInt64} {a b c : Int} (hx : Ex x a) (hy : Ex y b) (hc : a.natAbs * b.natAbs = 2 ^ 1074 * c.natAbs) (hs : (decide (a < 0) != decide (b < 0)) = decide (c < 0)) (hr : Rep c.natAbs) : Ex (mul x y) c := by
  obtain ⟨m, e, hd, hv⟩ := hx.dec
  obtain ⟨k, f, hd', hv'⟩ := hy.dec
  have h := mul_right hd hd'
  rw [hv, hv'] at h
  exact ex_of_right h (Nat.two_pow_pos _) hc hs hr
theorem ex_div {x y : UInt64} {a b c : Int} (hx : Ex x a) (hy : Ex y b) (hb : b ≠ 0) (hc : a.natAbs * 2 ^ 1074 = b.natAbs * c.natAbs) (hs : (decide (a < 0) != decide (b < 0)) = decide (c < 0)) (hr : Rep c.natAbs) : Ex (div x y) c := by
  obtain ⟨m, e, hd, hv⟩ := hx.dec
  obtain ⟨k, f, hd', hv'⟩ := hy.dec
  have hk : k ≠ 0 := by
    intro h
    rw [val_eq hd', h, Nat.zero_mul] at hv'
    apply hb; rw [← hv']; unfold sgn; split <;> rfl
  have h := div_right hd hd' hk
  rw [hv, hv'] at h
  exact ex_of_right h (by omega) hc hs hr
theorem ex_frac {w : Int} {neg : Bool} {n d : Nat} (hd : 0 < d) (hW : n * 2 ^ 1074 = w.natAbs * d) (hn : neg = decide (w < 0)) (hr : Rep w.natAbs) : Ex (ofFrac neg n d) w :=
  ex_of_right (ofFrac_right (W := w.natAbs) (D := 1) hd (by rw [Nat.mul_one]; exact hW) (by omega)) (by omega) (Nat.one_mul _).symm hn hr
theorem ex_neg {x : UInt64} {a : Int} (hx : Ex x a) (ha : 0 < a) : Ex (neg x) (-a) := by
  obtain ⟨m, e, hd, hv⟩ := hx.dec
  obtain ⟨t, ht, e1, hv1⟩ := hx
  have hdn := neg_decode hd
  have hn : isNaN x = false := by unfold isNaN; rw [hd]
  have hN := neg_toNat hn
  refine ⟨t, ht, ?_, by rw [hv1]; omega⟩
  have h63 : t < 2 ^ 63 := by unfold infMag at ht; omega
  have ex : x.toNat = t := by rw [e1, pack_toNat _ h63, if_neg (by simp; omega)]; omega
  apply UInt64.toNat.inj
  rw [pack_toNat _ h63, if_pos (by simp; omega)]
  have hb : (neg x).toNat / 2 ^ 63 = 1 := by
    have h2 := hN.2
    rw [ex, Nat.div_eq_of_lt h63] at h2
    simpa using h2
  have hm := hN.1
  rw [ex, Nat.mod_eq_of_lt h63] at hm
  have := Nat.div_add_mod (neg x).toNat (2 ^ 63)
  omega
theorem ex_abs {x : UInt64} {a : Int} (hx : Ex x a) (ha : 0 ≤ a) : Float64.abs x = x := by
  obtain ⟨m, e, hd, hv⟩ := hx.dec
  obtain ⟨t, ht, e1, hv1⟩ := hx
  have hn : isNaN x = false := by unfold isNaN; rw [hd]
  have h63 : t < 2 ^ 63 := by unfold infMag at ht; omega
  have ex : x.toNat = t := by rw [e1, pack_toNat _ h63, if_neg (by simp; omega)]; omega
  unfold Float64.abs
  rw [if_neg (by simp [hn]), ex, Nat.mod_eq_of_lt h63, e1]
  rw [show decide (a < 0) = false from decide_eq_false (by omega)]
theorem ex_cmp {x y : UInt64} {a b : Int} (hx : Ex x a) (hy : Ex y b) : cmp x y = some (compare a b) := by
  obtain ⟨m, e, hd, hv⟩ := hx.dec
  obtain ⟨k, f, hd', hv'⟩ := hy.dec
  rw [cmp_right hd hd', hv, hv']
theorem ex_cmpInt {x : UInt64} {a : Int} (hx : Ex x a) (i : Int) : cmpInt x i = some (compare a (i * 2 ^ 1074)) := by
  obtain ⟨m, e, hd, hv⟩ := hx.dec
  rw [cmpInt_right hd, hv]
theorem ex_finite {x : UInt64} {a : Int} (hx : Ex x a) : isNaN x = false ∧ isInf x = false := by
  obtain ⟨m, e, hd, hv⟩ := hx.dec
  constructor
  · unfold isNaN; rw [hd]
  · unfold isInf; rw [hd]
theorem ex_isZero {x : UInt64} {a : Int} (hx : Ex x a) : isZero x = decide (a = 0) := by
  obtain ⟨m, e, hd, hv⟩ := hx.dec
  rw [val_eq hd] at hv
  unfold isZero; rw [hd]
  cases m with
  | zero =>
    have : a = 0 := by rw [← hv, Nat.zero_mul]; unfold sgn; split <;> rfl
    simp [this]
  | succ k =>
    have h1 : (k + 1) * 2 ^ (e + 1074).toNat ≠ 0 := Nat.ne_of_gt (Nat.mul_pos (Nat.succ_pos k) (Nat.two_pow_pos _))
    have : a ≠ 0 := by
      rw [← hv]; unfold sgn; split <;> omega
    simp [this]

theorem sgn_bmul (a b : Bool) (m k : Nat) : sgn (a != b) (m * k) = sgn a m * sgn b k := by
  cases a <;> cases b <;> simp [sgn, Int.neg_mul, Int.mul_neg, Int.natCast_mul]
theorem fma_zero {x y z : UInt64} {a b c : Int} {sc : Bool} {n : Nat} {g : Int} (hx : Ex x a) (hy : Ex y b) (hz : decode z = .fin sc n g) (hc : val z = c) (h : a * b + c * 2 ^ 1074 = 0)
    (hs : (decide (a < 0) != decide (b < 0)) = false ∨ a * b ≠ 0) : fma x y z = zero false := by
  obtain ⟨m, e, hd, hv⟩ := hx.dec
  obtain ⟨k, f, hd', hv'⟩ := hy.dec
  have he := decode_ge hd
  have hf := decode_ge hd'
  have hg := decode_ge hz
  rw [val_eq hd] at hv
  rw [val_eq hd'] at hv'
  rw [val_eq hz] at hc
  have hpow : ∀ n : Nat, ((2 ^ n : Nat) : Int) = (2 : Int) ^ n := fun n => by simp
  have hpq : (sgn (decide (a < 0) != decide (b < 0)) (m * k * 2 ^ (e + f - min (e + f) g).toNat) + sgn sc (n * 2 ^ (g - min (e + f) g).toNat)) * ((2 ^ (min (e + f) g + 2148).toNat : Nat) : Int) = 0 := by
    rw [Int.add_mul, ← sgn_mul, ← sgn_mul, Nat.mul_assoc (m * k), Nat.mul_assoc n, ← Nat.pow_add, ← Nat.pow_add]
    have e1 : (e + f - min (e + f) g).toNat + (min (e + f) g + 2148).toNat = (e + 1074).toNat + (f + 1074).toNat := by omega
    have e2 : (g - min (e + f) g).toNat + (min (e + f) g + 2148).toNat = (g + 1074).toNat + 1074 := by omega
    rw [e1, e2, Nat.pow_add, Nat.pow_add, ← Nat.mul_assoc n]
    rw [show m * k * (2 ^ (e + 1074).toNat * 2 ^ (f + 1074).toNat) = (m * 2 ^ (e + 1074).toNat) * (k * 2 ^ (f + 1074).toNat) by ac_rfl]
    rw [sgn_bmul, hv, hv', sgn_mul, hc, hpow]
    exact h
  have hpos : ((2 ^ (min (e + f) g + 2148).toNat : Nat) : Int) ≠ 0 := by
    have := Nat.two_pow_pos (min (e + f) g + 2148).toNat
    omega
  have hz0 := (Int.mul_eq_zero.mp hpq).resolve_right hpos
  unfold fma
  rw [hd, hd', hz]
  show (if (sgn (decide (a < 0) != decide (b < 0)) (m * k * 2 ^ (e + f - min (e + f) g).toNat) + sgn sc (n * 2 ^ (g - min (e + f) g).toNat) == 0) = true then zero (if (m * k == 0 && n == 0) = true then (decide (a < 0) != decide (b < 0)) && sc else false) else _) = _
  rw [if_pos (beq_iff_eq.mpr hz0)]
  rcases hs with hs | hs
  · rw [hs]; simp
  · have hmk : (m * k == 0) = false := by
      rw [beq_eq_false_iff_ne]
      intro h0
      apply hs
      rcases Nat.mul_eq_zero.mp h0 with h1 | h1
      · rw [h1, Nat.zero_mul] at hv
        rw [← hv]; unfold sgn; split <;> simp
      · rw [h1, Nat.zero_mul] at hv'
        rw [← hv']; unfold sgn; split <;> simp
    rw [hmk]; simp

theorem ex_sqrt {x : UInt64} {a c : Nat} (hx : Ex x (a : Int)) (hc0 : 0 < c) (hc : a * 2 ^ 1074 = c * c) (hr : Rep c) : Ex (sqrt x) (c : Int) := by
  obtain ⟨m, e, hd, hv⟩ := hx.dec
  rw [show decide ((a : Int) < 0) = false from decide_eq_false (by omega)] at hd
  have hm : m ≠ 0 := by
    intro h
    rw [val_eq hd, h, Nat.zero_mul] at hv
    have : a = 0 := by unfold sgn at hv; simpa using hv.symm
    rw [this, Nat.zero_mul] at hc
    have := Nat.mul_pos hc0 hc0
    omega
  obtain ⟨t, e1, hlt, hup, hdn⟩ := sqrt_right hd hm
  obtain ⟨t0, h0, hv0⟩ := hr
  rw [hv, Int.natAbs_natCast, hc] at hup hdn
  have sq : ∀ {u v : Nat}, u * u ≤ v * v → u ≤ v := fun h => by
    rename_i u v
    rcases Nat.lt_or_ge v u with q | q
    · exact absurd (Nat.lt_of_lt_of_le (Nat.mul_lt_mul'' q q) h) (Nat.lt_irrefl _)
    · exact q
  have e4 : 4 * (c * c) = (2 * c) * (2 * c) := by rw [show (4 : Nat) = 2 * 2 from rfl]; ac_rfl
  have ht : t = t0 := by
    rcases Nat.lt_trichotomy t t0 with h1 | h1 | h1
    · exfalso
      have h2 := hup t0 h1
      rw [e4] at h2
      have h3 := sq h2
      have h4 := V_lt h1
      omega
    · exact h1
    · exfalso
      have h2 := hdn t0 h1
      rw [e4] at h2
      have h3 := sq h2
      have h4 := V_lt h1
      omega
  subst ht
  exact ⟨t, hlt, by rw [e1, show decide ((c : Int) < 0) = false from decide_eq_false (by omega)], by rw [hv0, Int.natAbs_natCast]⟩
theorem decode_one : decode one = .fin false (2 ^ 52) (-52) := by kernel_rfl
theorem ex_one : Ex one ((2 ^ 1074 : Nat) : Int) := by
  refine ⟨1023 * 2 ^ 52, by decide, ?_, ?_⟩
  · rw [show decide ((((2 ^ 1074 : Nat)) : Int) < 0) = false from decide_eq_false (by omega)]; rfl
  · rw [Int.natAbs_natCast, show 1023 * 2 ^ 52 = 1022 * 2 ^ 52 + 2 ^ 52 from rfl, V_at (by decide) (.inl (by decide)), ← Nat.pow_add]
theorem ex_ldexp1 (k : Int) (h1 : -1000 ≤ k) (h2 : k ≤ 900) : Ex (ldexp one k) ((2 ^ (k + 1074).toNat : Nat) : Int) := by
  have e : ldexp one k = ofBin false (2 ^ 52) (-52 + k) := by
    unfold ldexp; rw [decode_one]
    show ofBin false (2 ^ 52) (-52 + max (-5000) (min k 5000)) = _
    rw [show max (-5000) (min k 5000) = k by omega]
  rw [e]
  refine ex_of_right (ofBin_right (by omega)) (by omega) ?_ (decide_eq_false (Int.not_lt.mpr (Int.natCast_nonneg _))).symm ?_
  · rw [Int.natAbs_natCast, Nat.one_mul, ← Nat.pow_add]
    congr 1; omega
  · rw [Int.natAbs_natCast]
    have := rep_pow (m := 1) (e := (k + 1074).toNat) (by decide) (by omega) (by omega)
    rwa [Nat.one_mul] at this
theorem log2_mul_pow {m : Nat} (h : m ≠ 0) (j : Nat) : (m * 2 ^ j).log2 = m.log2 + j := by
  have hp := Nat.two_pow_pos j
  have h0 : m * 2 ^ j ≠ 0 := Nat.ne_of_gt (Nat.mul_pos (Nat.pos_of_ne_zero h) hp)
  apply Nat.le_antisymm
  · apply Nat.le_of_lt_succ
    rw [Nat.log2_lt h0]
    have := Nat.mul_lt_mul_of_pos_right (Nat.lt_log2_self (n := m)) hp
    rwa [← Nat.pow_add, show m.log2 + 1 + j = m.log2 + j + 1 by omega] at this
  · rw [Nat.le_log2 h0, Nat.pow_add]
    exact Nat.mul_le_mul_right _ (Nat.log2_self_le h)
theorem ex_frexp {x : UInt64} {P c : Nat} (hx : Ex x ((P * 2 ^ c : Nat) : Int)) (hP : P ≠ 0) : (frexp x).2 = (P.log2 : Int) + c - 1073 := by
  obtain ⟨m, e, hd, hv⟩ := hx.dec
  have he := decode_ge hd
  have hva := val_natAbs hd
  rw [hv, Int.natAbs_natCast] at hva
  have hm : m ≠ 0 := by
    intro h
    rw [h, Nat.zero_mul] at hva
    have := Nat.mul_pos (Nat.pos_of_ne_zero hP) (Nat.two_pow_pos c)
    omega
  have h1 := log2_mul_pow hP c
  have h2 := log2_mul_pow hm (e + 1074).toNat
  rw [← hva, h1] at h2
  unfold frexp
  rw [hd]
  simp only
  rw [if_neg (by simpa using hm)]
  show e + m.log2 + 1 = _
  omega
end Mine
end

section
open PySem PySem.Float64 PySem.Builtin.Math
set_option maxRecDepth 100000
namespace Mine

theorem z_add : add (zero false) (zero false) = zero false := (ex_add ex_zero ex_zero rep_zero).eq_zero
theorem nat_sign (n : Nat) : decide ((n : Int) < 0) = false := decide_eq_false (Int.not_lt.mpr (Int.natCast_nonneg _))

theorem ex_pick {m x : UInt64} {a b : Nat} (hm : Ex m (a : Int)) (hx : Ex x (b : Int)) : Ex (if gt x m then x else m) ((max a b : Nat) : Int) := by
  unfold gt
  rw [ex_cmp hx hm]
  by_cases h : a < b
  · rw [Int.compare_eq_gt.mpr (by omega), Nat.max_eq_right (by omega)]; exact hx
  · have h2 : (some (compare (b : Int) (a : Int)) == some Ordering.gt) = false := by
      cases hc : compare (b : Int) (a : Int) with
      | gt => exact absurd (Int.compare_eq_gt.mp hc) (by omega)
      | lt => rfl
      | eq => rfl
    rw [h2, if_neg (by decide), Nat.max_eq_left (by omega)]; exact hm
theorem ex_max {x y : UInt64} {a b : Nat} (hx : Ex x (a : Int)) (hy : Ex y (b : Int)) : Ex (maxMagnitude [x, y]) ((max a b : Nat) : Int) := by
  have h := ex_pick (ex_pick ex_zero hx) hy
  rw [Nat.max_eq_right (Nat.zero_le a)] at h
  exact h

theorem ex_dlMul {x : UInt64} {p s u : Nat} (hx : Ex x ((p * 2 ^ s : Nat) : Int)) (hs : 2 * s = 1074 + u) (hr : Rep (p * p * 2 ^ u)) :
    ∃ z, dlMul x x = (z, zero false) ∧ Ex z ((p * p * 2 ^ u : Nat) : Int) := by
  have e1 : p * 2 ^ s * (p * 2 ^ s) = 2 ^ 1074 * (p * p * 2 ^ u) := by
    rw [show p * 2 ^ s * (p * 2 ^ s) = p * p * (2 ^ s * 2 ^ s) by ac_rfl, ← Nat.pow_add, show s + s = 1074 + u by omega, Nat.pow_add]
    generalize (2 : Nat) ^ 1074 = K
    ac_rfl
  have hz : Ex (mul x x) ((p * p * 2 ^ u : Nat) : Int) := ex_mul hx hx (by rw [Int.natAbs_natCast, Int.natAbs_natCast]; exact e1) (by rw [bne_self_eq_false, nat_sign]) (by rw [Int.natAbs_natCast]; exact hr)
  refine ⟨mul x x, ?_, hz⟩
  unfold dlMul
  obtain ⟨m, e, hd, hv⟩ := hz.dec
  have hf : fma x x (Float64.neg (mul x x)) = zero false := by
    refine fma_zero hx hx (neg_decode hd) (by rw [neg_val hd, hv]) ?_ (.inl (bne_self_eq_false _))
    rw [← Int.natCast_mul, e1, Int.natCast_mul]
    generalize ((p * p * 2 ^ u : Nat) : Int) = W
    rw [Int.neg_mul, Int.mul_comm W]
    have : ((2 ^ 1074 : Nat) : Int) = (2 : Int) ^ 1074 := by simp
    rw [this, Int.add_right_neg]
  show (mul x x, fma x x (Float64.neg (mul x x))) = _
  rw [hf]
theorem ex_dlMulNeg {h : UInt64} {p s u : Nat} (hx : Ex h ((p * 2 ^ s : Nat) : Int)) (hp : 0 < p) (hs : 2 * s = 1074 + u) (hr : Rep (p * p * 2 ^ u)) :
    ∃ z, dlMul (Float64.neg h) h = (z, zero false) ∧ Ex z (-((p * p * 2 ^ u : Nat) : Int)) := by
  have e1 : p * 2 ^ s * (p * 2 ^ s) = 2 ^ 1074 * (p * p * 2 ^ u) := by
    rw [show p * 2 ^ s * (p * 2 ^ s) = p * p * (2 ^ s * 2 ^ s) by ac_rfl, ← Nat.pow_add, show s + s = 1074 + u by omega, Nat.pow_add]
    generalize (2 : Nat) ^ 1074 = K
    ac_rfl
  have hpos : 0 < p * 2 ^ s := Nat.mul_pos hp (Nat.two_pow_pos s)
  have hpos2 : 0 < p * p * 2 ^ u := Nat.mul_pos (Nat.mul_pos hp hp) (Nat.two_pow_pos u)
  have hn := ex_neg hx (by omega)
  have hz : Ex (mul (Float64.neg h) h) (-((p * p * 2 ^ u : Nat) : Int)) := ex_mul hn hx (by rw [Int.natAbs_neg, Int.natAbs_natCast, Int.natAbs_neg, Int.natAbs_natCast]; exact e1)
    (by rw [nat_sign, decide_eq_true (by omega), decide_eq_true (by omega)]; rfl) (by rw [Int.natAbs_neg, Int.natAbs_natCast]; exact hr)
  refine ⟨_, ?_, hz⟩
  obtain ⟨m, e, hd, hv⟩ := hz.dec
  have hf : fma (Float64.neg h) h (Float64.neg (mul (Float64.neg h) h)) = zero false := by
    refine fma_zero hn hx (neg_decode hd) (by rw [neg_val hd, hv]) ?_ (.inr ?_)
    · rw [Int.neg_mul, ← Int.natCast_mul, e1, Int.natCast_mul, Int.neg_neg]
      generalize ((p * p * 2 ^ u : Nat) : Int) = W
      have : ((2 ^ 1074 : Nat) : Int) = (2 : Int) ^ 1074 := by simp
      rw [this, Int.mul_comm W, Int.add_left_neg]
    · rw [Int.neg_mul, ← Int.natCast_mul]
      have := Nat.mul_pos hpos hpos
      omega
  show (mul (Float64.neg h) h, fma (Float64.neg h) h (Float64.neg (mul (Float64.neg h) h))) = _
  rw [hf]
theorem ex_fast {a b : UInt64} {A B : Int} (ha : Ex a A) (hb : Ex b B) (hr : Rep (A + B).natAbs) : ∃ z, dlFastSum a b = (z, zero false) ∧ Ex z (A + B) := by
  have hz := ex_add ha hb hr
  refine ⟨_, ?_, hz⟩
  have h1 : Ex (sub a (add a b)) (A - (A + B)) := ex_sub ha hz (by rw [show A - (A + B) = -B by omega, Int.natAbs_neg]; exact hb.rep)
  have h2 : Ex (add (sub a (add a b)) b) (A - (A + B) + B) := ex_add h1 hb (by rw [show A - (A + B) + B = 0 by omega]; exact rep_zero)
  rw [show A - (A + B) + B = 0 by omega] at h2
  show (add a b, add (sub a (add a b)) b) = _
  rw [h2.eq_zero]

theorem ex_scale {x scale : UInt64} {p c k s : Nat} (hx : Ex x ((p * 2 ^ c : Nat) : Int)) (hk : Ex scale ((2 ^ k : Nat) : Int)) (he : c + k = 1074 + s) (hr : Rep (p * 2 ^ s)) : Ex (mul x scale) ((p * 2 ^ s : Nat) : Int) := by
  refine ex_mul hx hk ?_ (by rw [nat_sign, nat_sign, nat_sign]; rfl) (by rw [Int.natAbs_natCast]; exact hr)
  rw [Int.natAbs_natCast, Int.natAbs_natCast, Int.natAbs_natCast, Nat.mul_assoc, ← Nat.pow_add, he, Nat.pow_add]
  generalize (2 : Nat) ^ 1074 = K
  ac_rfl

theorem norm_core {x y big : UInt64} {p q r c l : Nat} (hx : Ex x ((p * 2 ^ c : Nat) : Int)) (hy : Ex y ((q * 2 ^ c : Nat) : Int)) (hf : (frexp big).2 = (l : Int) + c - 1073)
    (hl : l ≤ 24) (hp : p < 2 ^ (l + 1)) (hq : q < 2 ^ (l + 1)) (hr0 : 0 < r) (hpqr : p * p + q * q = r * r) (hc1 : 1000 ≤ c) (hc2 : c ≤ 1700) : Ex (scaledNorm [x, y] big) ((r * 2 ^ c : Nat) : Int) := by
  have hL : (2 : Nat) ^ (l + 1) ≤ 2 ^ 25 := Nat.pow_le_pow_right (by decide) (by omega)
  have hpp : p * p < 2 ^ (l + 1) * 2 ^ (l + 1) := Nat.mul_lt_mul'' hp hp
  have hqq : q * q < 2 ^ (l + 1) * 2 ^ (l + 1) := Nat.mul_lt_mul'' hq hq
  have hLL : (2 : Nat) ^ (l + 1) * 2 ^ (l + 1) ≤ 2 ^ 50 := by
    rw [← Nat.pow_add]; exact Nat.pow_le_pow_right (by decide) (by omega)
  have hr : r < 2 ^ 26 := by
    rcases Nat.lt_or_ge r (2 ^ 26) with h | h
    · exact h
    · have := Nat.mul_le_mul h h; omega
  -- the scale
  have hk : Ex (ldexp one (-(frexp big).2)) ((2 ^ (2147 - l - c) : Nat) : Int) := by
    have := ex_ldexp1 (-(frexp big).2) (by omega) (by omega)
    rwa [show (-(frexp big).2 + 1074).toNat = 2147 - l - c by omega] at this
  obtain ⟨s, hs⟩ : ∃ s, s = 1073 - l := ⟨_, rfl⟩
  obtain ⟨u, hu⟩ : ∃ u, u = 1072 - 2 * l := ⟨_, rfl⟩
  have hsu : 2 * s = 1074 + u := by omega
  have rp : Rep (p * 2 ^ s) := rep_pow (by omega) (by omega) (by omega)
  have rq : Rep (q * 2 ^ s) := rep_pow (by omega) (by omega) (by omega)
  have rr : Rep (r * 2 ^ s) := rep_pow (by omega) (by omega) (by omega)
  have X1 := ex_scale hx hk (s := s) (by omega) rp
  have Y1 := ex_scale hy hk (s := s) (by omega) rq
  obtain ⟨zp, ep, Zp⟩ := ex_dlMul X1 hsu (rep_pow (by omega) (by omega) (by omega))
  obtain ⟨zq, eq, Zq⟩ := ex_dlMul Y1 hsu (rep_pow (by omega) (by omega) (by omega))
  -- 1 = 2 ^ (2 l + 2) * 2 ^ u
  have one_is : (2 : Nat) ^ 1074 = 2 ^ (l + 1) * 2 ^ (l + 1) * 2 ^ u := by rw [← Nat.pow_add, ← Nat.pow_add]; congr 1; omega
  have O := ex_one
  rw [one_is] at O
  have cast3 : ∀ a b d : Nat, ((a * d : Nat) : Int) + ((b * d : Nat) : Int) = (((a + b) * d : Nat) : Int) := fun a b d => by rw [Nat.add_mul, Int.natCast_add]
  obtain ⟨a1, e1, A1⟩ := ex_fast O Zp (by rw [cast3, Int.natAbs_natCast]; exact rep_pow (by omega) (by omega) (by omega))
  rw [cast3] at A1
  obtain ⟨a2, e2, A2⟩ := ex_fast A1 Zq (by rw [cast3, Int.natAbs_natCast]; exact rep_pow (by omega) (by omega) (by omega))
  rw [cast3] at A2
  have S1 : Ex (sub a2 one) ((r * r * 2 ^ u : Nat) : Int) := by
    have e : (((2 ^ (l + 1) * 2 ^ (l + 1) + p * p + q * q) * 2 ^ u : Nat) : Int) - ((2 ^ (l + 1) * 2 ^ (l + 1) * 2 ^ u : Nat) : Int) = ((r * r * 2 ^ u : Nat) : Int) := by
      rw [← hpqr, Nat.add_assoc, ← cast3]; omega
    have := ex_sub A2 O (by rw [e, Int.natAbs_natCast]; exact rep_pow (by omega) (by omega) (by omega))
    rwa [e] at this
  have S2 : Ex (add (sub a2 one) (zero false)) ((r * r * 2 ^ u : Nat) : Int) := by
    have := ex_add S1 ex_zero (by rw [Int.add_zero]; exact S1.rep)
    rwa [Int.add_zero] at this
  have H : Ex (sqrt (add (sub a2 one) (zero false))) ((r * 2 ^ s : Nat) : Int) := by
    refine ex_sqrt S2 (Nat.mul_pos hr0 (Nat.two_pow_pos s)) ?_ rr
    rw [show r * 2 ^ s * (r * 2 ^ s) = r * r * (2 ^ s * 2 ^ s) by ac_rfl, ← Nat.pow_add, show s + s = u + 1074 by omega, Nat.pow_add]
    generalize (2 : Nat) ^ 1074 = K
    ac_rfl
  obtain ⟨h, hh⟩ : ∃ h, h = sqrt (add (sub a2 one) (zero false)) := ⟨_, rfl⟩
  rw [← hh] at H
  obtain ⟨zn, en, Zn⟩ := ex_dlMulNeg H hr0 hsu (rep_pow (by omega) (by omega) (by omega))
  have back : (((2 ^ (l + 1) * 2 ^ (l + 1) + p * p + q * q) * 2 ^ u : Nat) : Int) + -((r * r * 2 ^ u : Nat) : Int) = ((2 ^ (l + 1) * 2 ^ (l + 1) * 2 ^ u : Nat) : Int) := by
    rw [← hpqr, Nat.add_assoc, ← cast3]; omega
  obtain ⟨a3, e3, A3⟩ := ex_fast A2 Zn (by rw [back]; exact O.rep)
  rw [back] at A3
  have S3 : add (sub a3 one) (zero false) = zero false := by
    have h1 := ex_sub A3 O (by rw [Int.sub_self]; exact rep_zero)
    rw [Int.sub_self] at h1
    rw [h1.eq_zero, z_add]
  -- the end
  have two : Ex (Float64.ofInt 2) ((2 * 2 ^ 1074 : Nat) : Int) := by
    unfold Float64.ofInt
    refine ex_frac (by decide) ?_ (by rw [nat_sign]; rfl) ?_
    · rw [Int.natAbs_natCast, Nat.mul_one]; rfl
    · rw [Int.natAbs_natCast]; exact rep_pow (by decide) (by decide) (by decide)
  have h2 : Ex (mul (Float64.ofInt 2) h) ((2 * (r * 2 ^ s) : Nat) : Int) := by
    refine ex_mul two H ?_ (by rw [nat_sign, nat_sign, nat_sign]; rfl) ?_
    · rw [Int.natAbs_natCast, Int.natAbs_natCast, Int.natAbs_natCast]
      generalize (2 : Nat) ^ 1074 = K
      ac_rfl
    · rw [Int.natAbs_natCast, ← Nat.mul_assoc]; exact rep_pow (by omega) (by omega) (by omega)
  have hpos : 0 < r * 2 ^ s := Nat.mul_pos hr0 (Nat.two_pow_pos s)
  have D0 : div (zero false) (mul (Float64.ofInt 2) h) = zero false := by
    refine (ex_div (c := 0) ex_zero h2 (by omega) ?_ (by rw [nat_sign]; rfl) rep_zero).eq_zero
    rw [Int.natAbs_zero, Nat.zero_mul, Nat.mul_zero]
  have H2 : Ex (add h (zero false)) ((r * 2 ^ s : Nat) : Int) := by
    have := ex_add H ex_zero (by rw [Int.add_zero]; exact H.rep)
    rwa [Int.add_zero] at this
  have hkne : ((2 ^ (2147 - l - c) : Nat) : Int) ≠ 0 := by
    have := Nat.two_pow_pos (2147 - l - c); omega
  have R : Ex (div (add h (zero false)) (ldexp one (-(frexp big).2))) ((r * 2 ^ c : Nat) : Int) := by
    refine ex_div H2 hk hkne ?_ (by rw [nat_sign, nat_sign, nat_sign]; rfl) ?_
    · rw [Int.natAbs_natCast, Int.natAbs_natCast, Int.natAbs_natCast, Nat.mul_assoc, ← Nat.pow_add, Nat.mul_left_comm, ← Nat.pow_add]
      congr 2; omega
    · rw [Int.natAbs_natCast]; exact rep_pow (by omega) (by omega) (by omega)
  unfold scaledNorm
  simp only [List.foldl, ep, eq, e1, e2, z_add]
  rw [← hh]
  simp only [en, e3, z_add, S3, D0]
  exact R

theorem norm_exact {x y : UInt64} {p q r c : Nat} (hx : Ex x ((p * 2 ^ c : Nat) : Int)) (hy : Ex y ((q * 2 ^ c : Nat) : Int)) (hpqr : p * p + q * q = r * r)
    (hp : p < 2 ^ 25) (hq : q < 2 ^ 25) (hc1 : 1000 ≤ c) (hc2 : c ≤ 1700) : Ex (vectorNorm [x, y]) ((r * 2 ^ c : Nat) : Int) := by
  have hB := ex_max hx hy
  have hm : max (p * 2 ^ c) (q * 2 ^ c) = max p q * 2 ^ c := by
    rcases Nat.le_total p q with h | h
    · rw [Nat.max_eq_right h, Nat.max_eq_right (Nat.mul_le_mul_right _ h)]
    · rw [Nat.max_eq_left h, Nat.max_eq_left (Nat.mul_le_mul_right _ h)]
  rw [hm] at hB
  unfold vectorNorm
  simp only
  rw [(ex_finite hB).2]
  rw [show ([x, y].any isNaN) = false by simp [(ex_finite hx).1, (ex_finite hy).1]]
  rw [ex_isZero hB]
  simp only [Bool.false_eq_true, if_false]
  by_cases h0 : max p q = 0
  · have hp0 : p = 0 := by omega
    have hq0 : q = 0 := by omega
    subst hp0; subst hq0
    have hr : r = 0 := by
      rcases Nat.eq_zero_or_pos r with h | h
      · exact h
      · have := Nat.mul_pos h h; omega
    subst hr
    rw [if_pos (by simp)]
    exact hB
  · have hne : ((max p q * 2 ^ c : Nat) : Int) ≠ 0 := by
      have := Nat.mul_pos (Nat.pos_of_ne_zero h0) (Nat.two_pow_pos c)
      omega
    rw [decide_eq_false hne]
    rw [if_neg (by simp)]
    have hf := ex_frexp hB h0
    have hl : (max p q).log2 < 25 := (Nat.log2_lt h0).mpr (by omega)
    rw [if_neg (by rw [hf]; omega)]
    have hlt : max p q < 2 ^ ((max p q).log2 + 1) := Nat.lt_log2_self
    refine norm_core hx hy hf (by omega) (by omega) (by omega) ?_ hpqr hc1 hc2
    rcases Nat.eq_zero_or_pos r with h | h
    · exfalso
      subst h
      have h1 : p * p = 0 := by omega
      have h2 : q * q = 0 := by omega
      have h3 : p = 0 := by rcases Nat.mul_eq_zero.mp h1 with h | h <;> exact h
      have h4 : q = 0 := by rcases Nat.mul_eq_zero.mp h2 with h | h <;> exact h
      omega
    · exact h
end Mine
end

section
open PySem PySem.Float64 PySem.Builtin.Math
set_option maxRecDepth 100000
namespace Mine

/-- the double n * 2 ^ (c - 1074); chosen, so that nothing unfolds it -/
theorem dy_there : ∃ f : Nat → Int → UInt64, ∀ c n, f c n = ofFrac (decide (n < 0)) (n.natAbs * 2 ^ c) (2 ^ 1074) := ⟨_, fun _ _ => rfl⟩
noncomputable def dy : Nat → Int → UInt64 := Classical.choose dy_there
theorem dy_is (c : Nat) (n : Int) : dy c n = ofFrac (decide (n < 0)) (n.natAbs * 2 ^ c) (2 ^ 1074) := Classical.choose_spec dy_there c n

theorem pow_cast (c : Nat) : ((2 ^ c : Nat) : Int) = (2 : Int) ^ c := by simp
theorem mul_sign (n : Int) (c : Nat) : decide (n * ((2 ^ c : Nat) : Int) < 0) = decide (n < 0) := by
  have hp : (0 : Int) < ((2 ^ c : Nat) : Int) := Int.natCast_pos.mpr (Nat.two_pow_pos c)
  apply decide_eq_decide.mpr
  constructor
  · intro h
    rcases Int.lt_or_le n 0 with h1 | h1
    · exact h1
    · exact absurd (Int.mul_nonneg h1 (Int.le_of_lt hp)) (by omega)
  · intro h; exact Int.mul_neg_of_neg_of_pos h hp
theorem rep_dy {n : Int} {c : Nat} (hn : n.natAbs < 2 ^ 53) (hc : 52 ≤ c) (hc2 : c ≤ 2040) : Rep (n * ((2 ^ c : Nat) : Int)).natAbs := by
  rw [Int.natAbs_mul, Int.natAbs_natCast]; exact rep_pow hn hc hc2
theorem ex_dy {n : Int} {c : Nat} (hn : n.natAbs < 2 ^ 53) (hc : 52 ≤ c) (hc2 : c ≤ 2040) : Ex (dy c n) (n * ((2 ^ c : Nat) : Int)) := by
  rw [dy_is]
  refine ex_frac (Nat.two_pow_pos _) ?_ (mul_sign n c).symm (rep_dy hn hc hc2)
  rw [Int.natAbs_mul, Int.natAbs_natCast]
theorem frac_dy {n : Int} {k : Nat} {neg : Bool} (hneg : neg = decide (n < 0)) (hn : n.natAbs < 2 ^ 53) (hk : k ≤ 1022) : ofFrac neg n.natAbs (2 ^ k) = dy (1074 - k) n := by
  refine Ex.uniq (ex_frac (w := n * ((2 ^ (1074 - k) : Nat) : Int)) (Nat.two_pow_pos _) ?_ (hneg.trans (mul_sign n _).symm) (rep_dy hn (by omega) (by omega))) (ex_dy hn (by omega) (by omega))
  rw [Int.natAbs_mul, Int.natAbs_natCast, Nat.mul_assoc, ← Nat.pow_add]
  congr 2; omega
theorem ofInt_dy {n : Int} {k : Nat} (hn : n.natAbs < 2 ^ 53) (hk : k ≤ 900) : Float64.ofInt (n * 2 ^ k) = dy (1074 + k) n := by
  unfold Float64.ofInt
  rw [← pow_cast]
  refine Ex.uniq (ex_frac (w := n * ((2 ^ (1074 + k) : Nat) : Int)) (by decide) ?_ ((mul_sign n k).trans (mul_sign n _).symm) (rep_dy hn (by omega) (by omega))) (ex_dy hn (by omega) (by omega))
  rw [Int.natAbs_mul, Int.natAbs_natCast, Int.natAbs_mul, Int.natAbs_natCast, Nat.mul_one, Nat.mul_assoc, ← Nat.pow_add, Nat.add_comm]
theorem add_dy {a b : Int} {c : Nat} (ha : a.natAbs < 2 ^ 53) (hb : b.natAbs < 2 ^ 53) (hab : (a + b).natAbs < 2 ^ 53) (hc : 52 ≤ c) (hc2 : c ≤ 2040) : add (dy c a) (dy c b) = dy c (a + b) := by
  have h := ex_add (ex_dy ha hc hc2) (ex_dy hb hc hc2) (by rw [← Int.add_mul]; exact rep_dy hab hc hc2)
  rw [← Int.add_mul] at h
  exact h.uniq (ex_dy hab hc hc2)
theorem sub_dy {a b : Int} {c : Nat} (ha : a.natAbs < 2 ^ 53) (hb : b.natAbs < 2 ^ 53) (hab : (a - b).natAbs < 2 ^ 53) (hc : 52 ≤ c) (hc2 : c ≤ 2040) : sub (dy c a) (dy c b) = dy c (a - b) := by
  have h := ex_sub (ex_dy ha hc hc2) (ex_dy hb hc hc2) (by rw [← Int.sub_mul]; exact rep_dy hab hc hc2)
  rw [← Int.sub_mul] at h
  exact h.uniq (ex_dy hab hc hc2)
theorem dy_fine {a : Int} {c j : Nat} (ha : a.natAbs < 2 ^ 53) (hj : (a * 2 ^ j).natAbs < 2 ^ 53) (hc : 52 ≤ c) (hc2 : c + j ≤ 2040) : dy (c + j) a = dy c (a * 2 ^ j) := by
  refine (ex_dy ha (by omega) hc2).uniq ?_
  have h := ex_dy hj hc (by omega)
  rw [← pow_cast, Int.mul_assoc, ← Int.natCast_mul, ← Nat.pow_add, Nat.add_comm] at h
  rwa [← pow_cast]
theorem mul_dy {a : Int} (h0 : 0 ≤ a) (ha : a < 2 ^ 26) : mul (dy 1054 a) (dy 1054 a) = dy 1034 (a * a) := by
  obtain ⟨n, rfl⟩ : ∃ n : Nat, a = n := ⟨a.toNat, by omega⟩
  have hn : n < 2 ^ 26 := by omega
  have hnn : n * n < 2 ^ 53 := by
    have := Nat.mul_lt_mul'' hn hn; omega
  rw [← Int.natCast_mul]
  have x := ex_dy (n := (n : Int)) (c := 1054) (by rw [Int.natAbs_natCast]; omega) (by decide) (by decide)
  refine (ex_mul x x ?_ ?_ ?_).uniq (ex_dy (n := ((n * n : Nat) : Int)) (by rw [Int.natAbs_natCast]; omega) (by decide) (by decide))
  · rw [← Int.natCast_mul, ← Int.natCast_mul, Int.natAbs_natCast, Int.natAbs_natCast]
    rw [show n * 2 ^ 1054 * (n * 2 ^ 1054) = n * n * (2 ^ 1054 * 2 ^ 1054) by ac_rfl, ← Nat.pow_add, show 1054 + 1054 = 1074 + 1034 from rfl, Nat.pow_add]
    generalize (2 : Nat) ^ 1074 = K
    ac_rfl
  · rw [← Int.natCast_mul, ← Int.natCast_mul, nat_sign, nat_sign, bne_self_eq_false]
  · exact rep_dy (by rw [Int.natAbs_natCast]; omega) (by decide) (by decide)
theorem abs_dy {a : Int} {c : Nat} (h0 : 0 ≤ a) (ha : a < 2 ^ 53) (hc : 52 ≤ c) (hc2 : c ≤ 2040) : Float64.abs (dy c a) = dy c a :=
  ex_abs (ex_dy (by omega) hc hc2) (Int.mul_nonneg h0 (Int.natCast_nonneg _))
theorem norm_dy {a b r : Int} {c : Nat} (ha : 0 ≤ a) (hb : 0 ≤ b) (hr : 0 ≤ r) (ha2 : a < 2 ^ 25) (hb2 : b < 2 ^ 25) (h : a * a + b * b = r * r) (hc1 : 1000 ≤ c) (hc2 : c ≤ 1700) : vectorNorm [dy c a, dy c b] = dy c r := by
  obtain ⟨p, rfl⟩ : ∃ n : Nat, a = n := ⟨a.toNat, by omega⟩
  obtain ⟨q, rfl⟩ : ∃ n : Nat, b = n := ⟨b.toNat, by omega⟩
  obtain ⟨n, rfl⟩ : ∃ n : Nat, r = n := ⟨r.toNat, by omega⟩
  have hn : p * p + q * q = n * n := by
    rw [← Int.natCast_mul, ← Int.natCast_mul, ← Int.natCast_mul, ← Int.natCast_add] at h
    exact Int.ofNat.inj h
  have hn2 : n < 2 ^ 26 := by
    rcases Nat.lt_or_ge n (2 ^ 26) with q' | q'
    · exact q'
    · have h1 := Nat.mul_le_mul q' q'
      have h2 : p * p < 2 ^ 25 * 2 ^ 25 := Nat.mul_lt_mul'' (by omega) (by omega)
      have h3 : q * q < 2 ^ 25 * 2 ^ 25 := Nat.mul_lt_mul'' (by omega) (by omega)
      omega
  have x := ex_dy (n := (p : Int)) (c := c) (by rw [Int.natAbs_natCast]; omega) (by omega) (by omega)
  have y := ex_dy (n := (q : Int)) (c := c) (by rw [Int.natAbs_natCast]; omega) (by omega) (by omega)
  have z := ex_dy (n := (n : Int)) (c := c) (by rw [Int.natAbs_natCast]; omega) (by omega) (by omega)
  rw [← Int.natCast_mul] at x y z
  exact (norm_exact x y hn (by omega) (by omega) hc1 hc2).uniq z
theorem compare_mul {a b K : Int} (hK : 0 < K) : compare (a * K) (b * K) = compare a b := by
  rcases Int.lt_trichotomy a b with h | h | h
  · rw [Int.compare_eq_lt.mpr h, Int.compare_eq_lt.mpr (Int.mul_lt_mul_of_pos_right h hK)]
  · subst h; simp
  · rw [Int.compare_eq_gt.mpr h, Int.compare_eq_gt.mpr (Int.mul_lt_mul_of_pos_right h hK)]
theorem cmp_dy {a b : Int} {c : Nat} (ha : a.natAbs < 2 ^ 53) (hb : b.natAbs < 2 ^ 53) (hc : 52 ≤ c) (hc2 : c ≤ 2040) : cmp (dy c a) (dy c b) = some (compare a b) := by
  rw [ex_cmp (ex_dy ha hc hc2) (ex_dy hb hc hc2), compare_mul (Int.natCast_pos.mpr (Nat.two_pow_pos c))]
theorem dy_zero {c : Nat} (hc : 52 ≤ c) (hc2 : c ≤ 2040) : dy c 0 = zero false := by
  have := ex_dy (n := 0) (c := c) (by decide) hc hc2
  rw [Int.zero_mul] at this
  exact this.eq_zero
theorem zero_is : zero false = 0 := by kernel_rfl
theorem dy_not_lt {a : Int} {c : Nat} (h0 : 0 ≤ a) (ha : a < 2 ^ 53) (hc : 52 ≤ c) (hc2 : c ≤ 2040) : (cmp (dy c a) 0 == some Ordering.lt) = false := by
  rw [← zero_is, ← dy_zero hc hc2, cmp_dy (by omega) (by decide) hc hc2]
  cases h : compare a 0 with
  | lt => exact absurd (Int.compare_eq_lt.mp h) (by omega)
  | eq => rfl
  | gt => rfl
theorem dy_eq {a b : Int} {c : Nat} (ha : a.natAbs < 2 ^ 53) (hb : b.natAbs < 2 ^ 53) (hc : 52 ≤ c) (hc2 : c ≤ 2040) : (cmp (dy c a) (dy c b) == some Ordering.eq) = decide (a = b) := by
  rw [cmp_dy ha hb hc hc2]
  by_cases h : a = b
  · subst h; simp
  · rw [decide_eq_false h]
    cases h2 : compare a b with
    | eq => exact absurd (Int.compare_eq_eq.mp h2) h
    | lt => rfl
    | gt => rfl
theorem dy_off {a : Int} (ha : a.natAbs < 2 ^ 42) : add (dy 1054 a) (dy 1044 1) = dy 1044 (a * 1024 + 1) := by
  have e : dy 1054 a = dy 1044 (a * 1024) := dy_fine (c := 1044) (j := 10) (by omega) (by omega) (by decide) (by decide)
  rw [e]
  exact add_dy (by omega) (by decide) (by omega) (by decide) (by decide)
theorem dy_off_ne {a : Int} (ha : a.natAbs < 2 ^ 42) : (cmp (dy 1054 a) (dy 1044 (a * 1024 + 1)) == some Ordering.eq) = false ∧ (cmp (dy 1044 (a * 1024 + 1)) (dy 1054 a) == some Ordering.eq) = false := by
  have e : dy 1054 a = dy 1044 (a * 1024) := dy_fine (c := 1044) (j := 10) (by omega) (by omega) (by decide) (by decide)
  rw [e, dy_eq (by omega) (by omega) (by decide) (by decide), dy_eq (by omega) (by omega) (by decide) (by decide)]
  exact ⟨decide_eq_false (by omega), decide_eq_false (by omega)⟩
#print axioms norm_dy
end Mine
end

section
open PySem PySem.Calls PySem.W PyProof.Rows
set_option maxRecDepth 100000
namespace Mine

theorem hy_entry : entryFor table "math.hypot" = some Builtin.«math.hypot» := entryFor_of_tree (by kernel_rfl)
theorem hy_kind : builtinKind "math.hypot" = none := by kernel_rfl
theorem hy_plain : plainId "math.hypot" = true := by decide +kernel
theorem hy_args (a b : Value) : argsOk "math.hypot" ⟨[a, b], []⟩ := by unfold argsOk; kernel_rfl
theorem hy_run (a : UInt64) (t : Tok) (b : UInt64) (u : Tok) :
    Gives (Builtin.«math.hypot» ⟨[.float a t, .float b u], []⟩) (.float (Builtin.Math.vectorNorm [Float64.abs a, Float64.abs b])) :=
  .of_wp fun M A E s Q h => by obtain ⟨hp, g, d, tk, os⟩ := s; wp_walk; exact ⟨_, rfl, h⟩

section
variable {prog : Program} {w : World} {A : Around} {E : Value → Shared → Prop} {s : Shared} {Q : Value → Shared → Prop} {t u : Tok} {a b r : Int}

theorem hypot_dy {c : Nat} (ha : 0 ≤ a) (hb : 0 ≤ b) (hr : 0 ≤ r) (ha2 : a < 2 ^ 25) (hb2 : b < 2 ^ 25) (h : a * a + b * b = r * r) (hc1 : 1000 ≤ c) (hc2 : c ≤ 1700)
    (hQ : Q (.float (dy c r) s.toks) { s with toks := s.toks + 1 }) : wpAny (model prog w) A (call (.builtin "math.hypot") [.float (dy c a) t, .float (dy c b) u]) Q E s := by
  refine call_function_meets hy_kind hy_plain hy_entry (hy_args _ _) (hy_run _ _ _ _).meets ?_
  rw [abs_dy ha (by omega) (by omega) (by omega), abs_dy hb (by omega) (by omega) (by omega), norm_dy ha hb hr ha2 hb2 h hc1 hc2]
  exact hQ

theorem div_dy {n d : Int} (k : Nat) (hd : d = 2 ^ k) (hn : n.natAbs < 2 ^ 53) (hk : k ≤ 1000) (hQ : Q (.float (dy (1074 - k) n) s.toks) { s with toks := s.toks + 1 }) :
    wpAny (model prog w) A (binaryOp .Div (.int n t) (.int d u)) Q E s := by
  have hpos : (0 : Int) < 2 ^ k := Int.pow_pos (by decide)
  have e : Float64.ofFrac (decide (n < 0) != decide (d < 0)) n.natAbs d.natAbs = dy (1074 - k) n := by
    rw [hd, show ((2 : Int) ^ k).natAbs = 2 ^ k by rw [← pow_cast, Int.natAbs_natCast], show decide ((2 : Int) ^ k < 0) = false from decide_eq_false (by omega)]
    exact frac_dy (by simp) hn (by omega)
  refine AutoIntOps.truediv_2 (by simpa using (show d ≠ 0 by omega)) ?_ ?_
  · rw [e, (ex_finite (ex_dy hn (by omega) (by omega))).2]; decide
  · rw [e]; exact hQ
theorem add_float_dy {c : Nat} (ha : a.natAbs < 2 ^ 52) (hb : b.natAbs < 2 ^ 52) (hc : 52 ≤ c) (hc2 : c ≤ 2040) (hQ : Q (.float (dy c (a + b)) s.toks) { s with toks := s.toks + 1 }) :
    wpAny (model prog w) A (binaryOp .Add (.float (dy c a) t) (.float (dy c b) u)) Q E s := by
  refine add_float ?_
  rw [add_dy (by omega) (by omega) (by omega) hc hc2]; exact hQ
theorem sub_float_dy {c : Nat} (ha : a.natAbs < 2 ^ 52) (hb : b.natAbs < 2 ^ 52) (hc : 52 ≤ c) (hc2 : c ≤ 2040) (hQ : Q (.float (dy c (a - b)) s.toks) { s with toks := s.toks + 1 }) :
    wpAny (model prog w) A (binaryOp .Sub (.float (dy c a) t) (.float (dy c b) u)) Q E s := by
  refine sub_float ?_
  rw [sub_dy (by omega) (by omega) (by omega) hc hc2]; exact hQ
theorem add_float_off (ha : a.natAbs < 2 ^ 42) (hQ : Q (.float (dy 1044 (a * 1024 + 1)) s.toks) { s with toks := s.toks + 1 }) :
    wpAny (model prog w) A (binaryOp .Add (.float (dy 1054 a) t) (.float (dy 1044 1) u)) Q E s := by
  refine add_float ?_
  rw [dy_off ha]; exact hQ
theorem mul_float_dy (h0 : 0 ≤ a) (ha : a < 2 ^ 26) (hQ : Q (.float (dy 1034 (a * a)) s.toks) { s with toks := s.toks + 1 }) :
    wpAny (model prog w) A (binaryOp .Mult (.float (dy 1054 a) t) (.float (dy 1054 a) u)) Q E s := by
  refine mul_float ?_
  rw [mul_dy h0 ha]; exact hQ
theorem float_big {n : Int} (hn : n.natAbs < 2 ^ 53) (hQ : Q (.float (dy 1674 n) s.toks) { s with toks := s.toks + 1 }) :
    wpAny (model prog w) A (call (.type "float") [.int (n * 2 ^ 600) t]) Q E s := by
  have e : Float64.ofInt (n * 2 ^ 600) = dy 1674 n := ofInt_dy (k := 600) hn (by decide)
  refine call_float_int ?_ ?_
  · rw [e, (ex_finite (ex_dy hn (by decide) (by decide))).2]; decide
  · rw [e]; exact hQ
theorem float_nought {c : Nat} (hc : 52 ≤ c) (hc2 : c ≤ 2040) (hQ : Q (.float (dy c 0) s.toks) { s with toks := s.toks + 1 }) : wpAny (model prog w) A (call (.type "float") [.int 0 t]) Q E s := by
  have e : Float64.ofInt 0 = dy c 0 := by rw [dy_zero hc hc2]; kernel_rfl
  refine call_float_int ?_ ?_
  · rw [e, (ex_finite (ex_dy (by decide) hc hc2)).2]; decide
  · rw [e]; exact hQ
theorem lt_zero_dy {c : Nat} (h0 : 0 ≤ a) (ha : a < 2 ^ 53) (hc : 52 ≤ c) (hc2 : c ≤ 2040) (hQ : Q (.bool false) s) : wpAny (model prog w) A (compareOp .Lt (.float (dy c a) t) (.float 0 u)) Q E s := by
  refine AutoFloatOps.lt_0 ?_
  rw [dy_not_lt h0 ha hc hc2]; exact hQ
theorem lt_zero_int {n : Int} (h0 : 0 ≤ n) (hQ : Q (.bool false) s) : wpAny (model prog w) A (compareOp .Lt (.int n t) (.float 0 u)) Q E s := by
  refine lt_if ?_
  have e : (Float64.cmpInt 0 n == some Ordering.gt) = false := by
    rw [← zero_is, ex_cmpInt ex_zero]
    have h1 : 0 ≤ n * 2 ^ 1074 := Int.mul_nonneg h0 (Int.le_of_lt (Int.pow_pos (by decide)))
    cases h : compare (0 : Int) (n * 2 ^ 1074) with
    | gt => exact absurd (Int.compare_eq_gt.mp h) (Int.not_lt.mpr h1)
    | lt => rfl
    | eq => rfl
  rw [e]; exact hQ
end
end Mine
namespace Mine
section
variable {prog : Program} {w : World} {A : Around} {E : Value → Shared → Prop} {s : Shared} {Q : Value → Shared → Prop} {t u : Tok} {a b r : Int}
theorem div_20 {n d : Int} (hd : d = 2 ^ 20) (hn : n.natAbs < 2 ^ 53) (hQ : Q (.float (dy 1054 n) s.toks) { s with toks := s.toks + 1 }) : wpAny (model prog w) A (binaryOp .Div (.int n t) (.int d u)) Q E s := div_dy 20 hd hn (by decide) hQ
theorem div_30 {n d : Int} (hd : d = 2 ^ 30) (hn : n.natAbs < 2 ^ 53) (hQ : Q (.float (dy 1044 n) s.toks) { s with toks := s.toks + 1 }) : wpAny (model prog w) A (binaryOp .Div (.int n t) (.int d u)) Q E s := div_dy 30 hd hn (by decide) hQ
theorem div_40 {n m d : Int} (hd : d = 2 ^ 40) (hm : n = m * m) (h0 : 0 ≤ m) (hn : m < 2 ^ 26) (hQ : Q (.float (dy 1034 (m * m)) s.toks) { s with toks := s.toks + 1 }) : wpAny (model prog w) A (binaryOp .Div (.int n t) (.int d u)) Q E s := by
  subst hm
  have h1 : m.toNat * m.toNat < 2 ^ 26 * 2 ^ 26 := Nat.mul_lt_mul'' (by omega) (by omega)
  have h2 : (m * m).natAbs = m.toNat * m.toNat := by rw [Int.natAbs_mul]; congr 1 <;> omega
  exact div_dy 40 hd (by omega) (by decide) hQ
theorem eq_dy_same {c : Nat} (ha : a.natAbs < 2 ^ 53) (hc : 52 ≤ c) (hc2 : c ≤ 2040) (hQ : Q (.bool true) s) : wpAny (model prog w) A (compareOp .Eq (.float (dy c a) t) (.float (dy c a) u)) Q E s := by
  refine AutoFloatOps.eq_0 ?_
  rw [dy_eq ha ha hc hc2, decide_eq_true rfl]; exact hQ
theorem eq_dy_off (ha : a.natAbs < 2 ^ 42) (hQ : Q (.bool false) s) : wpAny (model prog w) A (compareOp .Eq (.float (dy 1054 a) t) (.float (dy 1044 (a * 1024 + 1)) u)) Q E s := by
  refine AutoFloatOps.eq_0 ?_
  rw [(dy_off_ne ha).1]; exact hQ
theorem eq_dy_off' (ha : a.natAbs < 2 ^ 42) (hQ : Q (.bool false) s) : wpAny (model prog w) A (compareOp .Eq (.float (dy 1044 (a * 1024 + 1)) t) (.float (dy 1054 a) u)) Q E s := by
  refine AutoFloatOps.eq_0 ?_
  rw [(dy_off_ne ha).2]; exact hQ
end
end Mine
namespace Mine
section
variable {prog : Program} {w : World} {A : Around} {E : Value → Shared → Prop} {s : Shared} {Q : Value → Shared → Prop} {t u : Tok} {a b r : Int}
theorem pow_two {n : Int} (k : Nat) (hn : n = (k : Int)) (hk : k ≤ 1000) (hr : (2 : Int) ^ k = r) (hQ : Q (.int r s.toks) { s with toks := s.toks + 1 }) : wpAny (model prog w) A (binaryOp .Pow (.int 2 t) (.int n u)) Q E s := by
  subst hn
  refine pow_int_small (by omega) (by omega) (by decide) ?_
  rw [Int.toNat_natCast, hr]; exact hQ
theorem pow_16 (hQ : Q (.int 65536 s.toks) { s with toks := s.toks + 1 }) : wpAny (model prog w) A (binaryOp .Pow (.int 2 t) (.int 16 u)) Q E s := pow_two 16 rfl (by decide) (by decide) hQ
theorem pow_18 (hQ : Q (.int 262144 s.toks) { s with toks := s.toks + 1 }) : wpAny (model prog w) A (binaryOp .Pow (.int 2 t) (.int 18 u)) Q E s := pow_two 18 rfl (by decide) (by decide) hQ
theorem pow_20 (hQ : Q (.int 1048576 s.toks) { s with toks := s.toks + 1 }) : wpAny (model prog w) A (binaryOp .Pow (.int 2 t) (.int 20 u)) Q E s := pow_two 20 rfl (by decide) (by decide) hQ
theorem pow_21 (hQ : Q (.int 2097152 s.toks) { s with toks := s.toks + 1 }) : wpAny (model prog w) A (binaryOp .Pow (.int 2 t) (.int 21 u)) Q E s := pow_two 21 rfl (by decide) (by decide) hQ
theorem pow_30 (hQ : Q (.int 1073741824 s.toks) { s with toks := s.toks + 1 }) : wpAny (model prog w) A (binaryOp .Pow (.int 2 t) (.int 30 u)) Q E s := pow_two 30 rfl (by decide) (by decide) hQ
theorem pow_40 (hQ : Q (.int 1099511627776 s.toks) { s with toks := s.toks + 1 }) : wpAny (model prog w) A (binaryOp .Pow (.int 2 t) (.int 40 u)) Q E s := pow_two 40 rfl (by decide) (by decide) hQ
theorem pow_600 (hQ : Q (.int (2 ^ 600) s.toks) { s with toks := s.toks + 1 }) : wpAny (model prog w) A (binaryOp .Pow (.int 2 t) (.int 600 u)) Q E s := pow_two 600 rfl (by decide) rfl hQ
theorem pow_sq (h0 : 0 ≤ a) (ha : a < 2 ^ 26) (hQ : Q (.int (a * a) s.toks) { s with toks := s.toks + 1 }) : wpAny (model prog w) A (binaryOp .Pow (.int a t) (.int 2 u)) Q E s := by
  refine pow_int_small (by omega) (by omega) (by omega) ?_
  rw [show (2 : Int).toNat = 2 from rfl, show a ^ 2 = a * a by rw [Int.pow_succ, Int.pow_succ, Int.pow_zero, Int.one_mul]]; exact hQ
end
end Mine
end

section
open PySem PySem.Calls PySem.W PyProof.Rows
set_option maxRecDepth 100000
namespace Mine
section
variable {prog : Program} {w : World} {A : Around} {E : Value → Shared → Prop} {s : Shared} {K : Frag} {x C L p fget : Addr} {ox od : Obj} {name : Str} {h₀ : Heap} {m : Str → Option Value} {rest : List Value} {expr : Bool} {Q : Value → Shared → Prop}
/-- a property of a class whose instances have slots alone -/
theorem prop_slots (F : Fr h₀ L s.heap m) (X₀ : K.In h₀) (I : InstAt s.heap x ox C (some od)) (hg : plainGet K C name = true) (hc : isClsIn K C = true)
    (ha : findIn K (.ref C) name = some (some (.ref p))) (hn : specialIn K (.ref p) "__get__" = some (some (.builtin "property.__get__"))) (ht : takesIn K (.ref p) = some true) (hp : recIn K p "property" = some (.ref fget :: rest))
    (h : codeAny (model prog w) A.in1 (.call (.ref fget) ⟨[.ref x], []⟩) (fun r s' => match r with | .ok (.ret v) => wpAny (model prog w) A (handedOut v) Q E s' | .ok _ => False | .error e => wpAny (model prog w) A (noteIf true (.ref x) (.str name s.toks) e) (fun _ s'' => E e s'') E s') { s with toks := s.toks + 1 }) :
    wpAny (model prog w) A (getAttr (.ref x) name expr) Q E s :=
  have X := X₀.keeps F.keep
  have P := plainGet_of hg
  get_bind X I P.1 (findObj_data hc ha hn ht) P.2 (wpAny_call (prop_get (s := { s with toks := s.toks + 1 }) X hp h))
end
end Mine
namespace Mine
section
open SeqAt
variable {A : Around} {s : Shared}
theorem not_told {K : Frag} {M : Model} {E : Value → Shared → Prop} {t : Tok} {Q : Bool → Shared → Prop} (X : K.In s.heap) (hb : nsIn K cStatics sharingNotToldKey = some none) (h : Q false s) : wpAny M A (sharingNotTold t) Q E s := by
  unfold sharingNotTold
  refine wpAny_bind (looks_nsIn X hb A _ E s (fun _ _ e => e) ?_)
  exact wpAny_pure h
theorem eqAt_float {K : Frag} {x y : UInt64} {t u : Tok} (X : K.In s.heap) (hb : nsIn K cStatics sharingNotToldKey = some none) (ht : t ≠ 0) (hu : u ≠ 0) (h : (Float64.cmp x y == some Ordering.eq) = true) : EqAt A s (.float x t) (.float y u) true := fun prog w E Q hq => by
  unfold eqBool
  refine wpAny_holding ?_
  refine wpAny_ite_split (fun _ => ?_) (fun _ => ?_)
  · exact wpAny_bind (wpAny_rule (wpAny_pure hq))
  · have last : wpAny (model prog w) A (richCompare .Eq (.float x t) (.float y u) >>= truthOfDropped) Q E s := by
      refine wpAny_bind ?_
      have h2 : wpAny (model prog w) A (compareOp .Eq (.float x t) (.float y u)) (fun v s' => wpAny (model prog w) A (truthOfDropped v) Q E s') E s := AutoFloatOps.eq_0 (by rw [h]; exact wpAny_truthy_bool hq)
      exact h2
    refine wpAny_bind ?_
    show wpAny _ A (isSame.created (x == y && !Float64.isNaN x) t u) _ E s
    unfold isSame.created
    have h0 : (t == 0 || u == 0) = false := by
      rw [Bool.or_eq_false_iff]; exact ⟨beq_eq_false_iff_ne.mpr ht, beq_eq_false_iff_ne.mpr hu⟩
    rw [h0]
    refine wpAny_ite_split (fun c => absurd c (by decide)) (fun _ => ?_)
    refine wpAny_ite_split (fun _ => wpAny_pure (wpAny_pure hq)) (fun _ => ?_)
    refine wpAny_ite_split (fun _ => wpAny_pure last) (fun _ => ?_)
    refine wpAny_bind (not_told X hb ?_)
    refine wpAny_ite_split (fun c => absurd c (by decide)) (fun _ => ?_)
    refine wpAny_bind (not_told X hb ?_)
    refine wpAny_ite_split (fun c => absurd c (by decide)) (fun _ => ?_)
    refine wpAny_bind (wpAny_rule (wpAny_bind (wpAny_askSetting (wpAny_pure ?_))))
    refine wpAny_ite_split (fun _ => wpAny_pure hq) (fun _ => last)
variable {prog : Program} {w : World} {E : Value → Shared → Prop} {Q : Value → Shared → Prop} {l b : Addr}
theorem ne_floats3 {x y z x' y' z' : UInt64} {t1 t2 t3 u1 u2 u3 : Tok} (hl : s.heap.IsList l #[.float x t1, .float y t2, .float z t3]) (hb : s.heap.IsList b #[.float x' u1, .float y' u2, .float z' u3])
    {K : Frag} (X : K.In s.heap) (hb0 : nsIn K cStatics sharingNotToldKey = some none) (ht1 : @Ne Nat t1 0) (ht2 : @Ne Nat t2 0) (ht3 : @Ne Nat t3 0) (hu1 : @Ne Nat u1 0) (hu2 : @Ne Nat u2 0) (hu3 : @Ne Nat u3 0) (hx : (Float64.cmp x x' == some Ordering.eq) = true) (hy : (Float64.cmp y y' == some Ordering.eq) = true) (hz : (Float64.cmp z z' == some Ordering.eq) = true) (hu : A.units < cLine) (h : Q (.bool false) s) : wpAny (model prog w) A (compareOp .NotEq (.ref l) (.ref b)) Q E s := by
  refine cmp_ofNotEq (RcNeAt.lists (e := fun _ => true) hl hb rfl hu (fun j h1 h2 => ?_) prog w E Q ?_)
  · match j, h1, h2 with
    | 0, _, _ => exact eqAt_float X hb0 ht1 hu1 hx
    | 1, _, _ => exact eqAt_float X hb0 ht2 hu2 hy
    | 2, _, _ => exact eqAt_float X hb0 ht3 hu3 hz
  · exact h
theorem ne_floats2 {x y x' y' : UInt64} {t1 t2 u1 u2 : Tok} (hl : s.heap.IsList l #[.float x t1, .float y t2]) (hb : s.heap.IsList b #[.float x' u1, .float y' u2])
    {K : Frag} (X : K.In s.heap) (hb0 : nsIn K cStatics sharingNotToldKey = some none) (ht1 : @Ne Nat t1 0) (ht2 : @Ne Nat t2 0) (hu1 : @Ne Nat u1 0) (hu2 : @Ne Nat u2 0) (hx : (Float64.cmp x x' == some Ordering.eq) = true) (hy : (Float64.cmp y y' == some Ordering.eq) = true) (hu : A.units < cLine) (h : Q (.bool false) s) : wpAny (model prog w) A (compareOp .NotEq (.ref l) (.ref b)) Q E s := by
  refine cmp_ofNotEq (RcNeAt.lists (e := fun _ => true) hl hb rfl hu (fun j h1 h2 => ?_) prog w E Q ?_)
  · match j, h1, h2 with
    | 0, _, _ => exact eqAt_float X hb0 ht1 hu1 hx
    | 1, _, _ => exact eqAt_float X hb0 ht2 hu2 hy
  · exact h
theorem ne_nil (hl : s.heap.IsList l #[]) (hb : s.heap.IsList b #[]) (hu : A.units < cLine) (h : Q (.bool false) s) : wpAny (model prog w) A (compareOp .NotEq (.ref l) (.ref b)) Q E s :=
  cmp_ofNotEq (RcNeAt.lists (e := fun _ => true) hl hb rfl hu (fun j h1 _ => absurd h1 (Nat.not_lt_zero j)) prog w E Q h)
end
theorem cmp_self {a : Int} {c : Nat} (ha : a.natAbs < 2 ^ 53) (hc : 52 ≤ c) (hc2 : c ≤ 2040) : (Float64.cmp (dy c a) (dy c a) == some Ordering.eq) = true := by
  rw [dy_eq ha ha hc hc2, decide_eq_true rfl]
theorem cmp_self_sq {a : Int} (h0 : 0 ≤ a) (ha : a < 2 ^ 26) : (Float64.cmp (dy 1034 (a * a)) (dy 1034 (a * a)) == some Ordering.eq) = true := by
  have h1 : a.toNat * a.toNat < 2 ^ 26 * 2 ^ 26 := Nat.mul_lt_mul'' (by omega) (by omega)
  have h2 : (a * a).natAbs = a.toNat * a.toNat := by rw [Int.natAbs_mul]; congr 1 <;> omega
  exact cmp_self (by omega) (by decide) (by decide)
theorem cmp_nought {c : Nat} (hc : 52 ≤ c) (hc2 : c ≤ 2040) : (Float64.cmp (dy c 0) 0 == some Ordering.eq) = true := by
  have h := cmp_self (a := 0) (by decide) hc hc2
  have e : (0 : UInt64) = dy c 0 := by rw [dy_zero hc hc2, zero_is]
  rw [e]; exact h
end Mine
namespace Mine
theorem ne_of_one {t : Nat} (h : 1 ≤ t) : @Ne Nat t 0 := Nat.ne_of_gt h
end Mine
namespace Mine
theorem ne_floats3K {l b : Addr} {h₀ : Heap} {L : Addr} {m : Str → Option Value} {prog : Program} {w : World} {A : Around} {s : Shared} {E : Value → Shared → Prop} {Q : Value → Shared → Prop} {x y z x' y' z' : UInt64} {t1 t2 t3 u1 u2 u3 : Tok} {K : Frag} (F : Fr h₀ L s.heap m) (X : K.In h₀) (hl : s.heap.IsList l #[.float x t1, .float y t2, .float z t3]) (hb : s.heap.IsList b #[.float x' u1, .float y' u2, .float z' u3])
    (hb0 : nsIn K cStatics sharingNotToldKey = some none) (ht1 : @Ne Nat t1 0) (ht2 : @Ne Nat t2 0) (ht3 : @Ne Nat t3 0) (hu1 : @Ne Nat u1 0) (hu2 : @Ne Nat u2 0) (hu3 : @Ne Nat u3 0) (hx : (Float64.cmp x x' == some Ordering.eq) = true) (hy : (Float64.cmp y y' == some Ordering.eq) = true) (hz : (Float64.cmp z z' == some Ordering.eq) = true) (hu : A.units < cLine) (h : Q (.bool false) s) : wpAny (model prog w) A (compareOp .NotEq (.ref l) (.ref b)) Q E s :=
  ne_floats3 hl hb (X.keeps F.keep) hb0 ht1 ht2 ht3 hu1 hu2 hu3 hx hy hz hu h
end Mine
namespace Mine
theorem gen_toks {α : Type} {M : Model} {A : Around} {t : Sem α} {Q : α → Shared → Prop} {E : Value → Shared → Prop} {hp : Heap} {g : Array GenState} {d : Drawn} {k : Nat} {os : OsState} (h : 1 ≤ k)
    (hq : ∀ tk, 1 ≤ tk → wpAny M A t Q E ⟨hp, g, d, tk, os⟩) : wpAny M A t Q E ⟨hp, g, d, k, os⟩ := hq k h
end Mine
end

section
open PySem PySem.Calls PySem.W PyProof.Rows
set_option maxRecDepth 100000
namespace Mine

/-- the heap below address n -/
def cutAt (h : Heap) (n : Nat) : Heap := ⟨h.objs.take n, h.life⟩
theorem cutAt_size (h : Heap) (n : Nat) : (cutAt h n).objs.size ≤ n := by
  unfold cutAt; simp; omega
theorem cutAt_get {h : Heap} {n b : Nat} (hb : b < n) : (cutAt h n).get? b = h.get? b := by
  unfold cutAt Heap.get?
  simp only [Array.take_eq_extract, Array.getElem?_extract, Nat.sub_zero, Nat.zero_add]
  rw [show min n h.objs.size = if n ≤ h.objs.size then n else h.objs.size from rfl]
  by_cases hs : b < h.objs.size
  · rw [if_pos (by split <;> omega)]
  · rw [if_neg (by split <;> omega)]
    rw [Array.getElem?_eq_none (by omega)]
theorem cutAt_some {h : Heap} {n b : Nat} {o : Obj} (e : (cutAt h n).get? b = some o) : h.get? b = some o := by
  have h1 := Heap.lt_size e
  have h2 := cutAt_size h n
  rw [cutAt_get (Nat.lt_of_lt_of_le h1 h2)] at e
  exact e

/-- What the callee does not touch may stand in its base. -/
theorem reground {g h : Heap} {L : Addr} {m : Str → Option Value} {sub rest : List (Addr × Obj)} (F : Fr g L h m) (N : News g L h sub) (NR : News g L h rest) (hd : ∀ p ∈ rest, p.1 ∉ sub.map (·.1)) (hl : ∀ p ∈ rest, p.1 < L) :
    ∃ g', g.objs.size ≤ g'.objs.size ∧ g.StaysIn g' ∧ Fr g' L h m ∧ News g' L h sub ∧ ∀ p ∈ rest, g'.get? p.1 = some p.2 := by
  refine ⟨hideAll (cutAt h L) (sub.map (·.1)), ?_, fun b o e => ?_, ⟨F.ns, fun b o e => cutAt_some (of_hideAll _ e), ?_⟩, fun p hp => ⟨(N p hp).1, (N p hp).2.1, hideAll_none _ (List.mem_map_of_mem hp)⟩, fun p hp => ?_⟩
  · rw [hideAll_size]
    obtain ⟨oL, _, _, hL, _⟩ := F.ns
    have h1 := Heap.lt_size hL
    have h2 := F.above
    unfold cutAt
    simp only [Array.take_eq_extract, Array.size_extract, Nat.sub_zero]
    exact Nat.le_trans h2 (Nat.le_min.mpr ⟨Nat.le_refl _, Nat.le_of_lt h1⟩)
  · refine hideAll_get _ ?_ fun q => ?_
    · rw [cutAt_get (Nat.lt_of_lt_of_le (Heap.lt_size e) F.above)]
      exact F.keep b o e
    · obtain ⟨p, hp, rfl⟩ := List.mem_map.mp q
      rw [(N p hp).2.2] at e; cases e
  · rw [hideAll_size]; exact cutAt_size h L
  · refine hideAll_get _ ?_ (hd p hp)
    rw [cutAt_get (hl p hp)]
    exact (NR p hp).1

theorem leave_sub {h₀ g g' : Heap} {L : Addr} {m : Str → Option Value} {rest : List (Addr × Obj)} {R : Result → Shared → Prop} {v : Value} {s' : Shared} (hsz : g.objs.size ≤ g'.objs.size) (st : g.StaysIn g') (hr : ∀ p ∈ rest, g'.get? p.1 = some p.2 ∧ g.get? p.1 = none)
    (l : LeaveK h₀ L m g' (fun r s' => News h₀ L s'.heap rest → R r s') v s') : LeaveK h₀ L m g R v s' := by
  obtain ⟨L', m', news', F, N, k⟩ := l
  refine ⟨L', m', news' ++ rest, ⟨F.ns, fun b o e => F.keep b o (st b o e), ?_⟩, fun p hp => ?_, fun Fh Nh => k Fh (fun p hp => Nh p (List.mem_append_left _ hp)) (fun p hp => Nh p (List.mem_append_right _ hp))⟩
  · exact Nat.le_trans hsz F.above
  · rcases List.mem_append.mp hp with h | h
    · refine ⟨(N p h).1, (N p h).2.1, ?_⟩
      cases q : g.get? p.1 with
      | none => rfl
      | some o => have := (N p h).2.2; rw [st _ _ q] at this; cases this
    · have h1 := (hr p h).1
      exact ⟨F.keep _ _ h1, Nat.ne_of_lt (Nat.lt_of_lt_of_le (Heap.lt_size h1) F.above), (hr p h).2⟩
end Mine
namespace Mine
theorem below_up {A : Around} {base g g' : Heap} {outer : List Env} (B : Below A base outer g) (st : g.StaysIn g') : Below A base outer g' :=
  ⟨B.stack, fun b o e => st b o (B.stays b o e), B.frames.of_keeps fun b o e _ => ⟨o, st b o e, rfl⟩⟩
/-- Walk on with a part of the ledger alone: the rest stands in the base. -/
theorem walk_sub {M : Model} {A : Around} {t : Sem Flow} {val : Flow → Value} {E : Value → Shared → Prop} {h₀ g : Heap} {L L' : Addr} {m m' : Str → Option Value} {R : Result → Shared → Prop} {s : Shared} (sub rest : List (Addr × Obj))
    (F : Fr g L' s.heap m') (N : News g L' s.heap sub) (NR : News g L' s.heap rest) (hd : ∀ p ∈ rest, p.1 ∉ sub.map (·.1)) (hl : ∀ p ∈ rest, p.1 < L')
    (h : ∀ g', g.StaysIn g' → Fr g' L' s.heap m' → News g' L' s.heap sub → wpAny M A t (fun fl s' => LeaveK h₀ L m g' (fun r s' => News h₀ L s'.heap rest → R r s') (val fl) s') E s) :
    wpAny M A t (fun fl s' => LeaveK h₀ L m g R (val fl) s') E s := by
  obtain ⟨g', hsz, st, F', N', hr⟩ := reground F N NR hd hl
  exact wpAny_mono (h g' st F' N') (fun fl s' l => leave_sub hsz st (fun p hp => ⟨hr p hp, (NR p hp).2.2⟩) l) fun _ _ e => e
end Mine
namespace Mine
theorem eq_known {prog : Program} {w : World} {A : Around} {E : Value → Shared → Prop} {s : Shared} {Q : Value → Shared → Prop} {t u : Tok} {x y : UInt64} {c : Bool} (h : (Float64.cmp x y == some Ordering.eq) = c) (hQ : Q (.bool c) s) :
    wpAny (model prog w) A (compareOp .Eq (.float x t) (.float y u)) Q E s := AutoFloatOps.eq_0 (by rw [h]; exact hQ)
end Mine
end

section
open PySem PySem.W PyProof.Rows PySem.Calls
set_option maxRecDepth 100000
namespace Mine
theorem divs_filter (sp : Int) : ∀ (ks acc : List Int), ks.foldl (fun l' k' => if sp.fmod k' = 0 then l' ++ [k'] else l') acc = acc ++ ks.filter (fun k => decide (sp.fmod k = 0))
  | [], acc => by simp
  | k :: r, acc => by
    rw [List.foldl_cons, divs_filter sp r]
    by_cases h : sp.fmod k = 0
    · rw [if_pos h, List.filter_cons_of_pos (by simpa using h)]; simp
    · rw [if_neg h, List.filter_cons_of_neg (by simpa using h)]
theorem divs_mem {sp M : Int} {n : Nat} (h : M ∈ (rangeKs 1 n).foldl (fun l' k' => if sp.fmod k' = 0 then l' ++ [k'] else l') []) : 1 ≤ M ∧ M < 1 + (n : Int) ∧ sp.fmod M = 0 := by
  rw [divs_filter, List.nil_append] at h
  obtain ⟨h1, h2⟩ := List.mem_filter.mp h
  have h3 := mem_rangeKs h1
  exact ⟨h3.1, h3.2, by simpa using h2⟩
theorem divs_ne {sp : Int} {n : Nat} (hn : 0 < n) : 0 < ((rangeKs 1 n).foldl (fun l' k' => if sp.fmod k' = 0 then l' ++ [k'] else l') []).length := by
  rw [divs_filter, List.nil_append]
  have h1 : (1 : Int) ∈ rangeKs 1 n := by
    unfold rangeKs
    exact List.mem_map.mpr ⟨0, by simpa using hn, by simp⟩
  exact List.length_pos_of_mem (List.mem_filter.mpr ⟨h1, by simp⟩)
/-- what the law's own lines know of a greatest divisor up to 31 -/
theorem part_facts {sp M : Int} (h0 : 0 ≤ sp) (hM : 1 ≤ M) (hd : sp.fmod M = 0) : M * sp.fdiv M = sp ∧ 0 ≤ sp.fdiv M ∧ sp.fdiv M ≤ sp := by
  have e := Int.mul_fdiv_add_fmod sp M
  rw [hd, Int.add_zero] at e
  have h2 : 0 ≤ sp.fdiv M := by rw [Int.fdiv_eq_ediv_of_nonneg _ (by omega)]; exact Int.ediv_nonneg h0 (by omega)
  refine ⟨e, h2, ?_⟩
  have h3 : 1 * sp.fdiv M ≤ M * sp.fdiv M := Int.mul_le_mul_of_nonneg_right hM h2
  rw [Int.one_mul, e] at h3
  exact h3
section
variable {prog : Program} {w : World} {A : Around} {E : Value → Shared → Prop} {s : Shared} {h₀ : Heap} {L l : Addr} {m : Str → Option Value} {news : List (Addr × Obj)} {vs : List Value} {Q : Value → Shared → Prop}
theorem max_divs {sp : Int} {n : Nat} (F : Fr h₀ L s.heap m) (N : News h₀ L s.heap news) (hl : s.heap.IsList l vs.toArray) (hi : IntsAre vs ((rangeKs 1 n).foldl (fun l' k' => if sp.fmod k' = 0 then l' ++ [k'] else l') [])) (hn : 0 < n) (hn2 : n ≤ 31) (h0 : 0 ≤ sp) (h1 : sp < 2097152) (hh : A.handled = none)
    (h : ∀ h' M (t : Tok) tk, Fr h₀ L h' m → News h₀ L h' news → 1 ≤ M → M ≤ 31 → M * sp.fdiv M = sp → 0 ≤ sp.fdiv M → sp.fdiv M < 2097152 → Q (.int M t) { s with heap := h', toks := tk }) : wpAny (model prog w) A (call (.builtin "max") [.ref l]) Q E s :=
  kso_max F N hl hi (divs_ne hn) hh fun h' M t tk F' N' hM _ => by
    obtain ⟨a, b, c⟩ := divs_mem hM
    obtain ⟨d, e, f⟩ := part_facts h0 a c
    exact h h' M t tk F' N' a (by omega) d e (by omega)
end
theorem legs_odd {M p sp : Int} (h1 : 1 ≤ M) (h2 : M ≤ 31) (hM : M.fmod 2 = 1) (he : M * p = sp) (hp0 : 0 ≤ p) (hs : sp < 2097152) :
    0 ≤ (M * M - 1).fdiv 2 * p ∧ (M * M - 1).fdiv 2 * p < 33554432 ∧ 0 ≤ (M * M + 1).fdiv 2 * p ∧ (M * M + 1).fdiv 2 * p < 33554432 ∧
      sp * sp + (M * M - 1).fdiv 2 * p * ((M * M - 1).fdiv 2 * p) = (M * M + 1).fdiv 2 * p * ((M * M + 1).fdiv 2 * p) := by
  rw [Int.fmod_eq_emod_of_nonneg _ (by decide)] at hM
  obtain ⟨k, rfl⟩ : ∃ k, M = 2 * k + 1 := ⟨M / 2, by omega⟩
  have e1 : (2 * k + 1) * (2 * k + 1) = 2 * (2 * (k * k) + 2 * k) + 1 := by
    rw [Int.add_mul, Int.mul_add]; rw [show 2 * k * (2 * k) = 4 * (k * k) by rw [Int.mul_assoc, Int.mul_left_comm k 2 k, ← Int.mul_assoc]; rfl]; omega
  obtain ⟨q, hq⟩ : ∃ q, q = 2 * (k * k) + 2 * k := ⟨_, rfl⟩
  rw [← hq] at e1
  have hk0 : 0 ≤ k := by omega
  have hkk : 0 ≤ k * k := Int.mul_nonneg hk0 hk0
  have hq0 : 0 ≤ q := by omega
  rw [e1, show (2 * q + 1 - 1).fdiv 2 = q by rw [Int.fdiv_eq_ediv_of_nonneg _ (by decide)]; omega, show (2 * q + 1 + 1).fdiv 2 = q + 1 by rw [Int.fdiv_eq_ediv_of_nonneg _ (by decide)]; omega]
  have hqp : 0 ≤ q * p := Int.mul_nonneg hq0 hp0
  have e2 : (q + 1) * p = q * p + p := by rw [Int.add_mul, Int.one_mul]
  -- 2 q p + p = M * sp
  have e3 : 2 * (q * p) + p = (2 * k + 1) * sp := by
    rw [← he, ← Int.mul_assoc (2 * k + 1) (2 * k + 1) p, e1, Int.add_mul, Int.one_mul, Int.mul_assoc]
  have hsp0 : 0 ≤ sp := by rw [← he]; exact Int.mul_nonneg (by omega) hp0
  have h4 : (2 * k + 1) * sp ≤ 31 * sp := Int.mul_le_mul_of_nonneg_right h2 hsp0
  have hple : p ≤ sp := by
    have := Int.mul_le_mul_of_nonneg_right h1 hp0
    rw [Int.one_mul, he] at this; exact this
  refine ⟨hqp, by omega, by omega, by omega, ?_⟩
  have e4 : sp * sp = (2 * q + 1) * (p * p) := by
    rw [← he, ← e1]
    rw [show (2 * k + 1) * p * ((2 * k + 1) * p) = (2 * k + 1) * (2 * k + 1) * (p * p) by ac_rfl]
  rw [e4, e2]
  rw [Int.add_mul (q * p), Int.mul_add (q * p), Int.mul_add p, Int.add_mul, Int.one_mul]
  rw [show q * p * p = q * (p * p) by ac_rfl, show p * (q * p) = q * (p * p) by ac_rfl, show 2 * q * (p * p) = 2 * (q * (p * p)) by ac_rfl]
  omega
theorem legs_even {M p sp : Int} (h1 : 1 ≤ M) (h2 : M ≤ 31) (hM : ¬ M.fmod 2 = 1) (he : M * p = sp) (hp0 : 0 ≤ p) (hs : sp < 2097152) :
    0 ≤ ((M * M).fdiv 4 - 1) * p ∧ ((M * M).fdiv 4 - 1) * p < 33554432 ∧ 0 ≤ ((M * M).fdiv 4 + 1) * p ∧ ((M * M).fdiv 4 + 1) * p < 33554432 ∧
      sp * sp + ((M * M).fdiv 4 - 1) * p * (((M * M).fdiv 4 - 1) * p) = ((M * M).fdiv 4 + 1) * p * (((M * M).fdiv 4 + 1) * p) := by
  rw [Int.fmod_eq_emod_of_nonneg _ (by decide)] at hM
  obtain ⟨k, rfl⟩ : ∃ k, M = 2 * k := ⟨M / 2, by omega⟩
  have e1 : 2 * k * (2 * k) = 4 * (k * k) := by rw [Int.mul_assoc, Int.mul_left_comm k 2 k, ← Int.mul_assoc]; rfl
  obtain ⟨q, hq⟩ : ∃ q, q = k * k := ⟨_, rfl⟩
  rw [← hq] at e1
  have hk1 : 1 ≤ k := by omega
  have hkk : 1 * k ≤ k * k := Int.mul_le_mul_of_nonneg_right hk1 (by omega)
  have hq1 : 1 ≤ q := by omega
  rw [e1, show (4 * q).fdiv 4 = q by rw [Int.fdiv_eq_ediv_of_nonneg _ (by decide)]; omega]
  have e2 : (q + 1) * p = q * p + p := by rw [Int.add_mul, Int.one_mul]
  have e5 : (q - 1) * p = q * p - p := by rw [Int.sub_mul, Int.one_mul]
  have hqp : 1 * p ≤ q * p := Int.mul_le_mul_of_nonneg_right hq1 hp0
  have e3 : 4 * (q * p) = (2 * k) * sp := by
    rw [← he, ← Int.mul_assoc (2 * k) (2 * k) p, e1, Int.mul_assoc]
  have hsp0 : 0 ≤ sp := by rw [← he]; exact Int.mul_nonneg (by omega) hp0
  have h4 : (2 * k) * sp ≤ 31 * sp := Int.mul_le_mul_of_nonneg_right h2 hsp0
  have hple : p ≤ sp := by
    have := Int.mul_le_mul_of_nonneg_right h1 hp0
    rw [Int.one_mul, he] at this; exact this
  refine ⟨by omega, by omega, by omega, by omega, ?_⟩
  have e4 : sp * sp = 4 * (q * (p * p)) := by
    rw [← he]
    rw [show 2 * k * p * (2 * k * p) = 2 * k * (2 * k) * (p * p) by ac_rfl, e1, Int.mul_assoc]
  rw [e4, e2, e5]
  rw [Int.sub_mul, Int.mul_sub, Int.mul_sub, Int.add_mul, Int.mul_add, Int.mul_add]
  rw [show q * p * p = q * (p * p) by ac_rfl, show p * (q * p) = q * (p * p) by ac_rfl]
  omega
end Mine
namespace Mine
theorem news_head {h₀ h : Heap} {L d : Addr} {o : Obj} {rest news : List (Addr × Obj)} (N : News h₀ L h ((d, o) :: rest)) (NR : News h₀ L h news) : News h₀ L h ((d, o) :: news) := fun p hp => by
  rcases List.mem_cons.mp hp with rfl | hp
  · exact N _ (.head _)
  · exact NR p hp
end Mine
end

section
open PySem PySem.W PyProof.Rows
set_option Elab.async false
set_option linter.unusedVariables false
set_option maxRecDepth 100000
set_option maxHeartbeats 0
namespace Mine
section
local macro_rules | `(tactic| o_head $_) => `(tactic| assumption)
theorem seed : PySem.Challenge.rw_io0019_02.row.Holds → PySem.Challenge.rw_io0019_02.Holds := by
  intro h; w_on; o_law; k_head
end
def nth : List Stmt → Nat → Stmt
  | [], _ => .Pass (Pos.mk 0 0 0 0)
  | a :: _, 0 => a
  | _ :: r, n + 1 => nth r n
def fdA : Stmt → Arguments
  | .FunctionDef _ a _ _ _ _ _ _ _ _ => a
  | _ => Arguments.mk [] [] none [] [] none []
def fdB : Stmt → List Stmt
  | .FunctionDef _ _ b _ _ _ _ _ _ _ => b
  | _ => []
def fdS : Stmt → Scope
  | .FunctionDef _ _ _ _ _ _ s _ _ _ => s
  | _ => default
def cdB : Stmt → List Stmt
  | .ClassDef _ _ _ b _ _ _ _ _ _ _ => b
  | _ => []
noncomputable def pwq : Program := PySem.W.Fast.tw16342864058482323743
theorem pw_eq : PySem.Challenge.pw_io0019_02 = pwq := PySem.W.Fast.te16342864058482323743
noncomputable def pb : List Stmt := pwq.main.body
noncomputable def bq : List Stmt := [nth pb 1, nth pb 2, nth pb 3, nth pb 4, nth pb 5, nth pb 6, nth pb 7, nth pb 8]
def vw : Program := view PySem.Challenge.pw_io0019_02 [0, 1, 3, 4, 6, 7, 8]
noncomputable def vwq : Program := view pwq [0, 1, 3, 4, 6, 7, 8]
theorem vw_eq : vw = vwq := congrArg (fun p => view p [0, 1, 3, 4, 6, 7, 8]) pw_eq
end Mine
namespace Mine
noncomputable def q0 : Str := Str.mk (Array.mk [nat_lit 107])
noncomputable def q1 : Str := Str.mk (Array.mk [nat_lit 95,nat_lit 95,nat_lit 115,nat_lit 108,nat_lit 111,nat_lit 116,nat_lit 115,nat_lit 95,nat_lit 95])
noncomputable def q2 : Str := Str.mk (Array.mk [nat_lit 95,nat_lit 109,nat_lit 117])
noncomputable def q3 : Str := Str.mk (Array.mk [nat_lit 95,nat_lit 115,nat_lit 105,nat_lit 103,nat_lit 109,nat_lit 97])
noncomputable def q4 : Str := Str.mk (Array.mk [nat_lit 65,nat_lit 114,nat_lit 105,nat_lit 116,nat_lit 104,nat_lit 109,nat_lit 101,nat_lit 116,nat_lit 105,nat_lit 99,nat_lit 32,nat_lit 109,nat_lit 101,nat_lit 97,nat_lit 110,nat_lit 32,nat_lit 111,nat_lit 102,nat_lit 32,nat_lit 97,nat_lit 32,nat_lit 110,nat_lit 111,nat_lit 114,nat_lit 109,nat_lit 97,nat_lit 108,nat_lit 32,nat_lit 100,nat_lit 105,nat_lit 115,nat_lit 116,nat_lit 114,nat_lit 105,nat_lit 98,nat_lit 117,nat_lit 116,nat_lit 105,nat_lit 111,nat_lit 110])
noncomputable def q5 : Str := Str.mk (Array.mk [nat_lit 83,nat_lit 116,nat_lit 97,nat_lit 110,nat_lit 100,nat_lit 97,nat_lit 114,nat_lit 100,nat_lit 32,nat_lit 100,nat_lit 101,nat_lit 118,nat_lit 105,nat_lit 97,nat_lit 116,nat_lit 105,nat_lit 111,nat_lit 110,nat_lit 32,nat_lit 111,nat_lit 102,nat_lit 32,nat_lit 97,nat_lit 32,nat_lit 110,nat_lit 111,nat_lit 114,nat_lit 109,nat_lit 97,nat_lit 108,nat_lit 32,nat_lit 100,nat_lit 105,nat_lit 115,nat_lit 116,nat_lit 114,nat_lit 105,nat_lit 98,nat_lit 117,nat_lit 116,nat_lit 105,nat_lit 111,nat_lit 110])
noncomputable def q6 : Str := Str.mk (Array.mk [nat_lit 95,nat_lit 95,nat_lit 105,nat_lit 110,nat_lit 105,nat_lit 116,nat_lit 95,nat_lit 95])
noncomputable def q7 : Str := Str.mk (Array.mk [nat_lit 115,nat_lit 101,nat_lit 108,nat_lit 102])
noncomputable def q8 : Str := Str.mk (Array.mk [nat_lit 109,nat_lit 117])
noncomputable def q9 : Str := Str.mk (Array.mk [nat_lit 115,nat_lit 105,nat_lit 103,nat_lit 109,nat_lit 97])
noncomputable def q10 : Str := Str.mk (Array.mk [nat_lit 83,nat_lit 116,nat_lit 97,nat_lit 116,nat_lit 105,nat_lit 115,nat_lit 116,nat_lit 105,nat_lit 99,nat_lit 115,nat_lit 69,nat_lit 114,nat_lit 114,nat_lit 111,nat_lit 114])
noncomputable def q12 : Str := Str.mk (Array.mk [nat_lit 102,nat_lit 108,nat_lit 111,nat_lit 97,nat_lit 116])
noncomputable def q13 : Str := Str.mk (Array.mk [nat_lit 102,nat_lit 114,nat_lit 111,nat_lit 109,nat_lit 95,nat_lit 115,nat_lit 97,nat_lit 109,nat_lit 112,nat_lit 108,nat_lit 101,nat_lit 115])
noncomputable def q14 : Str := Str.mk (Array.mk [nat_lit 99,nat_lit 108,nat_lit 115])
noncomputable def q15 : Str := Str.mk (Array.mk [nat_lit 100,nat_lit 97,nat_lit 116,nat_lit 97])
noncomputable def q16 : Str := Str.mk (Array.mk [nat_lit 95,nat_lit 119,nat_lit 97,nat_lit 108,nat_lit 108])
noncomputable def q17 : Str := Str.mk (Array.mk [nat_lit 99,nat_lit 108,nat_lit 97,nat_lit 115,nat_lit 115,nat_lit 109,nat_lit 101,nat_lit 116,nat_lit 104,nat_lit 111,nat_lit 100])
noncomputable def q18 : Str := Str.mk (Array.mk [nat_lit 115,nat_lit 97,nat_lit 109,nat_lit 112,nat_lit 108,nat_lit 101,nat_lit 115])
noncomputable def q19 : Str := Str.mk (Array.mk [nat_lit 110])
noncomputable def q20 : Str := Str.mk (Array.mk [nat_lit 115,nat_lit 101,nat_lit 101,nat_lit 100])
noncomputable def q21 : Str := Str.mk (Array.mk [nat_lit 112,nat_lit 100,nat_lit 102])
noncomputable def q22 : Str := Str.mk (Array.mk [nat_lit 120])
noncomputable def q23 : Str := Str.mk (Array.mk [nat_lit 99,nat_lit 100,nat_lit 102])
noncomputable def q24 : Str := Str.mk (Array.mk [nat_lit 105,nat_lit 110,nat_lit 118,nat_lit 95,nat_lit 99,nat_lit 100,nat_lit 102])
noncomputable def q25 : Str := Str.mk (Array.mk [nat_lit 112])
noncomputable def q26 : Str := Str.mk (Array.mk [nat_lit 113,nat_lit 117,nat_lit 97,nat_lit 110,nat_lit 116,nat_lit 105,nat_lit 108,nat_lit 101,nat_lit 115])
noncomputable def q27 : Str := Str.mk (Array.mk [nat_lit 111,nat_lit 118,nat_lit 101,nat_lit 114,nat_lit 108,nat_lit 97,nat_lit 112])
noncomputable def q28 : Str := Str.mk (Array.mk [nat_lit 111,nat_lit 116,nat_lit 104,nat_lit 101,nat_lit 114])
noncomputable def q29 : Str := Str.mk (Array.mk [nat_lit 122,nat_lit 115,nat_lit 99,nat_lit 111,nat_lit 114,nat_lit 101])
noncomputable def q30 : Str := Str.mk (Array.mk [nat_lit 109,nat_lit 101,nat_lit 97,nat_lit 110])
noncomputable def q31 : Str := Str.mk (Array.mk [nat_lit 112,nat_lit 114,nat_lit 111,nat_lit 112,nat_lit 101,nat_lit 114,nat_lit 116,nat_lit 121])
noncomputable def q32 : Str := Str.mk (Array.mk [nat_lit 109,nat_lit 101,nat_lit 100,nat_lit 105,nat_lit 97,nat_lit 110])
noncomputable def q33 : Str := Str.mk (Array.mk [nat_lit 109,nat_lit 111,nat_lit 100,nat_lit 101])
noncomputable def q34 : Str := Str.mk (Array.mk [nat_lit 115,nat_lit 116,nat_lit 100,nat_lit 101,nat_lit 118])
noncomputable def q35 : Str := Str.mk (Array.mk [nat_lit 118,nat_lit 97,nat_lit 114,nat_lit 105,nat_lit 97,nat_lit 110,nat_lit 99,nat_lit 101])
noncomputable def q36 : Str := Str.mk (Array.mk [nat_lit 95,nat_lit 95,nat_lit 97,nat_lit 100,nat_lit 100,nat_lit 95,nat_lit 95])
noncomputable def q37 : Str := Str.mk (Array.mk [nat_lit 120,nat_lit 49])
noncomputable def q38 : Str := Str.mk (Array.mk [nat_lit 120,nat_lit 50])
noncomputable def q39 : Str := Str.mk (Array.mk [nat_lit 105,nat_lit 115,nat_lit 105,nat_lit 110,nat_lit 115,nat_lit 116,nat_lit 97,nat_lit 110,nat_lit 99,nat_lit 101])
noncomputable def q40 : Str := Str.mk (Array.mk [nat_lit 78,nat_lit 111,nat_lit 114,nat_lit 109,nat_lit 97,nat_lit 108,nat_lit 68,nat_lit 105,nat_lit 115,nat_lit 116])
noncomputable def q41 : Str := Str.mk (Array.mk [nat_lit 104,nat_lit 121,nat_lit 112,nat_lit 111,nat_lit 116])
noncomputable def q42 : Str := Str.mk (Array.mk [nat_lit 95,nat_lit 95,nat_lit 115,nat_lit 117,nat_lit 98,nat_lit 95,nat_lit 95])
noncomputable def q43 : Str := Str.mk (Array.mk [nat_lit 95,nat_lit 95,nat_lit 109,nat_lit 117,nat_lit 108,nat_lit 95,nat_lit 95])
noncomputable def q44 : Str := Str.mk (Array.mk [nat_lit 102,nat_lit 97,nat_lit 98,nat_lit 115])
noncomputable def q45 : Str := Str.mk (Array.mk [nat_lit 95,nat_lit 95,nat_lit 116,nat_lit 114,nat_lit 117,nat_lit 101,nat_lit 100,nat_lit 105,nat_lit 118,nat_lit 95,nat_lit 95])
noncomputable def q46 : Str := Str.mk (Array.mk [nat_lit 95,nat_lit 95,nat_lit 112,nat_lit 111,nat_lit 115,nat_lit 95,nat_lit 95])
noncomputable def q47 : Str := Str.mk (Array.mk [nat_lit 95,nat_lit 95,nat_lit 110,nat_lit 101,nat_lit 103,nat_lit 95,nat_lit 95])
noncomputable def q48 : Str := Str.mk (Array.mk [nat_lit 95,nat_lit 95,nat_lit 114,nat_lit 97,nat_lit 100,nat_lit 100,nat_lit 95,nat_lit 95])
noncomputable def q49 : Str := Str.mk (Array.mk [nat_lit 95,nat_lit 95,nat_lit 114,nat_lit 115,nat_lit 117,nat_lit 98,nat_lit 95,nat_lit 95])
noncomputable def q50 : Str := Str.mk (Array.mk [nat_lit 95,nat_lit 95,nat_lit 114,nat_lit 109,nat_lit 117,nat_lit 108,nat_lit 95,nat_lit 95])
noncomputable def q51 : Str := Str.mk (Array.mk [nat_lit 95,nat_lit 95,nat_lit 101,nat_lit 113,nat_lit 95,nat_lit 95])
noncomputable def q52 : Str := Str.mk (Array.mk [nat_lit 78,nat_lit 111,nat_lit 116,nat_lit 73,nat_lit 109,nat_lit 112,nat_lit 108,nat_lit 101,nat_lit 109,nat_lit 101,nat_lit 110,nat_lit 116,nat_lit 101,nat_lit 100])
noncomputable def q53 : Str := Str.mk (Array.mk [nat_lit 95,nat_lit 95,nat_lit 104,nat_lit 97,nat_lit 115,nat_lit 104,nat_lit 95,nat_lit 95])
noncomputable def q54 : Str := Str.mk (Array.mk [nat_lit 104,nat_lit 97,nat_lit 115,nat_lit 104])
noncomputable def q55 : Str := Str.mk (Array.mk [nat_lit 95,nat_lit 95,nat_lit 114,nat_lit 101,nat_lit 112,nat_lit 114,nat_lit 95,nat_lit 95])
noncomputable def q56 : Str := Str.mk (Array.mk [nat_lit 116,nat_lit 121,nat_lit 112,nat_lit 101])
noncomputable def q57 : Str := Str.mk (Array.mk [nat_lit 95,nat_lit 95,nat_lit 110,nat_lit 97,nat_lit 109,nat_lit 101,nat_lit 95,nat_lit 95])
noncomputable def q61 : Str := Str.mk (Array.mk [nat_lit 95,nat_lit 95,nat_lit 103,nat_lit 101,nat_lit 116,nat_lit 115,nat_lit 116,nat_lit 97,nat_lit 116,nat_lit 101,nat_lit 95,nat_lit 95])
noncomputable def q62 : Str := Str.mk (Array.mk [nat_lit 95,nat_lit 95,nat_lit 115,nat_lit 101,nat_lit 116,nat_lit 115,nat_lit 116,nat_lit 97,nat_lit 116,nat_lit 101,nat_lit 95,nat_lit 95])
noncomputable def q63 : Str := Str.mk (Array.mk [nat_lit 115,nat_lit 116,nat_lit 97,nat_lit 116,nat_lit 101])
noncomputable def q64 : Str := Str.mk (Array.mk [nat_lit 116,nat_lit 111,nat_lit 108,nat_lit 100])
noncomputable def q65 : Str := Str.mk (Array.mk [nat_lit 115,nat_lit 112,nat_lit 114,nat_lit 101,nat_lit 97,nat_lit 100])
noncomputable def q73 : Str := Str.mk (Array.mk [nat_lit 111,nat_lit 110,nat_lit 101])
noncomputable def q75 : Str := Str.mk (Array.mk [nat_lit 118])
noncomputable def q77 : Str := Str.mk (Array.mk [nat_lit 109,nat_lit 97,nat_lit 120])
noncomputable def q78 : Str := Str.mk (Array.mk [nat_lit 114,nat_lit 97,nat_lit 110,nat_lit 103,nat_lit 101])
noncomputable def q80 : Str := Str.mk (Array.mk [nat_lit 115,nat_lit 99,nat_lit 114,nat_lit 105,nat_lit 112,nat_lit 116])
noncomputable def q81 : Str := Str.mk (Array.mk [nat_lit 122])
noncomputable def q82 : Str := Str.mk (Array.mk [nat_lit 97,nat_lit 98,nat_lit 115])
noncomputable def q83 : Str := Str.mk (Array.mk [nat_lit 98,nat_lit 101,nat_lit 115,nat_lit 105,nat_lit 100,nat_lit 101])
noncomputable def q84 : Str := Str.mk (Array.mk [nat_lit 108,nat_lit 111,nat_lit 110,nat_lit 103])
noncomputable def q85 : Str := Str.mk (Array.mk [nat_lit 95,nat_lit 108,nat_lit 97,nat_lit 119,nat_lit 95,nat_lit 108,nat_lit 101,nat_lit 103,nat_lit 115])
noncomputable def q86 : Str := Str.mk (Array.mk [nat_lit 100,nat_lit 117,nat_lit 101])
noncomputable def q87 : Str := Str.mk (Array.mk [nat_lit 102,nat_lit 111,nat_lit 117,nat_lit 114])
noncomputable def q88 : Str := Str.mk (Array.mk [nat_lit 107,nat_lit 105,nat_lit 110,nat_lit 100])
noncomputable def q89 : Str := Str.mk (Array.mk [nat_lit 116,nat_lit 119,nat_lit 111])
noncomputable def q91 : Str := Str.mk (Array.mk [nat_lit 95,nat_lit 108,nat_lit 97,nat_lit 119,nat_lit 95,nat_lit 105,nat_lit 115])
noncomputable def q92 : Str := Str.mk (Array.mk [nat_lit 103,nat_lit 114,nat_lit 101,nat_lit 97,nat_lit 116])
noncomputable def q93 : Str := Str.mk (Array.mk [nat_lit 98,nat_lit 117,nat_lit 105,nat_lit 108,nat_lit 116,nat_lit 105,nat_lit 110,nat_lit 115])
noncomputable def q94 : Str := Str.mk (Array.mk [nat_lit 95,nat_lit 95,nat_lit 100,nat_lit 111,nat_lit 99,nat_lit 95,nat_lit 95])
noncomputable def q95 : Str := Str.mk (Array.mk [nat_lit 95,nat_lit 95,nat_lit 112,nat_lit 97,nat_lit 99,nat_lit 107,nat_lit 97,nat_lit 103,nat_lit 101,nat_lit 95,nat_lit 95])
noncomputable def q96 : Str := Str.mk (Array.mk [nat_lit 95,nat_lit 95,nat_lit 108,nat_lit 111,nat_lit 97,nat_lit 100,nat_lit 101,nat_lit 114,nat_lit 95,nat_lit 95])
noncomputable def q97 : Str := Str.mk (Array.mk [nat_lit 95,nat_lit 95,nat_lit 115,nat_lit 112,nat_lit 101,nat_lit 99,nat_lit 95,nat_lit 95])
noncomputable def q98 : Str := Str.mk (Array.mk [nat_lit 95,nat_lit 95,nat_lit 98,nat_lit 117,nat_lit 105,nat_lit 108,nat_lit 100,nat_lit 95,nat_lit 99,nat_lit 108,nat_lit 97,nat_lit 115,nat_lit 115,nat_lit 95,nat_lit 95])
noncomputable def q99 : Str := Str.mk (Array.mk [nat_lit 95,nat_lit 95,nat_lit 105,nat_lit 109,nat_lit 112,nat_lit 111,nat_lit 114,nat_lit 116,nat_lit 95,nat_lit 95])
noncomputable def q100 : Str := Str.mk (Array.mk [nat_lit 97,nat_lit 108,nat_lit 108])
noncomputable def q101 : Str := Str.mk (Array.mk [nat_lit 97,nat_lit 110,nat_lit 121])
noncomputable def q102 : Str := Str.mk (Array.mk [nat_lit 97,nat_lit 115,nat_lit 99,nat_lit 105,nat_lit 105])
noncomputable def q103 : Str := Str.mk (Array.mk [nat_lit 98,nat_lit 105,nat_lit 110])
noncomputable def q104 : Str := Str.mk (Array.mk [nat_lit 98,nat_lit 114,nat_lit 101,nat_lit 97,nat_lit 107,nat_lit 112,nat_lit 111,nat_lit 105,nat_lit 110,nat_lit 116])
noncomputable def q105 : Str := Str.mk (Array.mk [nat_lit 99,nat_lit 97,nat_lit 108,nat_lit 108,nat_lit 97,nat_lit 98,nat_lit 108,nat_lit 101])
noncomputable def q106 : Str := Str.mk (Array.mk [nat_lit 99,nat_lit 104,nat_lit 114])
noncomputable def q107 : Str := Str.mk (Array.mk [nat_lit 99,nat_lit 111,nat_lit 109,nat_lit 112,nat_lit 105,nat_lit 108,nat_lit 101])
noncomputable def q108 : Str := Str.mk (Array.mk [nat_lit 100,nat_lit 101,nat_lit 108,nat_lit 97,nat_lit 116,nat_lit 116,nat_lit 114])
noncomputable def q109 : Str := Str.mk (Array.mk [nat_lit 100,nat_lit 105,nat_lit 114])
noncomputable def q110 : Str := Str.mk (Array.mk [nat_lit 100,nat_lit 105,nat_lit 118,nat_lit 109,nat_lit 111,nat_lit 100])
noncomputable def q111 : Str := Str.mk (Array.mk [nat_lit 101,nat_lit 118,nat_lit 97,nat_lit 108])
noncomputable def q112 : Str := Str.mk (Array.mk [nat_lit 101,nat_lit 120,nat_lit 101,nat_lit 99])
noncomputable def q113 : Str := Str.mk (Array.mk [nat_lit 102,nat_lit 111,nat_lit 114,nat_lit 109,nat_lit 97,nat_lit 116])
noncomputable def q114 : Str := Str.mk (Array.mk [nat_lit 103,nat_lit 101,nat_lit 116,nat_lit 97,nat_lit 116,nat_lit 116,nat_lit 114])
noncomputable def q115 : Str := Str.mk (Array.mk [nat_lit 103,nat_lit 108,nat_lit 111,nat_lit 98,nat_lit 97,nat_lit 108,nat_lit 115])
noncomputable def q116 : Str := Str.mk (Array.mk [nat_lit 104,nat_lit 97,nat_lit 115,nat_lit 97,nat_lit 116,nat_lit 116,nat_lit 114])
noncomputable def q117 : Str := Str.mk (Array.mk [nat_lit 104,nat_lit 101,nat_lit 120])
noncomputable def q118 : Str := Str.mk (Array.mk [nat_lit 105,nat_lit 100])
noncomputable def q119 : Str := Str.mk (Array.mk [nat_lit 105,nat_lit 110,nat_lit 112,nat_lit 117,nat_lit 116])
noncomputable def q120 : Str := Str.mk (Array.mk [nat_lit 105,nat_lit 115,nat_lit 115,nat_lit 117,nat_lit 98,nat_lit 99,nat_lit 108,nat_lit 97,nat_lit 115,nat_lit 115])
noncomputable def q121 : Str := Str.mk (Array.mk [nat_lit 105,nat_lit 116,nat_lit 101,nat_lit 114])
noncomputable def q122 : Str := Str.mk (Array.mk [nat_lit 97,nat_lit 105,nat_lit 116,nat_lit 101,nat_lit 114])
noncomputable def q123 : Str := Str.mk (Array.mk [nat_lit 108,nat_lit 101,nat_lit 110])
noncomputable def q124 : Str := Str.mk (Array.mk [nat_lit 108,nat_lit 111,nat_lit 99,nat_lit 97,nat_lit 108,nat_lit 115])
noncomputable def q125 : Str := Str.mk (Array.mk [nat_lit 109,nat_lit 105,nat_lit 110])
noncomputable def q126 : Str := Str.mk (Array.mk [nat_lit 110,nat_lit 101,nat_lit 120,nat_lit 116])
noncomputable def q127 : Str := Str.mk (Array.mk [nat_lit 97,nat_lit 110,nat_lit 101,nat_lit 120,nat_lit 116])
noncomputable def q128 : Str := Str.mk (Array.mk [nat_lit 111,nat_lit 99,nat_lit 116])
noncomputable def q129 : Str := Str.mk (Array.mk [nat_lit 111,nat_lit 114,nat_lit 100])
noncomputable def q130 : Str := Str.mk (Array.mk [nat_lit 112,nat_lit 111,nat_lit 119])
noncomputable def q131 : Str := Str.mk (Array.mk [nat_lit 112,nat_lit 114,nat_lit 105,nat_lit 110,nat_lit 116])
noncomputable def q132 : Str := Str.mk (Array.mk [nat_lit 114,nat_lit 101,nat_lit 112,nat_lit 114])
noncomputable def q133 : Str := Str.mk (Array.mk [nat_lit 114,nat_lit 111,nat_lit 117,nat_lit 110,nat_lit 100])
noncomputable def q134 : Str := Str.mk (Array.mk [nat_lit 115,nat_lit 101,nat_lit 116,nat_lit 97,nat_lit 116,nat_lit 116,nat_lit 114])
noncomputable def q135 : Str := Str.mk (Array.mk [nat_lit 115,nat_lit 111,nat_lit 114,nat_lit 116,nat_lit 101,nat_lit 100])
noncomputable def q136 : Str := Str.mk (Array.mk [nat_lit 115,nat_lit 117,nat_lit 109])
noncomputable def q137 : Str := Str.mk (Array.mk [nat_lit 118,nat_lit 97,nat_lit 114,nat_lit 115])
noncomputable def q138 : Str := Str.mk (Array.mk [nat_lit 78,nat_lit 111,nat_lit 110,nat_lit 101])
noncomputable def q139 : Str := Str.mk (Array.mk [nat_lit 69,nat_lit 108,nat_lit 108,nat_lit 105,nat_lit 112,nat_lit 115,nat_lit 105,nat_lit 115])
noncomputable def q140 : Str := Str.mk (Array.mk [nat_lit 70,nat_lit 97,nat_lit 108,nat_lit 115,nat_lit 101])
noncomputable def q141 : Str := Str.mk (Array.mk [nat_lit 84,nat_lit 114,nat_lit 117,nat_lit 101])
noncomputable def q142 : Str := Str.mk (Array.mk [nat_lit 98,nat_lit 111,nat_lit 111,nat_lit 108])
noncomputable def q143 : Str := Str.mk (Array.mk [nat_lit 109,nat_lit 101,nat_lit 109,nat_lit 111,nat_lit 114,nat_lit 121,nat_lit 118,nat_lit 105,nat_lit 101,nat_lit 119])
noncomputable def q144 : Str := Str.mk (Array.mk [nat_lit 98,nat_lit 121,nat_lit 116,nat_lit 101,nat_lit 97,nat_lit 114,nat_lit 114,nat_lit 97,nat_lit 121])
noncomputable def q145 : Str := Str.mk (Array.mk [nat_lit 98,nat_lit 121,nat_lit 116,nat_lit 101,nat_lit 115])
noncomputable def q146 : Str := Str.mk (Array.mk [nat_lit 99,nat_lit 111,nat_lit 109,nat_lit 112,nat_lit 108,nat_lit 101,nat_lit 120])
noncomputable def q147 : Str := Str.mk (Array.mk [nat_lit 100,nat_lit 105,nat_lit 99,nat_lit 116])
noncomputable def q148 : Str := Str.mk (Array.mk [nat_lit 101,nat_lit 110,nat_lit 117,nat_lit 109,nat_lit 101,nat_lit 114,nat_lit 97,nat_lit 116,nat_lit 101])
noncomputable def q149 : Str := Str.mk (Array.mk [nat_lit 102,nat_lit 105,nat_lit 108,nat_lit 116,nat_lit 101,nat_lit 114])
noncomputable def q150 : Str := Str.mk (Array.mk [nat_lit 102,nat_lit 114,nat_lit 111,nat_lit 122,nat_lit 101,nat_lit 110,nat_lit 115,nat_lit 101,nat_lit 116])
noncomputable def q151 : Str := Str.mk (Array.mk [nat_lit 105,nat_lit 110,nat_lit 116])
noncomputable def q152 : Str := Str.mk (Array.mk [nat_lit 108,nat_lit 105,nat_lit 115,nat_lit 116])
noncomputable def q153 : Str := Str.mk (Array.mk [nat_lit 109,nat_lit 97,nat_lit 112])
noncomputable def q154 : Str := Str.mk (Array.mk [nat_lit 111,nat_lit 98,nat_lit 106,nat_lit 101,nat_lit 99,nat_lit 116])
noncomputable def q155 : Str := Str.mk (Array.mk [nat_lit 114,nat_lit 101,nat_lit 118,nat_lit 101,nat_lit 114,nat_lit 115,nat_lit 101,nat_lit 100])
noncomputable def q156 : Str := Str.mk (Array.mk [nat_lit 115,nat_lit 101,nat_lit 116])
noncomputable def q157 : Str := Str.mk (Array.mk [nat_lit 115,nat_lit 108,nat_lit 105,nat_lit 99,nat_lit 101])
noncomputable def q158 : Str := Str.mk (Array.mk [nat_lit 115,nat_lit 116,nat_lit 97,nat_lit 116,nat_lit 105,nat_lit 99,nat_lit 109,nat_lit 101,nat_lit 116,nat_lit 104,nat_lit 111,nat_lit 100])
noncomputable def q159 : Str := Str.mk (Array.mk [nat_lit 115,nat_lit 116,nat_lit 114])
noncomputable def q160 : Str := Str.mk (Array.mk [nat_lit 115,nat_lit 117,nat_lit 112,nat_lit 101,nat_lit 114])
noncomputable def q161 : Str := Str.mk (Array.mk [nat_lit 116,nat_lit 117,nat_lit 112,nat_lit 108,nat_lit 101])
noncomputable def q162 : Str := Str.mk (Array.mk [nat_lit 122,nat_lit 105,nat_lit 112])
noncomputable def q163 : Str := Str.mk (Array.mk [nat_lit 95,nat_lit 95,nat_lit 100,nat_lit 101,nat_lit 98,nat_lit 117,nat_lit 103,nat_lit 95,nat_lit 95])
noncomputable def q164 : Str := Str.mk (Array.mk [nat_lit 66,nat_lit 97,nat_lit 115,nat_lit 101,nat_lit 69,nat_lit 120,nat_lit 99,nat_lit 101,nat_lit 112,nat_lit 116,nat_lit 105,nat_lit 111,nat_lit 110])
noncomputable def q165 : Str := Str.mk (Array.mk [nat_lit 66,nat_lit 97,nat_lit 115,nat_lit 101,nat_lit 69,nat_lit 120,nat_lit 99,nat_lit 101,nat_lit 112,nat_lit 116,nat_lit 105,nat_lit 111,nat_lit 110,nat_lit 71,nat_lit 114,nat_lit 111,nat_lit 117,nat_lit 112])
noncomputable def q166 : Str := Str.mk (Array.mk [nat_lit 69,nat_lit 120,nat_lit 99,nat_lit 101,nat_lit 112,nat_lit 116,nat_lit 105,nat_lit 111,nat_lit 110])
noncomputable def q167 : Str := Str.mk (Array.mk [nat_lit 71,nat_lit 101,nat_lit 110,nat_lit 101,nat_lit 114,nat_lit 97,nat_lit 116,nat_lit 111,nat_lit 114,nat_lit 69,nat_lit 120,nat_lit 105,nat_lit 116])
noncomputable def q168 : Str := Str.mk (Array.mk [nat_lit 75,nat_lit 101,nat_lit 121,nat_lit 98,nat_lit 111,nat_lit 97,nat_lit 114,nat_lit 100,nat_lit 73,nat_lit 110,nat_lit 116,nat_lit 101,nat_lit 114,nat_lit 114,nat_lit 117,nat_lit 112,nat_lit 116])
noncomputable def q169 : Str := Str.mk (Array.mk [nat_lit 83,nat_lit 121,nat_lit 115,nat_lit 116,nat_lit 101,nat_lit 109,nat_lit 69,nat_lit 120,nat_lit 105,nat_lit 116])
noncomputable def q170 : Str := Str.mk (Array.mk [nat_lit 65,nat_lit 114,nat_lit 105,nat_lit 116,nat_lit 104,nat_lit 109,nat_lit 101,nat_lit 116,nat_lit 105,nat_lit 99,nat_lit 69,nat_lit 114,nat_lit 114,nat_lit 111,nat_lit 114])
noncomputable def q171 : Str := Str.mk (Array.mk [nat_lit 65,nat_lit 115,nat_lit 115,nat_lit 101,nat_lit 114,nat_lit 116,nat_lit 105,nat_lit 111,nat_lit 110,nat_lit 69,nat_lit 114,nat_lit 114,nat_lit 111,nat_lit 114])
noncomputable def q172 : Str := Str.mk (Array.mk [nat_lit 65,nat_lit 116,nat_lit 116,nat_lit 114,nat_lit 105,nat_lit 98,nat_lit 117,nat_lit 116,nat_lit 101,nat_lit 69,nat_lit 114,nat_lit 114,nat_lit 111,nat_lit 114])
noncomputable def q173 : Str := Str.mk (Array.mk [nat_lit 66,nat_lit 117,nat_lit 102,nat_lit 102,nat_lit 101,nat_lit 114,nat_lit 69,nat_lit 114,nat_lit 114,nat_lit 111,nat_lit 114])
noncomputable def q174 : Str := Str.mk (Array.mk [nat_lit 69,nat_lit 79,nat_lit 70,nat_lit 69,nat_lit 114,nat_lit 114,nat_lit 111,nat_lit 114])
noncomputable def q175 : Str := Str.mk (Array.mk [nat_lit 73,nat_lit 109,nat_lit 112,nat_lit 111,nat_lit 114,nat_lit 116,nat_lit 69,nat_lit 114,nat_lit 114,nat_lit 111,nat_lit 114])
noncomputable def q176 : Str := Str.mk (Array.mk [nat_lit 76,nat_lit 111,nat_lit 111,nat_lit 107,nat_lit 117,nat_lit 112,nat_lit 69,nat_lit 114,nat_lit 114,nat_lit 111,nat_lit 114])
noncomputable def q177 : Str := Str.mk (Array.mk [nat_lit 77,nat_lit 101,nat_lit 109,nat_lit 111,nat_lit 114,nat_lit 121,nat_lit 69,nat_lit 114,nat_lit 114,nat_lit 111,nat_lit 114])
noncomputable def q178 : Str := Str.mk (Array.mk [nat_lit 78,nat_lit 97,nat_lit 109,nat_lit 101,nat_lit 69,nat_lit 114,nat_lit 114,nat_lit 111,nat_lit 114])
noncomputable def q179 : Str := Str.mk (Array.mk [nat_lit 79,nat_lit 83,nat_lit 69,nat_lit 114,nat_lit 114,nat_lit 111,nat_lit 114])
noncomputable def q180 : Str := Str.mk (Array.mk [nat_lit 82,nat_lit 101,nat_lit 102,nat_lit 101,nat_lit 114,nat_lit 101,nat_lit 110,nat_lit 99,nat_lit 101,nat_lit 69,nat_lit 114,nat_lit 114,nat_lit 111,nat_lit 114])
noncomputable def q181 : Str := Str.mk (Array.mk [nat_lit 82,nat_lit 117,nat_lit 110,nat_lit 116,nat_lit 105,nat_lit 109,nat_lit 101,nat_lit 69,nat_lit 114,nat_lit 114,nat_lit 111,nat_lit 114])
noncomputable def q182 : Str := Str.mk (Array.mk [nat_lit 83,nat_lit 116,nat_lit 111,nat_lit 112,nat_lit 65,nat_lit 115,nat_lit 121,nat_lit 110,nat_lit 99,nat_lit 73,nat_lit 116,nat_lit 101,nat_lit 114,nat_lit 97,nat_lit 116,nat_lit 105,nat_lit 111,nat_lit 110])
noncomputable def q183 : Str := Str.mk (Array.mk [nat_lit 83,nat_lit 116,nat_lit 111,nat_lit 112,nat_lit 73,nat_lit 116,nat_lit 101,nat_lit 114,nat_lit 97,nat_lit 116,nat_lit 105,nat_lit 111,nat_lit 110])
noncomputable def q184 : Str := Str.mk (Array.mk [nat_lit 83,nat_lit 121,nat_lit 110,nat_lit 116,nat_lit 97,nat_lit 120,nat_lit 69,nat_lit 114,nat_lit 114,nat_lit 111,nat_lit 114])
noncomputable def q185 : Str := Str.mk (Array.mk [nat_lit 83,nat_lit 121,nat_lit 115,nat_lit 116,nat_lit 101,nat_lit 109,nat_lit 69,nat_lit 114,nat_lit 114,nat_lit 111,nat_lit 114])
noncomputable def q186 : Str := Str.mk (Array.mk [nat_lit 84,nat_lit 121,nat_lit 112,nat_lit 101,nat_lit 69,nat_lit 114,nat_lit 114,nat_lit 111,nat_lit 114])
noncomputable def q187 : Str := Str.mk (Array.mk [nat_lit 86,nat_lit 97,nat_lit 108,nat_lit 117,nat_lit 101,nat_lit 69,nat_lit 114,nat_lit 114,nat_lit 111,nat_lit 114])
noncomputable def q188 : Str := Str.mk (Array.mk [nat_lit 87,nat_lit 97,nat_lit 114,nat_lit 110,nat_lit 105,nat_lit 110,nat_lit 103])
noncomputable def q189 : Str := Str.mk (Array.mk [nat_lit 70,nat_lit 108,nat_lit 111,nat_lit 97,nat_lit 116,nat_lit 105,nat_lit 110,nat_lit 103,nat_lit 80,nat_lit 111,nat_lit 105,nat_lit 110,nat_lit 116,nat_lit 69,nat_lit 114,nat_lit 114,nat_lit 111,nat_lit 114])
noncomputable def q190 : Str := Str.mk (Array.mk [nat_lit 79,nat_lit 118,nat_lit 101,nat_lit 114,nat_lit 102,nat_lit 108,nat_lit 111,nat_lit 119,nat_lit 69,nat_lit 114,nat_lit 114,nat_lit 111,nat_lit 114])
noncomputable def q191 : Str := Str.mk (Array.mk [nat_lit 90,nat_lit 101,nat_lit 114,nat_lit 111,nat_lit 68,nat_lit 105,nat_lit 118,nat_lit 105,nat_lit 115,nat_lit 105,nat_lit 111,nat_lit 110,nat_lit 69,nat_lit 114,nat_lit 114,nat_lit 111,nat_lit 114])
noncomputable def q192 : Str := Str.mk (Array.mk [nat_lit 66,nat_lit 121,nat_lit 116,nat_lit 101,nat_lit 115,nat_lit 87,nat_lit 97,nat_lit 114,nat_lit 110,nat_lit 105,nat_lit 110,nat_lit 103])
noncomputable def q193 : Str := Str.mk (Array.mk [nat_lit 68,nat_lit 101,nat_lit 112,nat_lit 114,nat_lit 101,nat_lit 99,nat_lit 97,nat_lit 116,nat_lit 105,nat_lit 111,nat_lit 110,nat_lit 87,nat_lit 97,nat_lit 114,nat_lit 110,nat_lit 105,nat_lit 110,nat_lit 103])
noncomputable def q194 : Str := Str.mk (Array.mk [nat_lit 69,nat_lit 110,nat_lit 99,nat_lit 111,nat_lit 100,nat_lit 105,nat_lit 110,nat_lit 103,nat_lit 87,nat_lit 97,nat_lit 114,nat_lit 110,nat_lit 105,nat_lit 110,nat_lit 103])
noncomputable def q195 : Str := Str.mk (Array.mk [nat_lit 70,nat_lit 117,nat_lit 116,nat_lit 117,nat_lit 114,nat_lit 101,nat_lit 87,nat_lit 97,nat_lit 114,nat_lit 110,nat_lit 105,nat_lit 110,nat_lit 103])
noncomputable def q196 : Str := Str.mk (Array.mk [nat_lit 73,nat_lit 109,nat_lit 112,nat_lit 111,nat_lit 114,nat_lit 116,nat_lit 87,nat_lit 97,nat_lit 114,nat_lit 110,nat_lit 105,nat_lit 110,nat_lit 103])
noncomputable def q197 : Str := Str.mk (Array.mk [nat_lit 80,nat_lit 101,nat_lit 110,nat_lit 100,nat_lit 105,nat_lit 110,nat_lit 103,nat_lit 68,nat_lit 101,nat_lit 112,nat_lit 114,nat_lit 101,nat_lit 99,nat_lit 97,nat_lit 116,nat_lit 105,nat_lit 111,nat_lit 110,nat_lit 87,nat_lit 97,nat_lit 114,nat_lit 110,nat_lit 105,nat_lit 110,nat_lit 103])
noncomputable def q198 : Str := Str.mk (Array.mk [nat_lit 82,nat_lit 101,nat_lit 115,nat_lit 111,nat_lit 117,nat_lit 114,nat_lit 99,nat_lit 101,nat_lit 87,nat_lit 97,nat_lit 114,nat_lit 110,nat_lit 105,nat_lit 110,nat_lit 103])
noncomputable def q199 : Str := Str.mk (Array.mk [nat_lit 82,nat_lit 117,nat_lit 110,nat_lit 116,nat_lit 105,nat_lit 109,nat_lit 101,nat_lit 87,nat_lit 97,nat_lit 114,nat_lit 110,nat_lit 105,nat_lit 110,nat_lit 103])
noncomputable def q200 : Str := Str.mk (Array.mk [nat_lit 83,nat_lit 121,nat_lit 110,nat_lit 116,nat_lit 97,nat_lit 120,nat_lit 87,nat_lit 97,nat_lit 114,nat_lit 110,nat_lit 105,nat_lit 110,nat_lit 103])
noncomputable def q201 : Str := Str.mk (Array.mk [nat_lit 85,nat_lit 110,nat_lit 105,nat_lit 99,nat_lit 111,nat_lit 100,nat_lit 101,nat_lit 87,nat_lit 97,nat_lit 114,nat_lit 110,nat_lit 105,nat_lit 110,nat_lit 103])
noncomputable def q202 : Str := Str.mk (Array.mk [nat_lit 85,nat_lit 115,nat_lit 101,nat_lit 114,nat_lit 87,nat_lit 97,nat_lit 114,nat_lit 110,nat_lit 105,nat_lit 110,nat_lit 103])
noncomputable def q203 : Str := Str.mk (Array.mk [nat_lit 66,nat_lit 108,nat_lit 111,nat_lit 99,nat_lit 107,nat_lit 105,nat_lit 110,nat_lit 103,nat_lit 73,nat_lit 79,nat_lit 69,nat_lit 114,nat_lit 114,nat_lit 111,nat_lit 114])
noncomputable def q204 : Str := Str.mk (Array.mk [nat_lit 67,nat_lit 104,nat_lit 105,nat_lit 108,nat_lit 100,nat_lit 80,nat_lit 114,nat_lit 111,nat_lit 99,nat_lit 101,nat_lit 115,nat_lit 115,nat_lit 69,nat_lit 114,nat_lit 114,nat_lit 111,nat_lit 114])
noncomputable def q205 : Str := Str.mk (Array.mk [nat_lit 67,nat_lit 111,nat_lit 110,nat_lit 110,nat_lit 101,nat_lit 99,nat_lit 116,nat_lit 105,nat_lit 111,nat_lit 110,nat_lit 69,nat_lit 114,nat_lit 114,nat_lit 111,nat_lit 114])
noncomputable def q206 : Str := Str.mk (Array.mk [nat_lit 70,nat_lit 105,nat_lit 108,nat_lit 101,nat_lit 69,nat_lit 120,nat_lit 105,nat_lit 115,nat_lit 116,nat_lit 115,nat_lit 69,nat_lit 114,nat_lit 114,nat_lit 111,nat_lit 114])
noncomputable def q207 : Str := Str.mk (Array.mk [nat_lit 70,nat_lit 105,nat_lit 108,nat_lit 101,nat_lit 78,nat_lit 111,nat_lit 116,nat_lit 70,nat_lit 111,nat_lit 117,nat_lit 110,nat_lit 100,nat_lit 69,nat_lit 114,nat_lit 114,nat_lit 111,nat_lit 114])
noncomputable def q208 : Str := Str.mk (Array.mk [nat_lit 73,nat_lit 110,nat_lit 116,nat_lit 101,nat_lit 114,nat_lit 114,nat_lit 117,nat_lit 112,nat_lit 116,nat_lit 101,nat_lit 100,nat_lit 69,nat_lit 114,nat_lit 114,nat_lit 111,nat_lit 114])
noncomputable def q209 : Str := Str.mk (Array.mk [nat_lit 73,nat_lit 115,nat_lit 65,nat_lit 68,nat_lit 105,nat_lit 114,nat_lit 101,nat_lit 99,nat_lit 116,nat_lit 111,nat_lit 114,nat_lit 121,nat_lit 69,nat_lit 114,nat_lit 114,nat_lit 111,nat_lit 114])
noncomputable def q210 : Str := Str.mk (Array.mk [nat_lit 78,nat_lit 111,nat_lit 116,nat_lit 65,nat_lit 68,nat_lit 105,nat_lit 114,nat_lit 101,nat_lit 99,nat_lit 116,nat_lit 111,nat_lit 114,nat_lit 121,nat_lit 69,nat_lit 114,nat_lit 114,nat_lit 111,nat_lit 114])
noncomputable def q211 : Str := Str.mk (Array.mk [nat_lit 80,nat_lit 101,nat_lit 114,nat_lit 109,nat_lit 105,nat_lit 115,nat_lit 115,nat_lit 105,nat_lit 111,nat_lit 110,nat_lit 69,nat_lit 114,nat_lit 114,nat_lit 111,nat_lit 114])
noncomputable def q212 : Str := Str.mk (Array.mk [nat_lit 80,nat_lit 114,nat_lit 111,nat_lit 99,nat_lit 101,nat_lit 115,nat_lit 115,nat_lit 76,nat_lit 111,nat_lit 111,nat_lit 107,nat_lit 117,nat_lit 112,nat_lit 69,nat_lit 114,nat_lit 114,nat_lit 111,nat_lit 114])
noncomputable def q213 : Str := Str.mk (Array.mk [nat_lit 84,nat_lit 105,nat_lit 109,nat_lit 101,nat_lit 111,nat_lit 117,nat_lit 116,nat_lit 69,nat_lit 114,nat_lit 114,nat_lit 111,nat_lit 114])
noncomputable def q214 : Str := Str.mk (Array.mk [nat_lit 73,nat_lit 110,nat_lit 100,nat_lit 101,nat_lit 110,nat_lit 116,nat_lit 97,nat_lit 116,nat_lit 105,nat_lit 111,nat_lit 110,nat_lit 69,nat_lit 114,nat_lit 114,nat_lit 111,nat_lit 114])
noncomputable def q215 : Str := Str.mk (Array.mk [nat_lit 95,nat_lit 73,nat_lit 110,nat_lit 99,nat_lit 111,nat_lit 109,nat_lit 112,nat_lit 108,nat_lit 101,nat_lit 116,nat_lit 101,nat_lit 73,nat_lit 110,nat_lit 112,nat_lit 117,nat_lit 116,nat_lit 69,nat_lit 114,nat_lit 114,nat_lit 111,nat_lit 114])
noncomputable def q216 : Str := Str.mk (Array.mk [nat_lit 73,nat_lit 110,nat_lit 100,nat_lit 101,nat_lit 120,nat_lit 69,nat_lit 114,nat_lit 114,nat_lit 111,nat_lit 114])
noncomputable def q217 : Str := Str.mk (Array.mk [nat_lit 75,nat_lit 101,nat_lit 121,nat_lit 69,nat_lit 114,nat_lit 114,nat_lit 111,nat_lit 114])
noncomputable def q218 : Str := Str.mk (Array.mk [nat_lit 77,nat_lit 111,nat_lit 100,nat_lit 117,nat_lit 108,nat_lit 101,nat_lit 78,nat_lit 111,nat_lit 116,nat_lit 70,nat_lit 111,nat_lit 117,nat_lit 110,nat_lit 100,nat_lit 69,nat_lit 114,nat_lit 114,nat_lit 111,nat_lit 114])
noncomputable def q219 : Str := Str.mk (Array.mk [nat_lit 78,nat_lit 111,nat_lit 116,nat_lit 73,nat_lit 109,nat_lit 112,nat_lit 108,nat_lit 101,nat_lit 109,nat_lit 101,nat_lit 110,nat_lit 116,nat_lit 101,nat_lit 100,nat_lit 69,nat_lit 114,nat_lit 114,nat_lit 111,nat_lit 114])
noncomputable def q220 : Str := Str.mk (Array.mk [nat_lit 80,nat_lit 121,nat_lit 116,nat_lit 104,nat_lit 111,nat_lit 110,nat_lit 70,nat_lit 105,nat_lit 110,nat_lit 97,nat_lit 108,nat_lit 105,nat_lit 122,nat_lit 97,nat_lit 116,nat_lit 105,nat_lit 111,nat_lit 110,nat_lit 69,nat_lit 114,nat_lit 114,nat_lit 111,nat_lit 114])
noncomputable def q221 : Str := Str.mk (Array.mk [nat_lit 82,nat_lit 101,nat_lit 99,nat_lit 117,nat_lit 114,nat_lit 115,nat_lit 105,nat_lit 111,nat_lit 110,nat_lit 69,nat_lit 114,nat_lit 114,nat_lit 111,nat_lit 114])
noncomputable def q222 : Str := Str.mk (Array.mk [nat_lit 85,nat_lit 110,nat_lit 98,nat_lit 111,nat_lit 117,nat_lit 110,nat_lit 100,nat_lit 76,nat_lit 111,nat_lit 99,nat_lit 97,nat_lit 108,nat_lit 69,nat_lit 114,nat_lit 114,nat_lit 111,nat_lit 114])
noncomputable def q223 : Str := Str.mk (Array.mk [nat_lit 85,nat_lit 110,nat_lit 105,nat_lit 99,nat_lit 111,nat_lit 100,nat_lit 101,nat_lit 69,nat_lit 114,nat_lit 114,nat_lit 111,nat_lit 114])
noncomputable def q224 : Str := Str.mk (Array.mk [nat_lit 66,nat_lit 114,nat_lit 111,nat_lit 107,nat_lit 101,nat_lit 110,nat_lit 80,nat_lit 105,nat_lit 112,nat_lit 101,nat_lit 69,nat_lit 114,nat_lit 114,nat_lit 111,nat_lit 114])
noncomputable def q225 : Str := Str.mk (Array.mk [nat_lit 67,nat_lit 111,nat_lit 110,nat_lit 110,nat_lit 101,nat_lit 99,nat_lit 116,nat_lit 105,nat_lit 111,nat_lit 110,nat_lit 65,nat_lit 98,nat_lit 111,nat_lit 114,nat_lit 116,nat_lit 101,nat_lit 100,nat_lit 69,nat_lit 114,nat_lit 114,nat_lit 111,nat_lit 114])
noncomputable def q226 : Str := Str.mk (Array.mk [nat_lit 67,nat_lit 111,nat_lit 110,nat_lit 110,nat_lit 101,nat_lit 99,nat_lit 116,nat_lit 105,nat_lit 111,nat_lit 110,nat_lit 82,nat_lit 101,nat_lit 102,nat_lit 117,nat_lit 115,nat_lit 101,nat_lit 100,nat_lit 69,nat_lit 114,nat_lit 114,nat_lit 111,nat_lit 114])
noncomputable def q227 : Str := Str.mk (Array.mk [nat_lit 67,nat_lit 111,nat_lit 110,nat_lit 110,nat_lit 101,nat_lit 99,nat_lit 116,nat_lit 105,nat_lit 111,nat_lit 110,nat_lit 82,nat_lit 101,nat_lit 115,nat_lit 101,nat_lit 116,nat_lit 69,nat_lit 114,nat_lit 114,nat_lit 111,nat_lit 114])
noncomputable def q228 : Str := Str.mk (Array.mk [nat_lit 84,nat_lit 97,nat_lit 98,nat_lit 69,nat_lit 114,nat_lit 114,nat_lit 111,nat_lit 114])
noncomputable def q229 : Str := Str.mk (Array.mk [nat_lit 85,nat_lit 110,nat_lit 105,nat_lit 99,nat_lit 111,nat_lit 100,nat_lit 101,nat_lit 68,nat_lit 101,nat_lit 99,nat_lit 111,nat_lit 100,nat_lit 101,nat_lit 69,nat_lit 114,nat_lit 114,nat_lit 111,nat_lit 114])
noncomputable def q230 : Str := Str.mk (Array.mk [nat_lit 85,nat_lit 110,nat_lit 105,nat_lit 99,nat_lit 111,nat_lit 100,nat_lit 101,nat_lit 69,nat_lit 110,nat_lit 99,nat_lit 111,nat_lit 100,nat_lit 101,nat_lit 69,nat_lit 114,nat_lit 114,nat_lit 111,nat_lit 114])
noncomputable def q231 : Str := Str.mk (Array.mk [nat_lit 85,nat_lit 110,nat_lit 105,nat_lit 99,nat_lit 111,nat_lit 100,nat_lit 101,nat_lit 84,nat_lit 114,nat_lit 97,nat_lit 110,nat_lit 115,nat_lit 108,nat_lit 97,nat_lit 116,nat_lit 101,nat_lit 69,nat_lit 114,nat_lit 114,nat_lit 111,nat_lit 114])
noncomputable def q232 : Str := Str.mk (Array.mk [nat_lit 69,nat_lit 120,nat_lit 99,nat_lit 101,nat_lit 112,nat_lit 116,nat_lit 105,nat_lit 111,nat_lit 110,nat_lit 71,nat_lit 114,nat_lit 111,nat_lit 117,nat_lit 112])
noncomputable def q233 : Str := Str.mk (Array.mk [nat_lit 69,nat_lit 110,nat_lit 118,nat_lit 105,nat_lit 114,nat_lit 111,nat_lit 110,nat_lit 109,nat_lit 101,nat_lit 110,nat_lit 116,nat_lit 69,nat_lit 114,nat_lit 114,nat_lit 111,nat_lit 114])
noncomputable def q234 : Str := Str.mk (Array.mk [nat_lit 73,nat_lit 79,nat_lit 69,nat_lit 114,nat_lit 114,nat_lit 111,nat_lit 114])
noncomputable def q235 : Str := Str.mk (Array.mk [nat_lit 111,nat_lit 112,nat_lit 101,nat_lit 110])
noncomputable def q236 : Str := Str.mk (Array.mk [nat_lit 113,nat_lit 117,nat_lit 105,nat_lit 116])
noncomputable def q237 : Str := Str.mk (Array.mk [nat_lit 101,nat_lit 120,nat_lit 105,nat_lit 116])
noncomputable def q238 : Str := Str.mk (Array.mk [nat_lit 99,nat_lit 111,nat_lit 112,nat_lit 121,nat_lit 114,nat_lit 105,nat_lit 103,nat_lit 104,nat_lit 116])
noncomputable def q239 : Str := Str.mk (Array.mk [nat_lit 99,nat_lit 114,nat_lit 101,nat_lit 100,nat_lit 105,nat_lit 116,nat_lit 115])
noncomputable def q240 : Str := Str.mk (Array.mk [nat_lit 108,nat_lit 105,nat_lit 99,nat_lit 101,nat_lit 110,nat_lit 115,nat_lit 101])
noncomputable def q241 : Str := Str.mk (Array.mk [nat_lit 104,nat_lit 101,nat_lit 108,nat_lit 112])
noncomputable def q242 : Str := Str.mk (Array.mk [nat_lit 95,nat_lit 95,nat_lit 109,nat_lit 97,nat_lit 105,nat_lit 110,nat_lit 95,nat_lit 95])
noncomputable def q243 : Str := Str.mk (Array.mk [nat_lit 109,nat_lit 97,nat_lit 116,nat_lit 104])
noncomputable def q244 : Str := Str.mk (Array.mk [nat_lit 105,nat_lit 109,nat_lit 112,nat_lit 111,nat_lit 114,nat_lit 116,nat_lit 46,nat_lit 108,nat_lit 111,nat_lit 97,nat_lit 100,nat_lit 101,nat_lit 100,nat_lit 46,nat_lit 109,nat_lit 97,nat_lit 116,nat_lit 104])
noncomputable def q245 : Str := Str.mk (Array.mk [nat_lit 99,nat_lit 108,nat_lit 97,nat_lit 115,nat_lit 115,nat_lit 46,nat_lit 95,nat_lit 102,nat_lit 114,nat_lit 111,nat_lit 122,nat_lit 101,nat_lit 110,nat_lit 95,nat_lit 105,nat_lit 109,nat_lit 112,nat_lit 111,nat_lit 114,nat_lit 116,nat_lit 108,nat_lit 105,nat_lit 98,nat_lit 95,nat_lit 101,nat_lit 120,nat_lit 116,nat_lit 101,nat_lit 114,nat_lit 110,nat_lit 97,nat_lit 108,nat_lit 46,nat_lit 95,nat_lit 76,nat_lit 111,nat_lit 97,nat_lit 100,nat_lit 101,nat_lit 114,nat_lit 66,nat_lit 97,nat_lit 115,nat_lit 105,nat_lit 99,nat_lit 115])
noncomputable def q246 : Str := Str.mk (Array.mk [nat_lit 119,nat_lit 97,nat_lit 116,nat_lit 99,nat_lit 104,nat_lit 101,nat_lit 100,nat_lit 46,nat_lit 105,nat_lit 109,nat_lit 112,nat_lit 111,nat_lit 114,nat_lit 116])
noncomputable def q247 : Str := Str.mk (Array.mk [nat_lit 99,nat_lit 108,nat_lit 97,nat_lit 115,nat_lit 115,nat_lit 46,nat_lit 95,nat_lit 102,nat_lit 114,nat_lit 111,nat_lit 122,nat_lit 101,nat_lit 110,nat_lit 95,nat_lit 105,nat_lit 109,nat_lit 112,nat_lit 111,nat_lit 114,nat_lit 116,nat_lit 108,nat_lit 105,nat_lit 98,nat_lit 95,nat_lit 101,nat_lit 120,nat_lit 116,nat_lit 101,nat_lit 114,nat_lit 110,nat_lit 97,nat_lit 108,nat_lit 46,nat_lit 70,nat_lit 105,nat_lit 108,nat_lit 101,nat_lit 76,nat_lit 111,nat_lit 97,nat_lit 100,nat_lit 101,nat_lit 114])
noncomputable def q248 : Str := Str.mk (Array.mk [nat_lit 99,nat_lit 108,nat_lit 97,nat_lit 115,nat_lit 115,nat_lit 46,nat_lit 95,nat_lit 102,nat_lit 114,nat_lit 111,nat_lit 122,nat_lit 101,nat_lit 110,nat_lit 95,nat_lit 105,nat_lit 109,nat_lit 112,nat_lit 111,nat_lit 114,nat_lit 116,nat_lit 108,nat_lit 105,nat_lit 98,nat_lit 95,nat_lit 101,nat_lit 120,nat_lit 116,nat_lit 101,nat_lit 114,nat_lit 110,nat_lit 97,nat_lit 108,nat_lit 46,nat_lit 69,nat_lit 120,nat_lit 116,nat_lit 101,nat_lit 110,nat_lit 115,nat_lit 105,nat_lit 111,nat_lit 110,nat_lit 70,nat_lit 105,nat_lit 108,nat_lit 101,nat_lit 76,nat_lit 111,nat_lit 97,nat_lit 100,nat_lit 101,nat_lit 114])
noncomputable def q249 : Str := Str.mk (Array.mk [nat_lit 99,nat_lit 108,nat_lit 97,nat_lit 115,nat_lit 115,nat_lit 46,nat_lit 95,nat_lit 102,nat_lit 114,nat_lit 111,nat_lit 122,nat_lit 101,nat_lit 110,nat_lit 95,nat_lit 105,nat_lit 109,nat_lit 112,nat_lit 111,nat_lit 114,nat_lit 116,nat_lit 108,nat_lit 105,nat_lit 98,nat_lit 46,nat_lit 77,nat_lit 111,nat_lit 100,nat_lit 117,nat_lit 108,nat_lit 101,nat_lit 83,nat_lit 112,nat_lit 101,nat_lit 99])
noncomputable def q250 : Str := Str.mk (Array.mk [nat_lit 115,nat_lit 121,nat_lit 115,nat_lit 46,nat_lit 109,nat_lit 111,nat_lit 100,nat_lit 117,nat_lit 108,nat_lit 101,nat_lit 115,nat_lit 46,nat_lit 98,nat_lit 111,nat_lit 111,nat_lit 107,nat_lit 101,nat_lit 100,nat_lit 45,nat_lit 101,nat_lit 112,nat_lit 111,nat_lit 99,nat_lit 104])
noncomputable def q251 : Str := Str.mk (Array.mk [nat_lit 105,nat_lit 109,nat_lit 112,nat_lit 111,nat_lit 114,nat_lit 116,nat_lit 46,nat_lit 108,nat_lit 97,nat_lit 116,nat_lit 101,nat_lit 114,nat_lit 45,nat_lit 108,nat_lit 97,nat_lit 105,nat_lit 100,nat_lit 46,nat_lit 109,nat_lit 97,nat_lit 116,nat_lit 104])
noncomputable def q252 : Str := Str.mk (Array.mk [nat_lit 119,nat_lit 97,nat_lit 116,nat_lit 99,nat_lit 104,nat_lit 101,nat_lit 100,nat_lit 46,nat_lit 108,nat_lit 105,nat_lit 98,nat_lit 114,nat_lit 97,nat_lit 114,nat_lit 121])
noncomputable def q253 : Str := Str.mk (Array.mk [nat_lit 119,nat_lit 97,nat_lit 116,nat_lit 99,nat_lit 104,nat_lit 101,nat_lit 100,nat_lit 46,nat_lit 108,nat_lit 105,nat_lit 98,nat_lit 114,nat_lit 97,nat_lit 114,nat_lit 121,nat_lit 45,nat_lit 111,nat_lit 98,nat_lit 106,nat_lit 101,nat_lit 99,nat_lit 116,nat_lit 115])
noncomputable def q254 : Str := Str.mk (Array.mk [nat_lit 13])
noncomputable def q255 : Str := Str.mk (Array.mk [nat_lit 95,nat_lit 95,nat_lit 97,nat_lit 110,nat_lit 110,nat_lit 111,nat_lit 116,nat_lit 97,nat_lit 116,nat_lit 105,nat_lit 111,nat_lit 110,nat_lit 115,nat_lit 95,nat_lit 95])
noncomputable def q256 : Str := Str.mk (Array.mk [nat_lit 95,nat_lit 95,nat_lit 98,nat_lit 117,nat_lit 105,nat_lit 108,nat_lit 116,nat_lit 105,nat_lit 110,nat_lit 115,nat_lit 95,nat_lit 95])
noncomputable def q257 : Str := Str.mk (Array.mk [nat_lit 95,nat_lit 95,nat_lit 102,nat_lit 105,nat_lit 108,nat_lit 101,nat_lit 95,nat_lit 95])
noncomputable def q258 : Str := Str.mk (Array.mk [nat_lit 47,nat_lit 99,nat_lit 108,nat_lit 97,nat_lit 105,nat_lit 109,nat_lit 47,nat_lit 99,nat_lit 117,nat_lit 116,nat_lit 46,nat_lit 112,nat_lit 121])
noncomputable def q259 : Str := Str.mk (Array.mk [nat_lit 95,nat_lit 95,nat_lit 99,nat_lit 97,nat_lit 99,nat_lit 104,nat_lit 101,nat_lit 100,nat_lit 95,nat_lit 95])
noncomputable def q260 : Str := Str.mk (Array.mk [nat_lit 60,nat_lit 109,nat_lit 111,nat_lit 100,nat_lit 117,nat_lit 108,nat_lit 101,nat_lit 62])
noncomputable def q261 : Str := Str.mk (Array.mk [])
noncomputable def q262 : Str := Str.mk (Array.mk [nat_lit 97,nat_lit 99,nat_lit 111,nat_lit 115])
noncomputable def q263 : Str := Str.mk (Array.mk [nat_lit 97,nat_lit 99,nat_lit 111,nat_lit 115,nat_lit 104])
noncomputable def q264 : Str := Str.mk (Array.mk [nat_lit 97,nat_lit 115,nat_lit 105,nat_lit 110])
noncomputable def q265 : Str := Str.mk (Array.mk [nat_lit 97,nat_lit 115,nat_lit 105,nat_lit 110,nat_lit 104])
noncomputable def q266 : Str := Str.mk (Array.mk [nat_lit 97,nat_lit 116,nat_lit 97,nat_lit 110])
noncomputable def q267 : Str := Str.mk (Array.mk [nat_lit 97,nat_lit 116,nat_lit 97,nat_lit 110,nat_lit 50])
noncomputable def q268 : Str := Str.mk (Array.mk [nat_lit 97,nat_lit 116,nat_lit 97,nat_lit 110,nat_lit 104])
noncomputable def q269 : Str := Str.mk (Array.mk [nat_lit 99,nat_lit 98,nat_lit 114,nat_lit 116])
noncomputable def q270 : Str := Str.mk (Array.mk [nat_lit 99,nat_lit 101,nat_lit 105,nat_lit 108])
noncomputable def q271 : Str := Str.mk (Array.mk [nat_lit 99,nat_lit 111,nat_lit 112,nat_lit 121,nat_lit 115,nat_lit 105,nat_lit 103,nat_lit 110])
noncomputable def q272 : Str := Str.mk (Array.mk [nat_lit 99,nat_lit 111,nat_lit 115])
noncomputable def q273 : Str := Str.mk (Array.mk [nat_lit 99,nat_lit 111,nat_lit 115,nat_lit 104])
noncomputable def q274 : Str := Str.mk (Array.mk [nat_lit 100,nat_lit 101,nat_lit 103,nat_lit 114,nat_lit 101,nat_lit 101,nat_lit 115])
noncomputable def q275 : Str := Str.mk (Array.mk [nat_lit 100,nat_lit 105,nat_lit 115,nat_lit 116])
noncomputable def q276 : Str := Str.mk (Array.mk [nat_lit 101,nat_lit 114,nat_lit 102])
noncomputable def q277 : Str := Str.mk (Array.mk [nat_lit 101,nat_lit 114,nat_lit 102,nat_lit 99])
noncomputable def q278 : Str := Str.mk (Array.mk [nat_lit 101,nat_lit 120,nat_lit 112])
noncomputable def q279 : Str := Str.mk (Array.mk [nat_lit 101,nat_lit 120,nat_lit 112,nat_lit 50])
noncomputable def q280 : Str := Str.mk (Array.mk [nat_lit 101,nat_lit 120,nat_lit 112,nat_lit 109,nat_lit 49])
noncomputable def q281 : Str := Str.mk (Array.mk [nat_lit 102,nat_lit 97,nat_lit 99,nat_lit 116,nat_lit 111,nat_lit 114,nat_lit 105,nat_lit 97,nat_lit 108])
noncomputable def q282 : Str := Str.mk (Array.mk [nat_lit 102,nat_lit 108,nat_lit 111,nat_lit 111,nat_lit 114])
noncomputable def q283 : Str := Str.mk (Array.mk [nat_lit 102,nat_lit 109,nat_lit 97])
noncomputable def q284 : Str := Str.mk (Array.mk [nat_lit 102,nat_lit 109,nat_lit 111,nat_lit 100])
noncomputable def q285 : Str := Str.mk (Array.mk [nat_lit 102,nat_lit 114,nat_lit 101,nat_lit 120,nat_lit 112])
noncomputable def q286 : Str := Str.mk (Array.mk [nat_lit 102,nat_lit 115,nat_lit 117,nat_lit 109])
noncomputable def q287 : Str := Str.mk (Array.mk [nat_lit 103,nat_lit 97,nat_lit 109,nat_lit 109,nat_lit 97])
noncomputable def q288 : Str := Str.mk (Array.mk [nat_lit 103,nat_lit 99,nat_lit 100])
noncomputable def q289 : Str := Str.mk (Array.mk [nat_lit 105,nat_lit 115,nat_lit 99,nat_lit 108,nat_lit 111,nat_lit 115,nat_lit 101])
noncomputable def q290 : Str := Str.mk (Array.mk [nat_lit 105,nat_lit 115,nat_lit 102,nat_lit 105,nat_lit 110,nat_lit 105,nat_lit 116,nat_lit 101])
noncomputable def q291 : Str := Str.mk (Array.mk [nat_lit 105,nat_lit 115,nat_lit 105,nat_lit 110,nat_lit 102])
noncomputable def q292 : Str := Str.mk (Array.mk [nat_lit 105,nat_lit 115,nat_lit 110,nat_lit 97,nat_lit 110])
noncomputable def q293 : Str := Str.mk (Array.mk [nat_lit 105,nat_lit 115,nat_lit 113,nat_lit 114,nat_lit 116])
noncomputable def q294 : Str := Str.mk (Array.mk [nat_lit 108,nat_lit 99,nat_lit 109])
noncomputable def q295 : Str := Str.mk (Array.mk [nat_lit 108,nat_lit 100,nat_lit 101,nat_lit 120,nat_lit 112])
noncomputable def q296 : Str := Str.mk (Array.mk [nat_lit 108,nat_lit 103,nat_lit 97,nat_lit 109,nat_lit 109,nat_lit 97])
noncomputable def q297 : Str := Str.mk (Array.mk [nat_lit 108,nat_lit 111,nat_lit 103])
noncomputable def q298 : Str := Str.mk (Array.mk [nat_lit 108,nat_lit 111,nat_lit 103,nat_lit 49,nat_lit 112])
noncomputable def q299 : Str := Str.mk (Array.mk [nat_lit 108,nat_lit 111,nat_lit 103,nat_lit 49,nat_lit 48])
noncomputable def q300 : Str := Str.mk (Array.mk [nat_lit 108,nat_lit 111,nat_lit 103,nat_lit 50])
noncomputable def q301 : Str := Str.mk (Array.mk [nat_lit 109,nat_lit 111,nat_lit 100,nat_lit 102])
noncomputable def q302 : Str := Str.mk (Array.mk [nat_lit 114,nat_lit 97,nat_lit 100,nat_lit 105,nat_lit 97,nat_lit 110,nat_lit 115])
noncomputable def q303 : Str := Str.mk (Array.mk [nat_lit 114,nat_lit 101,nat_lit 109,nat_lit 97,nat_lit 105,nat_lit 110,nat_lit 100,nat_lit 101,nat_lit 114])
noncomputable def q304 : Str := Str.mk (Array.mk [nat_lit 115,nat_lit 105,nat_lit 110])
noncomputable def q305 : Str := Str.mk (Array.mk [nat_lit 115,nat_lit 105,nat_lit 110,nat_lit 104])
noncomputable def q306 : Str := Str.mk (Array.mk [nat_lit 115,nat_lit 113,nat_lit 114,nat_lit 116])
noncomputable def q307 : Str := Str.mk (Array.mk [nat_lit 116,nat_lit 97,nat_lit 110])
noncomputable def q308 : Str := Str.mk (Array.mk [nat_lit 116,nat_lit 97,nat_lit 110,nat_lit 104])
noncomputable def q309 : Str := Str.mk (Array.mk [nat_lit 115,nat_lit 117,nat_lit 109,nat_lit 112,nat_lit 114,nat_lit 111,nat_lit 100])
noncomputable def q310 : Str := Str.mk (Array.mk [nat_lit 116,nat_lit 114,nat_lit 117,nat_lit 110,nat_lit 99])
noncomputable def q311 : Str := Str.mk (Array.mk [nat_lit 112,nat_lit 114,nat_lit 111,nat_lit 100])
noncomputable def q312 : Str := Str.mk (Array.mk [nat_lit 112,nat_lit 101,nat_lit 114,nat_lit 109])
noncomputable def q313 : Str := Str.mk (Array.mk [nat_lit 99,nat_lit 111,nat_lit 109,nat_lit 98])
noncomputable def q314 : Str := Str.mk (Array.mk [nat_lit 110,nat_lit 101,nat_lit 120,nat_lit 116,nat_lit 97,nat_lit 102,nat_lit 116,nat_lit 101,nat_lit 114])
noncomputable def q315 : Str := Str.mk (Array.mk [nat_lit 117,nat_lit 108,nat_lit 112])
noncomputable def q316 : Str := Str.mk (Array.mk [nat_lit 47,nat_lit 110,nat_lit 105,nat_lit 120,nat_lit 47,nat_lit 115,nat_lit 116,nat_lit 111,nat_lit 114,nat_lit 101,nat_lit 47,nat_lit 119,nat_lit 106,nat_lit 49,nat_lit 102,nat_lit 53,nat_lit 54,nat_lit 113,nat_lit 107,nat_lit 121,nat_lit 52,nat_lit 112,nat_lit 109,nat_lit 106,nat_lit 99,nat_lit 55,nat_lit 108,nat_lit 48,nat_lit 114,nat_lit 54,nat_lit 98,nat_lit 54,nat_lit 108,nat_lit 55,nat_lit 119,nat_lit 104,nat_lit 110,nat_lit 110,nat_lit 119,nat_lit 55,nat_lit 104,nat_lit 112,nat_lit 54,nat_lit 45,nat_lit 112,nat_lit 121,nat_lit 116,nat_lit 104,nat_lit 111,nat_lit 110,nat_lit 51,nat_lit 45,nat_lit 51,nat_lit 46,nat_lit 49,nat_lit 51,nat_lit 46,nat_lit 49,nat_lit 53,nat_lit 47,nat_lit 108,nat_lit 105,nat_lit 98,nat_lit 47,nat_lit 112,nat_lit 121,nat_lit 116,nat_lit 104,nat_lit 111,nat_lit 110,nat_lit 51,nat_lit 46,nat_lit 49,nat_lit 51,nat_lit 47,nat_lit 108,nat_lit 105,nat_lit 98,nat_lit 45,nat_lit 100,nat_lit 121,nat_lit 110,nat_lit 108,nat_lit 111,nat_lit 97,nat_lit 100,nat_lit 47,nat_lit 109,nat_lit 97,nat_lit 116,nat_lit 104,nat_lit 46,nat_lit 99,nat_lit 112,nat_lit 121,nat_lit 116,nat_lit 104,nat_lit 111,nat_lit 110,nat_lit 45,nat_lit 51,nat_lit 49,nat_lit 51,nat_lit 45,nat_lit 120,nat_lit 56,nat_lit 54,nat_lit 95,nat_lit 54,nat_lit 52,nat_lit 45,nat_lit 108,nat_lit 105,nat_lit 110,nat_lit 117,nat_lit 120,nat_lit 45,nat_lit 103,nat_lit 110,nat_lit 117,nat_lit 46,nat_lit 115,nat_lit 111])
noncomputable def q317 : Str := Str.mk (Array.mk [nat_lit 112,nat_lit 105])
noncomputable def q318 : Str := Str.mk (Array.mk [nat_lit 101])
noncomputable def q319 : Str := Str.mk (Array.mk [nat_lit 116,nat_lit 97,nat_lit 117])
noncomputable def q320 : Str := Str.mk (Array.mk [nat_lit 105,nat_lit 110,nat_lit 102])
noncomputable def q321 : Str := Str.mk (Array.mk [nat_lit 110,nat_lit 97,nat_lit 110])
noncomputable def q322 : Str := Str.mk (Array.mk [nat_lit 110,nat_lit 97,nat_lit 109,nat_lit 101])
noncomputable def q323 : Str := Str.mk (Array.mk [nat_lit 112,nat_lit 97,nat_lit 116,nat_lit 104])
noncomputable def q324 : Str := Str.mk (Array.mk [nat_lit 95,nat_lit 95,nat_lit 109,nat_lit 111,nat_lit 100,nat_lit 117,nat_lit 108,nat_lit 101,nat_lit 95,nat_lit 95])
noncomputable def q325 : Str := Str.mk (Array.mk [nat_lit 95,nat_lit 102,nat_lit 114,nat_lit 111,nat_lit 122,nat_lit 101,nat_lit 110,nat_lit 95,nat_lit 105,nat_lit 109,nat_lit 112,nat_lit 111,nat_lit 114,nat_lit 116,nat_lit 108,nat_lit 105,nat_lit 98,nat_lit 95,nat_lit 101,nat_lit 120,nat_lit 116,nat_lit 101,nat_lit 114,nat_lit 110,nat_lit 97,nat_lit 108])
noncomputable def q326 : Str := Str.mk (Array.mk [nat_lit 95,nat_lit 95,nat_lit 102,nat_lit 105,nat_lit 114,nat_lit 115,nat_lit 116,nat_lit 108,nat_lit 105,nat_lit 110,nat_lit 101,nat_lit 110,nat_lit 111,nat_lit 95,nat_lit 95])
noncomputable def q327 : Str := Str.mk (Array.mk [nat_lit 105,nat_lit 115,nat_lit 95,nat_lit 112,nat_lit 97,nat_lit 99,nat_lit 107,nat_lit 97,nat_lit 103,nat_lit 101])
noncomputable def q328 : Str := Str.mk (Array.mk [nat_lit 99,nat_lit 114,nat_lit 101,nat_lit 97,nat_lit 116,nat_lit 101,nat_lit 95,nat_lit 109,nat_lit 111,nat_lit 100,nat_lit 117,nat_lit 108,nat_lit 101])
noncomputable def q329 : Str := Str.mk (Array.mk [nat_lit 101,nat_lit 120,nat_lit 101,nat_lit 99,nat_lit 95,nat_lit 109,nat_lit 111,nat_lit 100,nat_lit 117,nat_lit 108,nat_lit 101])
noncomputable def q330 : Str := Str.mk (Array.mk [nat_lit 108,nat_lit 111,nat_lit 97,nat_lit 100,nat_lit 95,nat_lit 109,nat_lit 111,nat_lit 100,nat_lit 117,nat_lit 108,nat_lit 101])
noncomputable def q331 : Str := Str.mk (Array.mk [nat_lit 95,nat_lit 95,nat_lit 115,nat_lit 116,nat_lit 97,nat_lit 116,nat_lit 105,nat_lit 99,nat_lit 95,nat_lit 97,nat_lit 116,nat_lit 116,nat_lit 114,nat_lit 105,nat_lit 98,nat_lit 117,nat_lit 116,nat_lit 101,nat_lit 115,nat_lit 95,nat_lit 95])
noncomputable def q332 : Str := Str.mk (Array.mk [nat_lit 95,nat_lit 95,nat_lit 100,nat_lit 105,nat_lit 99,nat_lit 116,nat_lit 95,nat_lit 95])
noncomputable def q333 : Str := Str.mk (Array.mk [nat_lit 95,nat_lit 95,nat_lit 119,nat_lit 101,nat_lit 97,nat_lit 107,nat_lit 114,nat_lit 101,nat_lit 102,nat_lit 95,nat_lit 95])
noncomputable def q334 : Str := Str.mk (Array.mk [nat_lit 95,nat_lit 76,nat_lit 111,nat_lit 97,nat_lit 100,nat_lit 101,nat_lit 114,nat_lit 66,nat_lit 97,nat_lit 115,nat_lit 105,nat_lit 99,nat_lit 115])
noncomputable def q335 : Str := Str.mk (Array.mk [nat_lit 6,nat_lit 194,nat_lit 10,nat_lit 95,nat_lit 95,nat_lit 109,nat_lit 111,nat_lit 100,nat_lit 117,nat_lit 108,nat_lit 101,nat_lit 95,nat_lit 95,nat_lit 6,nat_lit 192,nat_lit 26,nat_lit 95,nat_lit 102,nat_lit 114,nat_lit 111,nat_lit 122,nat_lit 101,nat_lit 110,nat_lit 95,nat_lit 105,nat_lit 109,nat_lit 112,nat_lit 111,nat_lit 114,nat_lit 116,nat_lit 108,nat_lit 105,nat_lit 98,nat_lit 95,nat_lit 101,nat_lit 120,nat_lit 116,nat_lit 101,nat_lit 114,nat_lit 110,nat_lit 97,nat_lit 108,nat_lit 6,nat_lit 195,nat_lit 15,nat_lit 95,nat_lit 95,nat_lit 102,nat_lit 105,nat_lit 114,nat_lit 115,nat_lit 116,nat_lit 108,nat_lit 105,nat_lit 110,nat_lit 101,nat_lit 110,nat_lit 111,nat_lit 95,nat_lit 95,nat_lit 4,nat_lit 193,nat_lit 0,nat_lit 1001,nat_lit 6,nat_lit 196,nat_lit 7,nat_lit 95,nat_lit 95,nat_lit 100,nat_lit 111,nat_lit 99,nat_lit 95,nat_lit 95,nat_lit 9,nat_lit 59,nat_lit 95,nat_lit 102,nat_lit 114,nat_lit 111,nat_lit 122,nat_lit 101,nat_lit 110,nat_lit 95,nat_lit 105,nat_lit 109,nat_lit 112,nat_lit 111,nat_lit 114,nat_lit 116,nat_lit 108,nat_lit 105,nat_lit 98,nat_lit 95,nat_lit 101,nat_lit 120,nat_lit 116,nat_lit 101,nat_lit 114,nat_lit 110,nat_lit 97,nat_lit 108,nat_lit 46,nat_lit 95,nat_lit 76,nat_lit 111,nat_lit 97,nat_lit 100,nat_lit 101,nat_lit 114,nat_lit 66,nat_lit 97,nat_lit 115,nat_lit 105,nat_lit 99,nat_lit 115,nat_lit 46,nat_lit 95,nat_lit 95,nat_lit 100,nat_lit 111,nat_lit 99,nat_lit 95,nat_lit 95,nat_lit 58,nat_lit 115,nat_lit 116,nat_lit 114,nat_lit 35,nat_lit 111,nat_lit 112,nat_lit 97,nat_lit 113,nat_lit 117,nat_lit 101,nat_lit 6,nat_lit 197,nat_lit 10,nat_lit 105,nat_lit 115,nat_lit 95,nat_lit 112,nat_lit 97,nat_lit 99,nat_lit 107,nat_lit 97,nat_lit 103,nat_lit 101,nat_lit 9,nat_lit 58,nat_lit 95,nat_lit 102,nat_lit 114,nat_lit 111,nat_lit 122,nat_lit 101,nat_lit 110,nat_lit 95,nat_lit 105,nat_lit 109,nat_lit 112,nat_lit 111,nat_lit 114,nat_lit 116,nat_lit 108,nat_lit 105,nat_lit 98,nat_lit 95,nat_lit 101,nat_lit 120,nat_lit 116,nat_lit 101,nat_lit 114,nat_lit 110,nat_lit 97,nat_lit 108,nat_lit 46,nat_lit 95,nat_lit 76,nat_lit 111,nat_lit 97,nat_lit 100,nat_lit 101,nat_lit 114,nat_lit 66,nat_lit 97,nat_lit 115,nat_lit 105,nat_lit 99,nat_lit 115,nat_lit 46,nat_lit 105,nat_lit 115,nat_lit 95,nat_lit 112,nat_lit 97,nat_lit 99,nat_lit 107,nat_lit 97,nat_lit 103,nat_lit 101,nat_lit 35,nat_lit 111,nat_lit 112,nat_lit 97,nat_lit 113,nat_lit 117,nat_lit 101,nat_lit 6,nat_lit 198,nat_lit 13,nat_lit 99,nat_lit 114,nat_lit 101,nat_lit 97,nat_lit 116,nat_lit 101,nat_lit 95,nat_lit 109,nat_lit 111,nat_lit 100,nat_lit 117,nat_lit 108,nat_lit 101,nat_lit 9,nat_lit 61,nat_lit 95,nat_lit 102,nat_lit 114,nat_lit 111,nat_lit 122,nat_lit 101,nat_lit 110,nat_lit 95,nat_lit 105,nat_lit 109,nat_lit 112,nat_lit 111,nat_lit 114,nat_lit 116,nat_lit 108,nat_lit 105,nat_lit 98,nat_lit 95,nat_lit 101,nat_lit 120,nat_lit 116,nat_lit 101,nat_lit 114,nat_lit 110,nat_lit 97,nat_lit 108,nat_lit 46,nat_lit 95,nat_lit 76,nat_lit 111,nat_lit 97,nat_lit 100,nat_lit 101,nat_lit 114,nat_lit 66,nat_lit 97,nat_lit 115,nat_lit 105,nat_lit 99,nat_lit 115,nat_lit 46,nat_lit 99,nat_lit 114,nat_lit 101,nat_lit 97,nat_lit 116,nat_lit 101,nat_lit 95,nat_lit 109,nat_lit 111,nat_lit 100,nat_lit 117,nat_lit 108,nat_lit 101,nat_lit 35,nat_lit 111,nat_lit 112,nat_lit 97,nat_lit 113,nat_lit 117,nat_lit 101,nat_lit 6,nat_lit 199,nat_lit 11,nat_lit 101,nat_lit 120,nat_lit 101,nat_lit 99,nat_lit 95,nat_lit 109,nat_lit 111,nat_lit 100,nat_lit 117,nat_lit 108,nat_lit 101,nat_lit 9,nat_lit 59,nat_lit 95,nat_lit 102,nat_lit 114,nat_lit 111,nat_lit 122,nat_lit 101,nat_lit 110,nat_lit 95,nat_lit 105,nat_lit 109,nat_lit 112,nat_lit 111,nat_lit 114,nat_lit 116,nat_lit 108,nat_lit 105,nat_lit 98,nat_lit 95,nat_lit 101,nat_lit 120,nat_lit 116,nat_lit 101,nat_lit 114,nat_lit 110,nat_lit 97,nat_lit 108,nat_lit 46,nat_lit 95,nat_lit 76,nat_lit 111,nat_lit 97,nat_lit 100,nat_lit 101,nat_lit 114,nat_lit 66,nat_lit 97,nat_lit 115,nat_lit 105,nat_lit 99,nat_lit 115,nat_lit 46,nat_lit 101,nat_lit 120,nat_lit 101,nat_lit 99,nat_lit 95,nat_lit 109,nat_lit 111,nat_lit 100,nat_lit 117,nat_lit 108,nat_lit 101,nat_lit 35,nat_lit 111,nat_lit 112,nat_lit 97,nat_lit 113,nat_lit 117,nat_lit 101,nat_lit 6,nat_lit 200,nat_lit 11,nat_lit 108,nat_lit 111,nat_lit 97,nat_lit 100,nat_lit 95,nat_lit 109,nat_lit 111,nat_lit 100,nat_lit 117,nat_lit 108,nat_lit 101,nat_lit 9,nat_lit 59,nat_lit 95,nat_lit 102,nat_lit 114,nat_lit 111,nat_lit 122,nat_lit 101,nat_lit 110,nat_lit 95,nat_lit 105,nat_lit 109,nat_lit 112,nat_lit 111,nat_lit 114,nat_lit 116,nat_lit 108,nat_lit 105,nat_lit 98,nat_lit 95,nat_lit 101,nat_lit 120,nat_lit 116,nat_lit 101,nat_lit 114,nat_lit 110,nat_lit 97,nat_lit 108,nat_lit 46,nat_lit 95,nat_lit 76,nat_lit 111,nat_lit 97,nat_lit 100,nat_lit 101,nat_lit 114,nat_lit 66,nat_lit 97,nat_lit 115,nat_lit 105,nat_lit 99,nat_lit 115,nat_lit 46,nat_lit 108,nat_lit 111,nat_lit 97,nat_lit 100,nat_lit 95,nat_lit 109,nat_lit 111,nat_lit 100,nat_lit 117,nat_lit 108,nat_lit 101,nat_lit 35,nat_lit 111,nat_lit 112,nat_lit 97,nat_lit 113,nat_lit 117,nat_lit 101,nat_lit 6,nat_lit 201,nat_lit 21,nat_lit 95,nat_lit 95,nat_lit 115,nat_lit 116,nat_lit 97,nat_lit 116,nat_lit 105,nat_lit 99,nat_lit 95,nat_lit 97,nat_lit 116,nat_lit 116,nat_lit 114,nat_lit 105,nat_lit 98,nat_lit 117,nat_lit 116,nat_lit 101,nat_lit 115,nat_lit 95,nat_lit 95,nat_lit 4,nat_lit 0,nat_lit 0,nat_lit 17,nat_lit 6,nat_lit 203,nat_lit 8,nat_lit 95,nat_lit 95,nat_lit 100,nat_lit 105,nat_lit 99,nat_lit 116,nat_lit 95,nat_lit 95,nat_lit 4,nat_lit 0,nat_lit 0,nat_lit 18,nat_lit 6,nat_lit 205,nat_lit 11,nat_lit 95,nat_lit 95,nat_lit 119,nat_lit 101,nat_lit 97,nat_lit 107,nat_lit 114,nat_lit 101,nat_lit 102,nat_lit 95,nat_lit 95,nat_lit 4,nat_lit 0,nat_lit 0,nat_lit 19])
noncomputable def q336 : Str := Str.mk (Array.mk [nat_lit 6,nat_lit 213,nat_lit 10,nat_lit 95,nat_lit 95,nat_lit 109,nat_lit 111,nat_lit 100,nat_lit 117,nat_lit 108,nat_lit 101,nat_lit 95,nat_lit 95,nat_lit 6,nat_lit 209,nat_lit 26,nat_lit 95,nat_lit 102,nat_lit 114,nat_lit 111,nat_lit 122,nat_lit 101,nat_lit 110,nat_lit 95,nat_lit 105,nat_lit 109,nat_lit 112,nat_lit 111,nat_lit 114,nat_lit 116,nat_lit 108,nat_lit 105,nat_lit 98,nat_lit 95,nat_lit 101,nat_lit 120,nat_lit 116,nat_lit 101,nat_lit 114,nat_lit 110,nat_lit 97,nat_lit 108,nat_lit 6,nat_lit 214,nat_lit 15,nat_lit 95,nat_lit 95,nat_lit 102,nat_lit 105,nat_lit 114,nat_lit 115,nat_lit 116,nat_lit 108,nat_lit 105,nat_lit 110,nat_lit 101,nat_lit 110,nat_lit 111,nat_lit 95,nat_lit 95,nat_lit 4,nat_lit 210,nat_lit 0,nat_lit 1176,nat_lit 6,nat_lit 215,nat_lit 7,nat_lit 95,nat_lit 95,nat_lit 100,nat_lit 111,nat_lit 99,nat_lit 95,nat_lit 95,nat_lit 9,nat_lit 56,nat_lit 95,nat_lit 102,nat_lit 114,nat_lit 111,nat_lit 122,nat_lit 101,nat_lit 110,nat_lit 95,nat_lit 105,nat_lit 109,nat_lit 112,nat_lit 111,nat_lit 114,nat_lit 116,nat_lit 108,nat_lit 105,nat_lit 98,nat_lit 95,nat_lit 101,nat_lit 120,nat_lit 116,nat_lit 101,nat_lit 114,nat_lit 110,nat_lit 97,nat_lit 108,nat_lit 46,nat_lit 70,nat_lit 105,nat_lit 108,nat_lit 101,nat_lit 76,nat_lit 111,nat_lit 97,nat_lit 100,nat_lit 101,nat_lit 114,nat_lit 46,nat_lit 95,nat_lit 95,nat_lit 100,nat_lit 111,nat_lit 99,nat_lit 95,nat_lit 95,nat_lit 58,nat_lit 115,nat_lit 116,nat_lit 114,nat_lit 35,nat_lit 111,nat_lit 112,nat_lit 97,nat_lit 113,nat_lit 117,nat_lit 101,nat_lit 6,nat_lit 216,nat_lit 8,nat_lit 95,nat_lit 95,nat_lit 105,nat_lit 110,nat_lit 105,nat_lit 116,nat_lit 95,nat_lit 95,nat_lit 9,nat_lit 53,nat_lit 95,nat_lit 102,nat_lit 114,nat_lit 111,nat_lit 122,nat_lit 101,nat_lit 110,nat_lit 95,nat_lit 105,nat_lit 109,nat_lit 112,nat_lit 111,nat_lit 114,nat_lit 116,nat_lit 108,nat_lit 105,nat_lit 98,nat_lit 95,nat_lit 101,nat_lit 120,nat_lit 116,nat_lit 101,nat_lit 114,nat_lit 110,nat_lit 97,nat_lit 108,nat_lit 46,nat_lit 70,nat_lit 105,nat_lit 108,nat_lit 101,nat_lit 76,nat_lit 111,nat_lit 97,nat_lit 100,nat_lit 101,nat_lit 114,nat_lit 46,nat_lit 95,nat_lit 95,nat_lit 105,nat_lit 110,nat_lit 105,nat_lit 116,nat_lit 95,nat_lit 95,nat_lit 35,nat_lit 111,nat_lit 112,nat_lit 97,nat_lit 113,nat_lit 117,nat_lit 101,nat_lit 6,nat_lit 217,nat_lit 6,nat_lit 95,nat_lit 95,nat_lit 101,nat_lit 113,nat_lit 95,nat_lit 95,nat_lit 9,nat_lit 51,nat_lit 95,nat_lit 102,nat_lit 114,nat_lit 111,nat_lit 122,nat_lit 101,nat_lit 110,nat_lit 95,nat_lit 105,nat_lit 109,nat_lit 112,nat_lit 111,nat_lit 114,nat_lit 116,nat_lit 108,nat_lit 105,nat_lit 98,nat_lit 95,nat_lit 101,nat_lit 120,nat_lit 116,nat_lit 101,nat_lit 114,nat_lit 110,nat_lit 97,nat_lit 108,nat_lit 46,nat_lit 70,nat_lit 105,nat_lit 108,nat_lit 101,nat_lit 76,nat_lit 111,nat_lit 97,nat_lit 100,nat_lit 101,nat_lit 114,nat_lit 46,nat_lit 95,nat_lit 95,nat_lit 101,nat_lit 113,nat_lit 95,nat_lit 95,nat_lit 35,nat_lit 111,nat_lit 112,nat_lit 97,nat_lit 113,nat_lit 117,nat_lit 101,nat_lit 6,nat_lit 218,nat_lit 8,nat_lit 95,nat_lit 95,nat_lit 104,nat_lit 97,nat_lit 115,nat_lit 104,nat_lit 95,nat_lit 95,nat_lit 9,nat_lit 53,nat_lit 95,nat_lit 102,nat_lit 114,nat_lit 111,nat_lit 122,nat_lit 101,nat_lit 110,nat_lit 95,nat_lit 105,nat_lit 109,nat_lit 112,nat_lit 111,nat_lit 114,nat_lit 116,nat_lit 108,nat_lit 105,nat_lit 98,nat_lit 95,nat_lit 101,nat_lit 120,nat_lit 116,nat_lit 101,nat_lit 114,nat_lit 110,nat_lit 97,nat_lit 108,nat_lit 46,nat_lit 70,nat_lit 105,nat_lit 108,nat_lit 101,nat_lit 76,nat_lit 111,nat_lit 97,nat_lit 100,nat_lit 101,nat_lit 114,nat_lit 46,nat_lit 95,nat_lit 95,nat_lit 104,nat_lit 97,nat_lit 115,nat_lit 104,nat_lit 95,nat_lit 95,nat_lit 35,nat_lit 111,nat_lit 112,nat_lit 97,nat_lit 113,nat_lit 117,nat_lit 101,nat_lit 6,nat_lit 219,nat_lit 11,nat_lit 108,nat_lit 111,nat_lit 97,nat_lit 100,nat_lit 95,nat_lit 109,nat_lit 111,nat_lit 100,nat_lit 117,nat_lit 108,nat_lit 101,nat_lit 9,nat_lit 56,nat_lit 95,nat_lit 102,nat_lit 114,nat_lit 111,nat_lit 122,nat_lit 101,nat_lit 110,nat_lit 95,nat_lit 105,nat_lit 109,nat_lit 112,nat_lit 111,nat_lit 114,nat_lit 116,nat_lit 108,nat_lit 105,nat_lit 98,nat_lit 95,nat_lit 101,nat_lit 120,nat_lit 116,nat_lit 101,nat_lit 114,nat_lit 110,nat_lit 97,nat_lit 108,nat_lit 46,nat_lit 70,nat_lit 105,nat_lit 108,nat_lit 101,nat_lit 76,nat_lit 111,nat_lit 97,nat_lit 100,nat_lit 101,nat_lit 114,nat_lit 46,nat_lit 108,nat_lit 111,nat_lit 97,nat_lit 100,nat_lit 95,nat_lit 109,nat_lit 111,nat_lit 100,nat_lit 117,nat_lit 108,nat_lit 101,nat_lit 35,nat_lit 111,nat_lit 112,nat_lit 97,nat_lit 113,nat_lit 117,nat_lit 101,nat_lit 6,nat_lit 220,nat_lit 12,nat_lit 103,nat_lit 101,nat_lit 116,nat_lit 95,nat_lit 102,nat_lit 105,nat_lit 108,nat_lit 101,nat_lit 110,nat_lit 97,nat_lit 109,nat_lit 101,nat_lit 9,nat_lit 57,nat_lit 95,nat_lit 102,nat_lit 114,nat_lit 111,nat_lit 122,nat_lit 101,nat_lit 110,nat_lit 95,nat_lit 105,nat_lit 109,nat_lit 112,nat_lit 111,nat_lit 114,nat_lit 116,nat_lit 108,nat_lit 105,nat_lit 98,nat_lit 95,nat_lit 101,nat_lit 120,nat_lit 116,nat_lit 101,nat_lit 114,nat_lit 110,nat_lit 97,nat_lit 108,nat_lit 46,nat_lit 70,nat_lit 105,nat_lit 108,nat_lit 101,nat_lit 76,nat_lit 111,nat_lit 97,nat_lit 100,nat_lit 101,nat_lit 114,nat_lit 46,nat_lit 103,nat_lit 101,nat_lit 116,nat_lit 95,nat_lit 102,nat_lit 105,nat_lit 108,nat_lit 101,nat_lit 110,nat_lit 97,nat_lit 109,nat_lit 101,nat_lit 35,nat_lit 111,nat_lit 112,nat_lit 97,nat_lit 113,nat_lit 117,nat_lit 101,nat_lit 6,nat_lit 221,nat_lit 8,nat_lit 103,nat_lit 101,nat_lit 116,nat_lit 95,nat_lit 100,nat_lit 97,nat_lit 116,nat_lit 97,nat_lit 9,nat_lit 53,nat_lit 95,nat_lit 102,nat_lit 114,nat_lit 111,nat_lit 122,nat_lit 101,nat_lit 110,nat_lit 95,nat_lit 105,nat_lit 109,nat_lit 112,nat_lit 111,nat_lit 114,nat_lit 116,nat_lit 108,nat_lit 105,nat_lit 98,nat_lit 95,nat_lit 101,nat_lit 120,nat_lit 116,nat_lit 101,nat_lit 114,nat_lit 110,nat_lit 97,nat_lit 108,nat_lit 46,nat_lit 70,nat_lit 105,nat_lit 108,nat_lit 101,nat_lit 76,nat_lit 111,nat_lit 97,nat_lit 100,nat_lit 101,nat_lit 114,nat_lit 46,nat_lit 103,nat_lit 101,nat_lit 116,nat_lit 95,nat_lit 100,nat_lit 97,nat_lit 116,nat_lit 97,nat_lit 35,nat_lit 111,nat_lit 112,nat_lit 97,nat_lit 113,nat_lit 117,nat_lit 101,nat_lit 6,nat_lit 222,nat_lit 19,nat_lit 103,nat_lit 101,nat_lit 116,nat_lit 95,nat_lit 114,nat_lit 101,nat_lit 115,nat_lit 111,nat_lit 117,nat_lit 114,nat_lit 99,nat_lit 101,nat_lit 95,nat_lit 114,nat_lit 101,nat_lit 97,nat_lit 100,nat_lit 101,nat_lit 114,nat_lit 9,nat_lit 64,nat_lit 95,nat_lit 102,nat_lit 114,nat_lit 111,nat_lit 122,nat_lit 101,nat_lit 110,nat_lit 95,nat_lit 105,nat_lit 109,nat_lit 112,nat_lit 111,nat_lit 114,nat_lit 116,nat_lit 108,nat_lit 105,nat_lit 98,nat_lit 95,nat_lit 101,nat_lit 120,nat_lit 116,nat_lit 101,nat_lit 114,nat_lit 110,nat_lit 97,nat_lit 108,nat_lit 46,nat_lit 70,nat_lit 105,nat_lit 108,nat_lit 101,nat_lit 76,nat_lit 111,nat_lit 97,nat_lit 100,nat_lit 101,nat_lit 114,nat_lit 46,nat_lit 103,nat_lit 101,nat_lit 116,nat_lit 95,nat_lit 114,nat_lit 101,nat_lit 115,nat_lit 111,nat_lit 117,nat_lit 114,nat_lit 99,nat_lit 101,nat_lit 95,nat_lit 114,nat_lit 101,nat_lit 97,nat_lit 100,nat_lit 101,nat_lit 114,nat_lit 35,nat_lit 111,nat_lit 112,nat_lit 97,nat_lit 113,nat_lit 117,nat_lit 101,nat_lit 6,nat_lit 223,nat_lit 21,nat_lit 95,nat_lit 95,nat_lit 115,nat_lit 116,nat_lit 97,nat_lit 116,nat_lit 105,nat_lit 99,nat_lit 95,nat_lit 97,nat_lit 116,nat_lit 116,nat_lit 114,nat_lit 105,nat_lit 98,nat_lit 117,nat_lit 116,nat_lit 101,nat_lit 115,nat_lit 95,nat_lit 95,nat_lit 4,nat_lit 0,nat_lit 0,nat_lit 23,nat_lit 6,nat_lit 225,nat_lit 8,nat_lit 95,nat_lit 95,nat_lit 100,nat_lit 105,nat_lit 99,nat_lit 116,nat_lit 95,nat_lit 95,nat_lit 4,nat_lit 0,nat_lit 0,nat_lit 24,nat_lit 6,nat_lit 227,nat_lit 11,nat_lit 95,nat_lit 95,nat_lit 119,nat_lit 101,nat_lit 97,nat_lit 107,nat_lit 114,nat_lit 101,nat_lit 102,nat_lit 95,nat_lit 95,nat_lit 4,nat_lit 0,nat_lit 0,nat_lit 25])
noncomputable def q337 : Str := Str.mk (Array.mk [nat_lit 6,nat_lit 234,nat_lit 10,nat_lit 95,nat_lit 95,nat_lit 109,nat_lit 111,nat_lit 100,nat_lit 117,nat_lit 108,nat_lit 101,nat_lit 95,nat_lit 95,nat_lit 6,nat_lit 230,nat_lit 26,nat_lit 95,nat_lit 102,nat_lit 114,nat_lit 111,nat_lit 122,nat_lit 101,nat_lit 110,nat_lit 95,nat_lit 105,nat_lit 109,nat_lit 112,nat_lit 111,nat_lit 114,nat_lit 116,nat_lit 108,nat_lit 105,nat_lit 98,nat_lit 95,nat_lit 101,nat_lit 120,nat_lit 116,nat_lit 101,nat_lit 114,nat_lit 110,nat_lit 97,nat_lit 108,nat_lit 6,nat_lit 235,nat_lit 15,nat_lit 95,nat_lit 95,nat_lit 102,nat_lit 105,nat_lit 114,nat_lit 115,nat_lit 116,nat_lit 108,nat_lit 105,nat_lit 110,nat_lit 101,nat_lit 110,nat_lit 111,nat_lit 95,nat_lit 95,nat_lit 4,nat_lit 231,nat_lit 0,nat_lit 1296,nat_lit 6,nat_lit 236,nat_lit 7,nat_lit 95,nat_lit 95,nat_lit 100,nat_lit 111,nat_lit 99,nat_lit 95,nat_lit 95,nat_lit 9,nat_lit 65,nat_lit 95,nat_lit 102,nat_lit 114,nat_lit 111,nat_lit 122,nat_lit 101,nat_lit 110,nat_lit 95,nat_lit 105,nat_lit 109,nat_lit 112,nat_lit 111,nat_lit 114,nat_lit 116,nat_lit 108,nat_lit 105,nat_lit 98,nat_lit 95,nat_lit 101,nat_lit 120,nat_lit 116,nat_lit 101,nat_lit 114,nat_lit 110,nat_lit 97,nat_lit 108,nat_lit 46,nat_lit 69,nat_lit 120,nat_lit 116,nat_lit 101,nat_lit 110,nat_lit 115,nat_lit 105,nat_lit 111,nat_lit 110,nat_lit 70,nat_lit 105,nat_lit 108,nat_lit 101,nat_lit 76,nat_lit 111,nat_lit 97,nat_lit 100,nat_lit 101,nat_lit 114,nat_lit 46,nat_lit 95,nat_lit 95,nat_lit 100,nat_lit 111,nat_lit 99,nat_lit 95,nat_lit 95,nat_lit 58,nat_lit 115,nat_lit 116,nat_lit 114,nat_lit 35,nat_lit 111,nat_lit 112,nat_lit 97,nat_lit 113,nat_lit 117,nat_lit 101,nat_lit 6,nat_lit 237,nat_lit 8,nat_lit 95,nat_lit 95,nat_lit 105,nat_lit 110,nat_lit 105,nat_lit 116,nat_lit 95,nat_lit 95,nat_lit 9,nat_lit 62,nat_lit 95,nat_lit 102,nat_lit 114,nat_lit 111,nat_lit 122,nat_lit 101,nat_lit 110,nat_lit 95,nat_lit 105,nat_lit 109,nat_lit 112,nat_lit 111,nat_lit 114,nat_lit 116,nat_lit 108,nat_lit 105,nat_lit 98,nat_lit 95,nat_lit 101,nat_lit 120,nat_lit 116,nat_lit 101,nat_lit 114,nat_lit 110,nat_lit 97,nat_lit 108,nat_lit 46,nat_lit 69,nat_lit 120,nat_lit 116,nat_lit 101,nat_lit 110,nat_lit 115,nat_lit 105,nat_lit 111,nat_lit 110,nat_lit 70,nat_lit 105,nat_lit 108,nat_lit 101,nat_lit 76,nat_lit 111,nat_lit 97,nat_lit 100,nat_lit 101,nat_lit 114,nat_lit 46,nat_lit 95,nat_lit 95,nat_lit 105,nat_lit 110,nat_lit 105,nat_lit 116,nat_lit 95,nat_lit 95,nat_lit 35,nat_lit 111,nat_lit 112,nat_lit 97,nat_lit 113,nat_lit 117,nat_lit 101,nat_lit 6,nat_lit 238,nat_lit 6,nat_lit 95,nat_lit 95,nat_lit 101,nat_lit 113,nat_lit 95,nat_lit 95,nat_lit 9,nat_lit 60,nat_lit 95,nat_lit 102,nat_lit 114,nat_lit 111,nat_lit 122,nat_lit 101,nat_lit 110,nat_lit 95,nat_lit 105,nat_lit 109,nat_lit 112,nat_lit 111,nat_lit 114,nat_lit 116,nat_lit 108,nat_lit 105,nat_lit 98,nat_lit 95,nat_lit 101,nat_lit 120,nat_lit 116,nat_lit 101,nat_lit 114,nat_lit 110,nat_lit 97,nat_lit 108,nat_lit 46,nat_lit 69,nat_lit 120,nat_lit 116,nat_lit 101,nat_lit 110,nat_lit 115,nat_lit 105,nat_lit 111,nat_lit 110,nat_lit 70,nat_lit 105,nat_lit 108,nat_lit 101,nat_lit 76,nat_lit 111,nat_lit 97,nat_lit 100,nat_lit 101,nat_lit 114,nat_lit 46,nat_lit 95,nat_lit 95,nat_lit 101,nat_lit 113,nat_lit 95,nat_lit 95,nat_lit 35,nat_lit 111,nat_lit 112,nat_lit 97,nat_lit 113,nat_lit 117,nat_lit 101,nat_lit 6,nat_lit 239,nat_lit 8,nat_lit 95,nat_lit 95,nat_lit 104,nat_lit 97,nat_lit 115,nat_lit 104,nat_lit 95,nat_lit 95,nat_lit 9,nat_lit 62,nat_lit 95,nat_lit 102,nat_lit 114,nat_lit 111,nat_lit 122,nat_lit 101,nat_lit 110,nat_lit 95,nat_lit 105,nat_lit 109,nat_lit 112,nat_lit 111,nat_lit 114,nat_lit 116,nat_lit 108,nat_lit 105,nat_lit 98,nat_lit 95,nat_lit 101,nat_lit 120,nat_lit 116,nat_lit 101,nat_lit 114,nat_lit 110,nat_lit 97,nat_lit 108,nat_lit 46,nat_lit 69,nat_lit 120,nat_lit 116,nat_lit 101,nat_lit 110,nat_lit 115,nat_lit 105,nat_lit 111,nat_lit 110,nat_lit 70,nat_lit 105,nat_lit 108,nat_lit 101,nat_lit 76,nat_lit 111,nat_lit 97,nat_lit 100,nat_lit 101,nat_lit 114,nat_lit 46,nat_lit 95,nat_lit 95,nat_lit 104,nat_lit 97,nat_lit 115,nat_lit 104,nat_lit 95,nat_lit 95,nat_lit 35,nat_lit 111,nat_lit 112,nat_lit 97,nat_lit 113,nat_lit 117,nat_lit 101,nat_lit 6,nat_lit 240,nat_lit 13,nat_lit 99,nat_lit 114,nat_lit 101,nat_lit 97,nat_lit 116,nat_lit 101,nat_lit 95,nat_lit 109,nat_lit 111,nat_lit 100,nat_lit 117,nat_lit 108,nat_lit 101,nat_lit 9,nat_lit 67,nat_lit 95,nat_lit 102,nat_lit 114,nat_lit 111,nat_lit 122,nat_lit 101,nat_lit 110,nat_lit 95,nat_lit 105,nat_lit 109,nat_lit 112,nat_lit 111,nat_lit 114,nat_lit 116,nat_lit 108,nat_lit 105,nat_lit 98,nat_lit 95,nat_lit 101,nat_lit 120,nat_lit 116,nat_lit 101,nat_lit 114,nat_lit 110,nat_lit 97,nat_lit 108,nat_lit 46,nat_lit 69,nat_lit 120,nat_lit 116,nat_lit 101,nat_lit 110,nat_lit 115,nat_lit 105,nat_lit 111,nat_lit 110,nat_lit 70,nat_lit 105,nat_lit 108,nat_lit 101,nat_lit 76,nat_lit 111,nat_lit 97,nat_lit 100,nat_lit 101,nat_lit 114,nat_lit 46,nat_lit 99,nat_lit 114,nat_lit 101,nat_lit 97,nat_lit 116,nat_lit 101,nat_lit 95,nat_lit 109,nat_lit 111,nat_lit 100,nat_lit 117,nat_lit 108,nat_lit 101,nat_lit 35,nat_lit 111,nat_lit 112,nat_lit 97,nat_lit 113,nat_lit 117,nat_lit 101,nat_lit 6,nat_lit 241,nat_lit 11,nat_lit 101,nat_lit 120,nat_lit 101,nat_lit 99,nat_lit 95,nat_lit 109,nat_lit 111,nat_lit 100,nat_lit 117,nat_lit 108,nat_lit 101,nat_lit 9,nat_lit 65,nat_lit 95,nat_lit 102,nat_lit 114,nat_lit 111,nat_lit 122,nat_lit 101,nat_lit 110,nat_lit 95,nat_lit 105,nat_lit 109,nat_lit 112,nat_lit 111,nat_lit 114,nat_lit 116,nat_lit 108,nat_lit 105,nat_lit 98,nat_lit 95,nat_lit 101,nat_lit 120,nat_lit 116,nat_lit 101,nat_lit 114,nat_lit 110,nat_lit 97,nat_lit 108,nat_lit 46,nat_lit 69,nat_lit 120,nat_lit 116,nat_lit 101,nat_lit 110,nat_lit 115,nat_lit 105,nat_lit 111,nat_lit 110,nat_lit 70,nat_lit 105,nat_lit 108,nat_lit 101,nat_lit 76,nat_lit 111,nat_lit 97,nat_lit 100,nat_lit 101,nat_lit 114,nat_lit 46,nat_lit 101,nat_lit 120,nat_lit 101,nat_lit 99,nat_lit 95,nat_lit 109,nat_lit 111,nat_lit 100,nat_lit 117,nat_lit 108,nat_lit 101,nat_lit 35,nat_lit 111,nat_lit 112,nat_lit 97,nat_lit 113,nat_lit 117,nat_lit 101,nat_lit 6,nat_lit 242,nat_lit 10,nat_lit 105,nat_lit 115,nat_lit 95,nat_lit 112,nat_lit 97,nat_lit 99,nat_lit 107,nat_lit 97,nat_lit 103,nat_lit 101,nat_lit 9,nat_lit 64,nat_lit 95,nat_lit 102,nat_lit 114,nat_lit 111,nat_lit 122,nat_lit 101,nat_lit 110,nat_lit 95,nat_lit 105,nat_lit 109,nat_lit 112,nat_lit 111,nat_lit 114,nat_lit 116,nat_lit 108,nat_lit 105,nat_lit 98,nat_lit 95,nat_lit 101,nat_lit 120,nat_lit 116,nat_lit 101,nat_lit 114,nat_lit 110,nat_lit 97,nat_lit 108,nat_lit 46,nat_lit 69,nat_lit 120,nat_lit 116,nat_lit 101,nat_lit 110,nat_lit 115,nat_lit 105,nat_lit 111,nat_lit 110,nat_lit 70,nat_lit 105,nat_lit 108,nat_lit 101,nat_lit 76,nat_lit 111,nat_lit 97,nat_lit 100,nat_lit 101,nat_lit 114,nat_lit 46,nat_lit 105,nat_lit 115,nat_lit 95,nat_lit 112,nat_lit 97,nat_lit 99,nat_lit 107,nat_lit 97,nat_lit 103,nat_lit 101,nat_lit 35,nat_lit 111,nat_lit 112,nat_lit 97,nat_lit 113,nat_lit 117,nat_lit 101,nat_lit 6,nat_lit 243,nat_lit 8,nat_lit 103,nat_lit 101,nat_lit 116,nat_lit 95,nat_lit 99,nat_lit 111,nat_lit 100,nat_lit 101,nat_lit 9,nat_lit 62,nat_lit 95,nat_lit 102,nat_lit 114,nat_lit 111,nat_lit 122,nat_lit 101,nat_lit 110,nat_lit 95,nat_lit 105,nat_lit 109,nat_lit 112,nat_lit 111,nat_lit 114,nat_lit 116,nat_lit 108,nat_lit 105,nat_lit 98,nat_lit 95,nat_lit 101,nat_lit 120,nat_lit 116,nat_lit 101,nat_lit 114,nat_lit 110,nat_lit 97,nat_lit 108,nat_lit 46,nat_lit 69,nat_lit 120,nat_lit 116,nat_lit 101,nat_lit 110,nat_lit 115,nat_lit 105,nat_lit 111,nat_lit 110,nat_lit 70,nat_lit 105,nat_lit 108,nat_lit 101,nat_lit 76,nat_lit 111,nat_lit 97,nat_lit 100,nat_lit 101,nat_lit 114,nat_lit 46,nat_lit 103,nat_lit 101,nat_lit 116,nat_lit 95,nat_lit 99,nat_lit 111,nat_lit 100,nat_lit 101,nat_lit 35,nat_lit 111,nat_lit 112,nat_lit 97,nat_lit 113,nat_lit 117,nat_lit 101,nat_lit 6,nat_lit 244,nat_lit 10,nat_lit 103,nat_lit 101,nat_lit 116,nat_lit 95,nat_lit 115,nat_lit 111,nat_lit 117,nat_lit 114,nat_lit 99,nat_lit 101,nat_lit 9,nat_lit 64,nat_lit 95,nat_lit 102,nat_lit 114,nat_lit 111,nat_lit 122,nat_lit 101,nat_lit 110,nat_lit 95,nat_lit 105,nat_lit 109,nat_lit 112,nat_lit 111,nat_lit 114,nat_lit 116,nat_lit 108,nat_lit 105,nat_lit 98,nat_lit 95,nat_lit 101,nat_lit 120,nat_lit 116,nat_lit 101,nat_lit 114,nat_lit 110,nat_lit 97,nat_lit 108,nat_lit 46,nat_lit 69,nat_lit 120,nat_lit 116,nat_lit 101,nat_lit 110,nat_lit 115,nat_lit 105,nat_lit 111,nat_lit 110,nat_lit 70,nat_lit 105,nat_lit 108,nat_lit 101,nat_lit 76,nat_lit 111,nat_lit 97,nat_lit 100,nat_lit 101,nat_lit 114,nat_lit 46,nat_lit 103,nat_lit 101,nat_lit 116,nat_lit 95,nat_lit 115,nat_lit 111,nat_lit 117,nat_lit 114,nat_lit 99,nat_lit 101,nat_lit 35,nat_lit 111,nat_lit 112,nat_lit 97,nat_lit 113,nat_lit 117,nat_lit 101,nat_lit 6,nat_lit 245,nat_lit 12,nat_lit 103,nat_lit 101,nat_lit 116,nat_lit 95,nat_lit 102,nat_lit 105,nat_lit 108,nat_lit 101,nat_lit 110,nat_lit 97,nat_lit 109,nat_lit 101,nat_lit 9,nat_lit 66,nat_lit 95,nat_lit 102,nat_lit 114,nat_lit 111,nat_lit 122,nat_lit 101,nat_lit 110,nat_lit 95,nat_lit 105,nat_lit 109,nat_lit 112,nat_lit 111,nat_lit 114,nat_lit 116,nat_lit 108,nat_lit 105,nat_lit 98,nat_lit 95,nat_lit 101,nat_lit 120,nat_lit 116,nat_lit 101,nat_lit 114,nat_lit 110,nat_lit 97,nat_lit 108,nat_lit 46,nat_lit 69,nat_lit 120,nat_lit 116,nat_lit 101,nat_lit 110,nat_lit 115,nat_lit 105,nat_lit 111,nat_lit 110,nat_lit 70,nat_lit 105,nat_lit 108,nat_lit 101,nat_lit 76,nat_lit 111,nat_lit 97,nat_lit 100,nat_lit 101,nat_lit 114,nat_lit 46,nat_lit 103,nat_lit 101,nat_lit 116,nat_lit 95,nat_lit 102,nat_lit 105,nat_lit 108,nat_lit 101,nat_lit 110,nat_lit 97,nat_lit 109,nat_lit 101,nat_lit 35,nat_lit 111,nat_lit 112,nat_lit 97,nat_lit 113,nat_lit 117,nat_lit 101,nat_lit 6,nat_lit 246,nat_lit 21,nat_lit 95,nat_lit 95,nat_lit 115,nat_lit 116,nat_lit 97,nat_lit 116,nat_lit 105,nat_lit 99,nat_lit 95,nat_lit 97,nat_lit 116,nat_lit 116,nat_lit 114,nat_lit 105,nat_lit 98,nat_lit 117,nat_lit 116,nat_lit 101,nat_lit 115,nat_lit 95,nat_lit 95,nat_lit 4,nat_lit 0,nat_lit 0,nat_lit 28])
noncomputable def q338 : Str := Str.mk (Array.mk [nat_lit 6,nat_lit 268,nat_lit 10,nat_lit 95,nat_lit 95,nat_lit 109,nat_lit 111,nat_lit 100,nat_lit 117,nat_lit 108,nat_lit 101,nat_lit 95,nat_lit 95,nat_lit 6,nat_lit 258,nat_lit 17,nat_lit 95,nat_lit 102,nat_lit 114,nat_lit 111,nat_lit 122,nat_lit 101,nat_lit 110,nat_lit 95,nat_lit 105,nat_lit 109,nat_lit 112,nat_lit 111,nat_lit 114,nat_lit 116,nat_lit 108,nat_lit 105,nat_lit 98,nat_lit 6,nat_lit 269,nat_lit 15,nat_lit 95,nat_lit 95,nat_lit 102,nat_lit 105,nat_lit 114,nat_lit 115,nat_lit 116,nat_lit 108,nat_lit 105,nat_lit 110,nat_lit 101,nat_lit 110,nat_lit 111,nat_lit 95,nat_lit 95,nat_lit 4,nat_lit 259,nat_lit 0,nat_lit 562,nat_lit 6,nat_lit 270,nat_lit 7,nat_lit 95,nat_lit 95,nat_lit 100,nat_lit 111,nat_lit 99,nat_lit 95,nat_lit 95,nat_lit 9,nat_lit 47,nat_lit 95,nat_lit 102,nat_lit 114,nat_lit 111,nat_lit 122,nat_lit 101,nat_lit 110,nat_lit 95,nat_lit 105,nat_lit 109,nat_lit 112,nat_lit 111,nat_lit 114,nat_lit 116,nat_lit 108,nat_lit 105,nat_lit 98,nat_lit 46,nat_lit 77,nat_lit 111,nat_lit 100,nat_lit 117,nat_lit 108,nat_lit 101,nat_lit 83,nat_lit 112,nat_lit 101,nat_lit 99,nat_lit 46,nat_lit 95,nat_lit 95,nat_lit 100,nat_lit 111,nat_lit 99,nat_lit 95,nat_lit 95,nat_lit 58,nat_lit 115,nat_lit 116,nat_lit 114,nat_lit 35,nat_lit 111,nat_lit 112,nat_lit 97,nat_lit 113,nat_lit 117,nat_lit 101,nat_lit 6,nat_lit 271,nat_lit 8,nat_lit 95,nat_lit 95,nat_lit 105,nat_lit 110,nat_lit 105,nat_lit 116,nat_lit 95,nat_lit 95,nat_lit 9,nat_lit 44,nat_lit 95,nat_lit 102,nat_lit 114,nat_lit 111,nat_lit 122,nat_lit 101,nat_lit 110,nat_lit 95,nat_lit 105,nat_lit 109,nat_lit 112,nat_lit 111,nat_lit 114,nat_lit 116,nat_lit 108,nat_lit 105,nat_lit 98,nat_lit 46,nat_lit 77,nat_lit 111,nat_lit 100,nat_lit 117,nat_lit 108,nat_lit 101,nat_lit 83,nat_lit 112,nat_lit 101,nat_lit 99,nat_lit 46,nat_lit 95,nat_lit 95,nat_lit 105,nat_lit 110,nat_lit 105,nat_lit 116,nat_lit 95,nat_lit 95,nat_lit 35,nat_lit 111,nat_lit 112,nat_lit 97,nat_lit 113,nat_lit 117,nat_lit 101,nat_lit 6,nat_lit 272,nat_lit 8,nat_lit 95,nat_lit 95,nat_lit 114,nat_lit 101,nat_lit 112,nat_lit 114,nat_lit 95,nat_lit 95,nat_lit 9,nat_lit 44,nat_lit 95,nat_lit 102,nat_lit 114,nat_lit 111,nat_lit 122,nat_lit 101,nat_lit 110,nat_lit 95,nat_lit 105,nat_lit 109,nat_lit 112,nat_lit 111,nat_lit 114,nat_lit 116,nat_lit 108,nat_lit 105,nat_lit 98,nat_lit 46,nat_lit 77,nat_lit 111,nat_lit 100,nat_lit 117,nat_lit 108,nat_lit 101,nat_lit 83,nat_lit 112,nat_lit 101,nat_lit 99,nat_lit 46,nat_lit 95,nat_lit 95,nat_lit 114,nat_lit 101,nat_lit 112,nat_lit 114,nat_lit 95,nat_lit 95,nat_lit 35,nat_lit 111,nat_lit 112,nat_lit 97,nat_lit 113,nat_lit 117,nat_lit 101,nat_lit 6,nat_lit 273,nat_lit 6,nat_lit 95,nat_lit 95,nat_lit 101,nat_lit 113,nat_lit 95,nat_lit 95,nat_lit 9,nat_lit 42,nat_lit 95,nat_lit 102,nat_lit 114,nat_lit 111,nat_lit 122,nat_lit 101,nat_lit 110,nat_lit 95,nat_lit 105,nat_lit 109,nat_lit 112,nat_lit 111,nat_lit 114,nat_lit 116,nat_lit 108,nat_lit 105,nat_lit 98,nat_lit 46,nat_lit 77,nat_lit 111,nat_lit 100,nat_lit 117,nat_lit 108,nat_lit 101,nat_lit 83,nat_lit 112,nat_lit 101,nat_lit 99,nat_lit 46,nat_lit 95,nat_lit 95,nat_lit 101,nat_lit 113,nat_lit 95,nat_lit 95,nat_lit 35,nat_lit 111,nat_lit 112,nat_lit 97,nat_lit 113,nat_lit 117,nat_lit 101,nat_lit 6,nat_lit 274,nat_lit 6,nat_lit 99,nat_lit 97,nat_lit 99,nat_lit 104,nat_lit 101,nat_lit 100,nat_lit 9,nat_lit 42,nat_lit 95,nat_lit 102,nat_lit 114,nat_lit 111,nat_lit 122,nat_lit 101,nat_lit 110,nat_lit 95,nat_lit 105,nat_lit 109,nat_lit 112,nat_lit 111,nat_lit 114,nat_lit 116,nat_lit 108,nat_lit 105,nat_lit 98,nat_lit 46,nat_lit 77,nat_lit 111,nat_lit 100,nat_lit 117,nat_lit 108,nat_lit 101,nat_lit 83,nat_lit 112,nat_lit 101,nat_lit 99,nat_lit 46,nat_lit 99,nat_lit 97,nat_lit 99,nat_lit 104,nat_lit 101,nat_lit 100,nat_lit 35,nat_lit 111,nat_lit 112,nat_lit 97,nat_lit 113,nat_lit 117,nat_lit 101,nat_lit 6,nat_lit 275,nat_lit 6,nat_lit 112,nat_lit 97,nat_lit 114,nat_lit 101,nat_lit 110,nat_lit 116,nat_lit 9,nat_lit 42,nat_lit 95,nat_lit 102,nat_lit 114,nat_lit 111,nat_lit 122,nat_lit 101,nat_lit 110,nat_lit 95,nat_lit 105,nat_lit 109,nat_lit 112,nat_lit 111,nat_lit 114,nat_lit 116,nat_lit 108,nat_lit 105,nat_lit 98,nat_lit 46,nat_lit 77,nat_lit 111,nat_lit 100,nat_lit 117,nat_lit 108,nat_lit 101,nat_lit 83,nat_lit 112,nat_lit 101,nat_lit 99,nat_lit 46,nat_lit 112,nat_lit 97,nat_lit 114,nat_lit 101,nat_lit 110,nat_lit 116,nat_lit 35,nat_lit 111,nat_lit 112,nat_lit 97,nat_lit 113,nat_lit 117,nat_lit 101,nat_lit 6,nat_lit 276,nat_lit 12,nat_lit 104,nat_lit 97,nat_lit 115,nat_lit 95,nat_lit 108,nat_lit 111,nat_lit 99,nat_lit 97,nat_lit 116,nat_lit 105,nat_lit 111,nat_lit 110,nat_lit 9,nat_lit 48,nat_lit 95,nat_lit 102,nat_lit 114,nat_lit 111,nat_lit 122,nat_lit 101,nat_lit 110,nat_lit 95,nat_lit 105,nat_lit 109,nat_lit 112,nat_lit 111,nat_lit 114,nat_lit 116,nat_lit 108,nat_lit 105,nat_lit 98,nat_lit 46,nat_lit 77,nat_lit 111,nat_lit 100,nat_lit 117,nat_lit 108,nat_lit 101,nat_lit 83,nat_lit 112,nat_lit 101,nat_lit 99,nat_lit 46,nat_lit 104,nat_lit 97,nat_lit 115,nat_lit 95,nat_lit 108,nat_lit 111,nat_lit 99,nat_lit 97,nat_lit 116,nat_lit 105,nat_lit 111,nat_lit 110,nat_lit 35,nat_lit 111,nat_lit 112,nat_lit 97,nat_lit 113,nat_lit 117,nat_lit 101,nat_lit 6,nat_lit 277,nat_lit 21,nat_lit 95,nat_lit 95,nat_lit 115,nat_lit 116,nat_lit 97,nat_lit 116,nat_lit 105,nat_lit 99,nat_lit 95,nat_lit 97,nat_lit 116,nat_lit 116,nat_lit 114,nat_lit 105,nat_lit 98,nat_lit 117,nat_lit 116,nat_lit 101,nat_lit 115,nat_lit 95,nat_lit 95,nat_lit 4,nat_lit 0,nat_lit 0,nat_lit 34,nat_lit 6,nat_lit 279,nat_lit 8,nat_lit 95,nat_lit 95,nat_lit 100,nat_lit 105,nat_lit 99,nat_lit 116,nat_lit 95,nat_lit 95,nat_lit 4,nat_lit 0,nat_lit 0,nat_lit 35,nat_lit 6,nat_lit 281,nat_lit 11,nat_lit 95,nat_lit 95,nat_lit 119,nat_lit 101,nat_lit 97,nat_lit 107,nat_lit 114,nat_lit 101,nat_lit 102,nat_lit 95,nat_lit 95,nat_lit 4,nat_lit 0,nat_lit 0,nat_lit 36,nat_lit 6,nat_lit 282,nat_lit 8,nat_lit 95,nat_lit 95,nat_lit 104,nat_lit 97,nat_lit 115,nat_lit 104,nat_lit 95,nat_lit 95,nat_lit 0])
noncomputable def q339 : Str := Str.mk (Array.mk [nat_lit 103,nat_lit 101,nat_lit 116,nat_lit 95,nat_lit 102,nat_lit 105,nat_lit 108,nat_lit 101,nat_lit 110,nat_lit 97,nat_lit 109,nat_lit 101])
noncomputable def q340 : Str := Str.mk (Array.mk [nat_lit 103,nat_lit 101,nat_lit 116,nat_lit 95,nat_lit 100,nat_lit 97,nat_lit 116,nat_lit 97])
noncomputable def q341 : Str := Str.mk (Array.mk [nat_lit 103,nat_lit 101,nat_lit 116,nat_lit 95,nat_lit 114,nat_lit 101,nat_lit 115,nat_lit 111,nat_lit 117,nat_lit 114,nat_lit 99,nat_lit 101,nat_lit 95,nat_lit 114,nat_lit 101,nat_lit 97,nat_lit 100,nat_lit 101,nat_lit 114])
noncomputable def q342 : Str := Str.mk (Array.mk [nat_lit 70,nat_lit 105,nat_lit 108,nat_lit 101,nat_lit 76,nat_lit 111,nat_lit 97,nat_lit 100,nat_lit 101,nat_lit 114])
noncomputable def q343 : Str := Str.mk (Array.mk [nat_lit 103,nat_lit 101,nat_lit 116,nat_lit 95,nat_lit 99,nat_lit 111,nat_lit 100,nat_lit 101])
noncomputable def q344 : Str := Str.mk (Array.mk [nat_lit 103,nat_lit 101,nat_lit 116,nat_lit 95,nat_lit 115,nat_lit 111,nat_lit 117,nat_lit 114,nat_lit 99,nat_lit 101])
noncomputable def q345 : Str := Str.mk (Array.mk [nat_lit 69,nat_lit 120,nat_lit 116,nat_lit 101,nat_lit 110,nat_lit 115,nat_lit 105,nat_lit 111,nat_lit 110,nat_lit 70,nat_lit 105,nat_lit 108,nat_lit 101,nat_lit 76,nat_lit 111,nat_lit 97,nat_lit 100,nat_lit 101,nat_lit 114])
noncomputable def q346 : Str := Str.mk (Array.mk [nat_lit 108,nat_lit 111,nat_lit 97,nat_lit 100,nat_lit 101,nat_lit 114])
noncomputable def q347 : Str := Str.mk (Array.mk [nat_lit 111,nat_lit 114,nat_lit 105,nat_lit 103,nat_lit 105,nat_lit 110])
noncomputable def q348 : Str := Str.mk (Array.mk [nat_lit 108,nat_lit 111,nat_lit 97,nat_lit 100,nat_lit 101,nat_lit 114,nat_lit 95,nat_lit 115,nat_lit 116,nat_lit 97,nat_lit 116,nat_lit 101])
noncomputable def q349 : Str := Str.mk (Array.mk [nat_lit 115,nat_lit 117,nat_lit 98,nat_lit 109,nat_lit 111,nat_lit 100,nat_lit 117,nat_lit 108,nat_lit 101,nat_lit 95,nat_lit 115,nat_lit 101,nat_lit 97,nat_lit 114,nat_lit 99,nat_lit 104,nat_lit 95,nat_lit 108,nat_lit 111,nat_lit 99,nat_lit 97,nat_lit 116,nat_lit 105,nat_lit 111,nat_lit 110,nat_lit 115])
noncomputable def q350 : Str := Str.mk (Array.mk [nat_lit 95,nat_lit 117,nat_lit 110,nat_lit 105,nat_lit 110,nat_lit 105,nat_lit 116,nat_lit 105,nat_lit 97,nat_lit 108,nat_lit 105,nat_lit 122,nat_lit 101,nat_lit 100,nat_lit 95,nat_lit 115,nat_lit 117,nat_lit 98,nat_lit 109,nat_lit 111,nat_lit 100,nat_lit 117,nat_lit 108,nat_lit 101,nat_lit 115])
noncomputable def q351 : Str := Str.mk (Array.mk [nat_lit 95,nat_lit 115,nat_lit 101,nat_lit 116,nat_lit 95,nat_lit 102,nat_lit 105,nat_lit 108,nat_lit 101,nat_lit 97,nat_lit 116,nat_lit 116,nat_lit 114])
noncomputable def q352 : Str := Str.mk (Array.mk [nat_lit 95,nat_lit 99,nat_lit 97,nat_lit 99,nat_lit 104,nat_lit 101,nat_lit 100])
noncomputable def q353 : Str := Str.mk (Array.mk [nat_lit 95,nat_lit 105,nat_lit 110,nat_lit 105,nat_lit 116,nat_lit 105,nat_lit 97,nat_lit 108,nat_lit 105,nat_lit 122,nat_lit 105,nat_lit 110,nat_lit 103])
noncomputable def q354 : Str := Str.mk (Array.mk [nat_lit 95,nat_lit 102,nat_lit 114,nat_lit 111,nat_lit 122,nat_lit 101,nat_lit 110,nat_lit 95,nat_lit 105,nat_lit 109,nat_lit 112,nat_lit 111,nat_lit 114,nat_lit 116,nat_lit 108,nat_lit 105,nat_lit 98])
noncomputable def q355 : Str := Str.mk (Array.mk [nat_lit 99,nat_lit 97,nat_lit 99,nat_lit 104,nat_lit 101,nat_lit 100])
noncomputable def q356 : Str := Str.mk (Array.mk [nat_lit 112,nat_lit 97,nat_lit 114,nat_lit 101,nat_lit 110,nat_lit 116])
noncomputable def q357 : Str := Str.mk (Array.mk [nat_lit 104,nat_lit 97,nat_lit 115,nat_lit 95,nat_lit 108,nat_lit 111,nat_lit 99,nat_lit 97,nat_lit 116,nat_lit 105,nat_lit 111,nat_lit 110])
noncomputable def q358 : Str := Str.mk (Array.mk [nat_lit 77,nat_lit 111,nat_lit 100,nat_lit 117,nat_lit 108,nat_lit 101,nat_lit 83,nat_lit 112,nat_lit 101,nat_lit 99])
noncomputable def q359 : Str := Str.mk (Array.mk [nat_lit 99,nat_lit 112,nat_lit 121,nat_lit 51,nat_lit 49,nat_lit 51,nat_lit 46,nat_lit 115,nat_lit 116,nat_lit 97,nat_lit 116,nat_lit 105,nat_lit 115,nat_lit 116,nat_lit 105,nat_lit 99,nat_lit 115])
noncomputable def q360 : Str := Str.mk (Array.mk [nat_lit 95,nat_lit 95,nat_lit 113,nat_lit 117,nat_lit 97,nat_lit 108,nat_lit 110,nat_lit 97,nat_lit 109,nat_lit 101,nat_lit 95,nat_lit 95])
noncomputable def q361 : Str := Str.mk (Array.mk [nat_lit 78,nat_lit 111,nat_lit 114,nat_lit 109,nat_lit 97,nat_lit 108,nat_lit 68,nat_lit 105,nat_lit 115,nat_lit 116,nat_lit 46,nat_lit 95,nat_lit 95,nat_lit 103,nat_lit 101,nat_lit 116,nat_lit 115,nat_lit 116,nat_lit 97,nat_lit 116,nat_lit 101,nat_lit 95,nat_lit 95])
noncomputable def q362 : Str := Str.mk (Array.mk [nat_lit 78,nat_lit 111,nat_lit 114,nat_lit 109,nat_lit 97,nat_lit 108,nat_lit 68,nat_lit 105,nat_lit 115,nat_lit 116,nat_lit 46,nat_lit 95,nat_lit 95,nat_lit 115,nat_lit 117,nat_lit 98,nat_lit 95,nat_lit 95])
noncomputable def q363 : Str := Str.mk (Array.mk [nat_lit 78,nat_lit 111,nat_lit 114,nat_lit 109,nat_lit 97,nat_lit 108,nat_lit 68,nat_lit 105,nat_lit 115,nat_lit 116,nat_lit 46,nat_lit 115,nat_lit 97,nat_lit 109,nat_lit 112,nat_lit 108,nat_lit 101,nat_lit 115])
noncomputable def q364 : Str := Str.mk (Array.mk [nat_lit 78,nat_lit 111,nat_lit 114,nat_lit 109,nat_lit 97,nat_lit 108,nat_lit 68,nat_lit 105,nat_lit 115,nat_lit 116,nat_lit 46,nat_lit 95,nat_lit 95,nat_lit 116,nat_lit 114,nat_lit 117,nat_lit 101,nat_lit 100,nat_lit 105,nat_lit 118,nat_lit 95,nat_lit 95])
noncomputable def q365 : Str := Str.mk (Array.mk [nat_lit 78,nat_lit 111,nat_lit 114,nat_lit 109,nat_lit 97,nat_lit 108,nat_lit 68,nat_lit 105,nat_lit 115,nat_lit 116,nat_lit 46,nat_lit 95,nat_lit 95,nat_lit 115,nat_lit 101,nat_lit 116,nat_lit 115,nat_lit 116,nat_lit 97,nat_lit 116,nat_lit 101,nat_lit 95,nat_lit 95])
noncomputable def q366 : Str := Str.mk (Array.mk [nat_lit 78,nat_lit 111,nat_lit 114,nat_lit 109,nat_lit 97,nat_lit 108,nat_lit 68,nat_lit 105,nat_lit 115,nat_lit 116,nat_lit 46,nat_lit 95,nat_lit 95,nat_lit 109,nat_lit 117,nat_lit 108,nat_lit 95,nat_lit 95])
noncomputable def q367 : Str := Str.mk (Array.mk [nat_lit 78,nat_lit 111,nat_lit 114,nat_lit 109,nat_lit 97,nat_lit 108,nat_lit 68,nat_lit 105,nat_lit 115,nat_lit 116,nat_lit 46,nat_lit 112,nat_lit 100,nat_lit 102])
noncomputable def q368 : Str := Str.mk (Array.mk [nat_lit 78,nat_lit 111,nat_lit 114,nat_lit 109,nat_lit 97,nat_lit 108,nat_lit 68,nat_lit 105,nat_lit 115,nat_lit 116,nat_lit 46,nat_lit 95,nat_lit 95,nat_lit 114,nat_lit 101,nat_lit 112,nat_lit 114,nat_lit 95,nat_lit 95])
noncomputable def q369 : Str := Str.mk (Array.mk [nat_lit 78,nat_lit 111,nat_lit 114,nat_lit 109,nat_lit 97,nat_lit 108,nat_lit 68,nat_lit 105,nat_lit 115,nat_lit 116,nat_lit 46,nat_lit 111,nat_lit 118,nat_lit 101,nat_lit 114,nat_lit 108,nat_lit 97,nat_lit 112])
noncomputable def q370 : Str := Str.mk (Array.mk [nat_lit 78,nat_lit 111,nat_lit 114,nat_lit 109,nat_lit 97,nat_lit 108,nat_lit 68,nat_lit 105,nat_lit 115,nat_lit 116,nat_lit 46,nat_lit 95,nat_lit 95,nat_lit 114,nat_lit 115,nat_lit 117,nat_lit 98,nat_lit 95,nat_lit 95])
noncomputable def q371 : Str := Str.mk (Array.mk [nat_lit 78,nat_lit 111,nat_lit 114,nat_lit 109,nat_lit 97,nat_lit 108,nat_lit 68,nat_lit 105,nat_lit 115,nat_lit 116,nat_lit 46,nat_lit 102,nat_lit 114,nat_lit 111,nat_lit 109,nat_lit 95,nat_lit 115,nat_lit 97,nat_lit 109,nat_lit 112,nat_lit 108,nat_lit 101,nat_lit 115])
noncomputable def q372 : Str := Str.mk (Array.mk [nat_lit 78,nat_lit 111,nat_lit 114,nat_lit 109,nat_lit 97,nat_lit 108,nat_lit 68,nat_lit 105,nat_lit 115,nat_lit 116,nat_lit 46,nat_lit 105,nat_lit 110,nat_lit 118,nat_lit 95,nat_lit 99,nat_lit 100,nat_lit 102])
noncomputable def q373 : Str := Str.mk (Array.mk [nat_lit 78,nat_lit 111,nat_lit 114,nat_lit 109,nat_lit 97,nat_lit 108,nat_lit 68,nat_lit 105,nat_lit 115,nat_lit 116,nat_lit 46,nat_lit 122,nat_lit 115,nat_lit 99,nat_lit 111,nat_lit 114,nat_lit 101])
noncomputable def q374 : Str := Str.mk (Array.mk [nat_lit 78,nat_lit 111,nat_lit 114,nat_lit 109,nat_lit 97,nat_lit 108,nat_lit 68,nat_lit 105,nat_lit 115,nat_lit 116,nat_lit 46,nat_lit 95,nat_lit 95,nat_lit 101,nat_lit 113,nat_lit 95,nat_lit 95])
noncomputable def q375 : Str := Str.mk (Array.mk [nat_lit 78,nat_lit 111,nat_lit 114,nat_lit 109,nat_lit 97,nat_lit 108,nat_lit 68,nat_lit 105,nat_lit 115,nat_lit 116,nat_lit 46,nat_lit 95,nat_lit 95,nat_lit 110,nat_lit 101,nat_lit 103,nat_lit 95,nat_lit 95])
noncomputable def q376 : Str := Str.mk (Array.mk [nat_lit 78,nat_lit 111,nat_lit 114,nat_lit 109,nat_lit 97,nat_lit 108,nat_lit 68,nat_lit 105,nat_lit 115,nat_lit 116,nat_lit 46,nat_lit 113,nat_lit 117,nat_lit 97,nat_lit 110,nat_lit 116,nat_lit 105,nat_lit 108,nat_lit 101,nat_lit 115])
noncomputable def q377 : Str := Str.mk (Array.mk [nat_lit 78,nat_lit 111,nat_lit 114,nat_lit 109,nat_lit 97,nat_lit 108,nat_lit 68,nat_lit 105,nat_lit 115,nat_lit 116,nat_lit 46,nat_lit 109,nat_lit 111,nat_lit 100,nat_lit 101])
noncomputable def q378 : Str := Str.mk (Array.mk [nat_lit 78,nat_lit 111,nat_lit 114,nat_lit 109,nat_lit 97,nat_lit 108,nat_lit 68,nat_lit 105,nat_lit 115,nat_lit 116,nat_lit 46,nat_lit 109,nat_lit 101,nat_lit 97,nat_lit 110])
noncomputable def q379 : Str := Str.mk (Array.mk [nat_lit 78,nat_lit 111,nat_lit 114,nat_lit 109,nat_lit 97,nat_lit 108,nat_lit 68,nat_lit 105,nat_lit 115,nat_lit 116,nat_lit 46,nat_lit 118,nat_lit 97,nat_lit 114,nat_lit 105,nat_lit 97,nat_lit 110,nat_lit 99,nat_lit 101])
noncomputable def q380 : Str := Str.mk (Array.mk [nat_lit 78,nat_lit 111,nat_lit 114,nat_lit 109,nat_lit 97,nat_lit 108,nat_lit 68,nat_lit 105,nat_lit 115,nat_lit 116,nat_lit 46,nat_lit 95,nat_lit 95,nat_lit 104,nat_lit 97,nat_lit 115,nat_lit 104,nat_lit 95,nat_lit 95])
noncomputable def q381 : Str := Str.mk (Array.mk [nat_lit 78,nat_lit 111,nat_lit 114,nat_lit 109,nat_lit 97,nat_lit 108,nat_lit 68,nat_lit 105,nat_lit 115,nat_lit 116,nat_lit 46,nat_lit 115,nat_lit 116,nat_lit 100,nat_lit 101,nat_lit 118])
noncomputable def q382 : Str := Str.mk (Array.mk [nat_lit 78,nat_lit 111,nat_lit 114,nat_lit 109,nat_lit 97,nat_lit 108,nat_lit 68,nat_lit 105,nat_lit 115,nat_lit 116,nat_lit 46,nat_lit 109,nat_lit 101,nat_lit 100,nat_lit 105,nat_lit 97,nat_lit 110])
noncomputable def q383 : Str := Str.mk (Array.mk [nat_lit 78,nat_lit 111,nat_lit 114,nat_lit 109,nat_lit 97,nat_lit 108,nat_lit 68,nat_lit 105,nat_lit 115,nat_lit 116,nat_lit 46,nat_lit 95,nat_lit 95,nat_lit 97,nat_lit 100,nat_lit 100,nat_lit 95,nat_lit 95])
noncomputable def q384 : Str := Str.mk (Array.mk [nat_lit 78,nat_lit 111,nat_lit 114,nat_lit 109,nat_lit 97,nat_lit 108,nat_lit 68,nat_lit 105,nat_lit 115,nat_lit 116,nat_lit 46,nat_lit 95,nat_lit 95,nat_lit 112,nat_lit 111,nat_lit 115,nat_lit 95,nat_lit 95])
noncomputable def q385 : Str := Str.mk (Array.mk [nat_lit 78,nat_lit 111,nat_lit 114,nat_lit 109,nat_lit 97,nat_lit 108,nat_lit 68,nat_lit 105,nat_lit 115,nat_lit 116,nat_lit 46,nat_lit 95,nat_lit 95,nat_lit 105,nat_lit 110,nat_lit 105,nat_lit 116,nat_lit 95,nat_lit 95])
noncomputable def q386 : Str := Str.mk (Array.mk [nat_lit 78,nat_lit 111,nat_lit 114,nat_lit 109,nat_lit 97,nat_lit 108,nat_lit 68,nat_lit 105,nat_lit 115,nat_lit 116,nat_lit 46,nat_lit 99,nat_lit 100,nat_lit 102])
noncomputable def q387 : Str := Str.mk (Array.mk [nat_lit 108,nat_lit 97,nat_lit 119,nat_lit 95,nat_lit 105,nat_lit 111,nat_lit 48,nat_lit 48,nat_lit 49,nat_lit 57,nat_lit 95,nat_lit 48,nat_lit 50])
noncomputable def q388 : Str := Str.mk (Array.mk [nat_lit 108,nat_lit 97,nat_lit 119])
noncomputable def o41 : ((x0 : @Params) → @Obj) := (fun (x0 : @Params) => (Obj.mk (Value.type "dict") none (Data.dict (@List.toArray.{0} @DictEntry [(DictEntry.mk (PyData.keyHash x0 q57) (Value.str q57 1) (Value.str q93 160)), (DictEntry.mk (PyData.keyHash x0 q94) (Value.str q94 2) (Value.builtin "builtins.__doc__:str#opaque")), (DictEntry.mk (PyData.keyHash x0 q95) (Value.str q95 3) (Value.builtin "builtins.__package__:str#opaque")), (DictEntry.mk (PyData.keyHash x0 q96) (Value.str q96 4) (Value.builtin "builtins.__loader__:shared#opaque")), (DictEntry.mk (PyData.keyHash x0 q97) (Value.str q97 5) (Value.builtin "builtins.__spec__#opaque")), (DictEntry.mk (PyData.keyHash x0 q98) (Value.str q98 6) (Value.builtin "__build_class__")), (DictEntry.mk (PyData.keyHash x0 q99) (Value.str q99 7) (Value.builtin "__import__")), (DictEntry.mk (PyData.keyHash x0 q82) (Value.str q82 8) (Value.builtin "abs")), (DictEntry.mk (PyData.keyHash x0 q100) (Value.str q100 9) (Value.builtin "all")), (DictEntry.mk (PyData.keyHash x0 q101) (Value.str q101 10) (Value.builtin "any")), (DictEntry.mk (PyData.keyHash x0 q102) (Value.str q102 11) (Value.builtin "ascii")), (DictEntry.mk (PyData.keyHash x0 q103) (Value.str q103 12) (Value.builtin "bin")), (DictEntry.mk (PyData.keyHash x0 q104) (Value.str q104 13) (Value.builtin "breakpoint")), (DictEntry.mk (PyData.keyHash x0 q105) (Value.str q105 14) (Value.builtin "callable")), (DictEntry.mk (PyData.keyHash x0 q106) (Value.str q106 15) (Value.builtin "chr")), (DictEntry.mk (PyData.keyHash x0 q107) (Value.str q107 16) (Value.builtin "compile")), (DictEntry.mk (PyData.keyHash x0 q108) (Value.str q108 17) (Value.builtin "delattr")), (DictEntry.mk (PyData.keyHash x0 q109) (Value.str q109 18) (Value.builtin "dir")), (DictEntry.mk (PyData.keyHash x0 q110) (Value.str q110 19) (Value.builtin "divmod")), (DictEntry.mk (PyData.keyHash x0 q111) (Value.str q111 20) (Value.builtin "eval")), (DictEntry.mk (PyData.keyHash x0 q112) (Value.str q112 21) (Value.builtin "exec")), (DictEntry.mk (PyData.keyHash x0 q113) (Value.str q113 22) (Value.builtin "format")), (DictEntry.mk (PyData.keyHash x0 q114) (Value.str q114 23) (Value.builtin "getattr")), (DictEntry.mk (PyData.keyHash x0 q115) (Value.str q115 24) (Value.builtin "globals")), (DictEntry.mk (PyData.keyHash x0 q116) (Value.str q116 25) (Value.builtin "hasattr")), (DictEntry.mk (PyData.keyHash x0 q54) (Value.str q54 26) (Value.builtin "hash")), (DictEntry.mk (PyData.keyHash x0 q117) (Value.str q117 27) (Value.builtin "hex")), (DictEntry.mk (PyData.keyHash x0 q118) (Value.str q118 28) (Value.builtin "id")), (DictEntry.mk (PyData.keyHash x0 q119) (Value.str q119 29) (Value.builtin "input")), (DictEntry.mk (PyData.keyHash x0 q39) (Value.str q39 30) (Value.builtin "isinstance")), (DictEntry.mk (PyData.keyHash x0 q120) (Value.str q120 31) (Value.builtin "issubclass")), (DictEntry.mk (PyData.keyHash x0 q121) (Value.str q121 32) (Value.builtin "iter")), (DictEntry.mk (PyData.keyHash x0 q122) (Value.str q122 33) (Value.builtin "aiter")), (DictEntry.mk (PyData.keyHash x0 q123) (Value.str q123 34) (Value.builtin "len")), (DictEntry.mk (PyData.keyHash x0 q124) (Value.str q124 35) (Value.builtin "locals")), (DictEntry.mk (PyData.keyHash x0 q77) (Value.str q77 36) (Value.builtin "max")), (DictEntry.mk (PyData.keyHash x0 q125) (Value.str q125 37) (Value.builtin "min")), (DictEntry.mk (PyData.keyHash x0 q126) (Value.str q126 38) (Value.builtin "next")), (DictEntry.mk (PyData.keyHash x0 q127) (Value.str q127 39) (Value.builtin "anext")), (DictEntry.mk (PyData.keyHash x0 q128) (Value.str q128 40) (Value.builtin "oct")), (DictEntry.mk (PyData.keyHash x0 q129) (Value.str q129 41) (Value.builtin "ord")), (DictEntry.mk (PyData.keyHash x0 q130) (Value.str q130 42) (Value.builtin "pow")), (DictEntry.mk (PyData.keyHash x0 q131) (Value.str q131 43) (Value.builtin "print")), (DictEntry.mk (PyData.keyHash x0 q132) (Value.str q132 44) (Value.builtin "repr")), (DictEntry.mk (PyData.keyHash x0 q133) (Value.str q133 45) (Value.builtin "round")), (DictEntry.mk (PyData.keyHash x0 q134) (Value.str q134 46) (Value.builtin "setattr")), (DictEntry.mk (PyData.keyHash x0 q135) (Value.str q135 47) (Value.builtin "sorted")), (DictEntry.mk (PyData.keyHash x0 q136) (Value.str q136 48) (Value.builtin "sum")), (DictEntry.mk (PyData.keyHash x0 q137) (Value.str q137 49) (Value.builtin "vars")), (DictEntry.mk (PyData.keyHash x0 q138) (Value.str q138 50) @Value.none), (DictEntry.mk (PyData.keyHash x0 q139) (Value.str q139 51) @Value.ellipsis), (DictEntry.mk (PyData.keyHash x0 q52) (Value.str q52 52) @Value.notImplemented), (DictEntry.mk (PyData.keyHash x0 q140) (Value.str q140 53) (Value.bool @Bool.false)), (DictEntry.mk (PyData.keyHash x0 q141) (Value.str q141 54) (Value.bool @Bool.true)), (DictEntry.mk (PyData.keyHash x0 q142) (Value.str q142 55) (Value.type "bool")), (DictEntry.mk (PyData.keyHash x0 q143) (Value.str q143 56) (Value.type "memoryview")), (DictEntry.mk (PyData.keyHash x0 q144) (Value.str q144 57) (Value.type "bytearray")), (DictEntry.mk (PyData.keyHash x0 q145) (Value.str q145 58) (Value.type "bytes")), (DictEntry.mk (PyData.keyHash x0 q17) (Value.str q17 59) (Value.type "classmethod")), (DictEntry.mk (PyData.keyHash x0 q146) (Value.str q146 60) (Value.type "complex")), (DictEntry.mk (PyData.keyHash x0 q147) (Value.str q147 61) (Value.type "dict")), (DictEntry.mk (PyData.keyHash x0 q148) (Value.str q148 62) (Value.type "enumerate")), (DictEntry.mk (PyData.keyHash x0 q149) (Value.str q149 63) (Value.type "filter")), (DictEntry.mk (PyData.keyHash x0 q12) (Value.str q12 64) (Value.type "float")), (DictEntry.mk (PyData.keyHash x0 q150) (Value.str q150 65) (Value.type "frozenset")), (DictEntry.mk (PyData.keyHash x0 q31) (Value.str q31 66) (Value.type "property")), (DictEntry.mk (PyData.keyHash x0 q151) (Value.str q151 67) (Value.type "int")), (DictEntry.mk (PyData.keyHash x0 q152) (Value.str q152 68) (Value.type "list")), (DictEntry.mk (PyData.keyHash x0 q153) (Value.str q153 69) (Value.type "map")), (DictEntry.mk (PyData.keyHash x0 q154) (Value.str q154 70) (Value.type "object")), (DictEntry.mk (PyData.keyHash x0 q78) (Value.str q78 71) (Value.type "range")), (DictEntry.mk (PyData.keyHash x0 q155) (Value.str q155 72) (Value.type "reversed")), (DictEntry.mk (PyData.keyHash x0 q156) (Value.str q156 73) (Value.type "set")), (DictEntry.mk (PyData.keyHash x0 q157) (Value.str q157 74) (Value.type "slice")), (DictEntry.mk (PyData.keyHash x0 q158) (Value.str q158 75) (Value.type "staticmethod")), (DictEntry.mk (PyData.keyHash x0 q159) (Value.str q159 76) (Value.type "str")), (DictEntry.mk (PyData.keyHash x0 q160) (Value.str q160 77) (Value.type "super")), (DictEntry.mk (PyData.keyHash x0 q161) (Value.str q161 78) (Value.type "tuple")), (DictEntry.mk (PyData.keyHash x0 q56) (Value.str q56 79) (Value.type "type")), (DictEntry.mk (PyData.keyHash x0 q162) (Value.str q162 80) (Value.type "zip")), (DictEntry.mk (PyData.keyHash x0 q163) (Value.str q163 81) (Value.bool @Bool.true)), (DictEntry.mk (PyData.keyHash x0 q164) (Value.str q164 82) (Value.type "BaseException")), (DictEntry.mk (PyData.keyHash x0 q165) (Value.str q165 83) (Value.type "BaseExceptionGroup")), (DictEntry.mk (PyData.keyHash x0 q166) (Value.str q166 84) (Value.type "Exception")), (DictEntry.mk (PyData.keyHash x0 q167) (Value.str q167 85) (Value.type "GeneratorExit")), (DictEntry.mk (PyData.keyHash x0 q168) (Value.str q168 86) (Value.type "KeyboardInterrupt")), (DictEntry.mk (PyData.keyHash x0 q169) (Value.str q169 87) (Value.type "SystemExit")), (DictEntry.mk (PyData.keyHash x0 q170) (Value.str q170 88) (Value.type "ArithmeticError")), (DictEntry.mk (PyData.keyHash x0 q171) (Value.str q171 89) (Value.type "AssertionError")), (DictEntry.mk (PyData.keyHash x0 q172) (Value.str q172 90) (Value.type "AttributeError")), (DictEntry.mk (PyData.keyHash x0 q173) (Value.str q173 91) (Value.type "BufferError")), (DictEntry.mk (PyData.keyHash x0 q174) (Value.str q174 92) (Value.type "EOFError")), (DictEntry.mk (PyData.keyHash x0 q175) (Value.str q175 93) (Value.type "ImportError")), (DictEntry.mk (PyData.keyHash x0 q176) (Value.str q176 94) (Value.type "LookupError")), (DictEntry.mk (PyData.keyHash x0 q177) (Value.str q177 95) (Value.type "MemoryError")), (DictEntry.mk (PyData.keyHash x0 q178) (Value.str q178 96) (Value.type "NameError")), (DictEntry.mk (PyData.keyHash x0 q179) (Value.str q179 97) (Value.type "OSError")), (DictEntry.mk (PyData.keyHash x0 q180) (Value.str q180 98) (Value.type "ReferenceError")), (DictEntry.mk (PyData.keyHash x0 q181) (Value.str q181 99) (Value.type "RuntimeError")), (DictEntry.mk (PyData.keyHash x0 q182) (Value.str q182 100) (Value.type "StopAsyncIteration")), (DictEntry.mk (PyData.keyHash x0 q183) (Value.str q183 101) (Value.type "StopIteration")), (DictEntry.mk (PyData.keyHash x0 q184) (Value.str q184 102) (Value.type "SyntaxError")), (DictEntry.mk (PyData.keyHash x0 q185) (Value.str q185 103) (Value.type "SystemError")), (DictEntry.mk (PyData.keyHash x0 q186) (Value.str q186 104) (Value.type "TypeError")), (DictEntry.mk (PyData.keyHash x0 q187) (Value.str q187 105) (Value.type "ValueError")), (DictEntry.mk (PyData.keyHash x0 q188) (Value.str q188 106) (Value.type "Warning")), (DictEntry.mk (PyData.keyHash x0 q189) (Value.str q189 107) (Value.type "FloatingPointError")), (DictEntry.mk (PyData.keyHash x0 q190) (Value.str q190 108) (Value.type "OverflowError")), (DictEntry.mk (PyData.keyHash x0 q191) (Value.str q191 109) (Value.type "ZeroDivisionError")), (DictEntry.mk (PyData.keyHash x0 q192) (Value.str q192 110) (Value.type "BytesWarning")), (DictEntry.mk (PyData.keyHash x0 q193) (Value.str q193 111) (Value.type "DeprecationWarning")), (DictEntry.mk (PyData.keyHash x0 q194) (Value.str q194 112) (Value.type "EncodingWarning")), (DictEntry.mk (PyData.keyHash x0 q195) (Value.str q195 113) (Value.type "FutureWarning")), (DictEntry.mk (PyData.keyHash x0 q196) (Value.str q196 114) (Value.type "ImportWarning")), (DictEntry.mk (PyData.keyHash x0 q197) (Value.str q197 115) (Value.type "PendingDeprecationWarning")), (DictEntry.mk (PyData.keyHash x0 q198) (Value.str q198 116) (Value.type "ResourceWarning")), (DictEntry.mk (PyData.keyHash x0 q199) (Value.str q199 117) (Value.type "RuntimeWarning")), (DictEntry.mk (PyData.keyHash x0 q200) (Value.str q200 118) (Value.type "SyntaxWarning")), (DictEntry.mk (PyData.keyHash x0 q201) (Value.str q201 119) (Value.type "UnicodeWarning")), (DictEntry.mk (PyData.keyHash x0 q202) (Value.str q202 120) (Value.type "UserWarning")), (DictEntry.mk (PyData.keyHash x0 q203) (Value.str q203 121) (Value.type "BlockingIOError")), (DictEntry.mk (PyData.keyHash x0 q204) (Value.str q204 122) (Value.type "ChildProcessError")), (DictEntry.mk (PyData.keyHash x0 q205) (Value.str q205 123) (Value.type "ConnectionError")), (DictEntry.mk (PyData.keyHash x0 q206) (Value.str q206 124) (Value.type "FileExistsError")), (DictEntry.mk (PyData.keyHash x0 q207) (Value.str q207 125) (Value.type "FileNotFoundError")), (DictEntry.mk (PyData.keyHash x0 q208) (Value.str q208 126) (Value.type "InterruptedError")), (DictEntry.mk (PyData.keyHash x0 q209) (Value.str q209 127) (Value.type "IsADirectoryError")), (DictEntry.mk (PyData.keyHash x0 q210) (Value.str q210 128) (Value.type "NotADirectoryError")), (DictEntry.mk (PyData.keyHash x0 q211) (Value.str q211 129) (Value.type "PermissionError")), (DictEntry.mk (PyData.keyHash x0 q212) (Value.str q212 130) (Value.type "ProcessLookupError")), (DictEntry.mk (PyData.keyHash x0 q213) (Value.str q213 131) (Value.type "TimeoutError")), (DictEntry.mk (PyData.keyHash x0 q214) (Value.str q214 132) (Value.type "IndentationError")), (DictEntry.mk (PyData.keyHash x0 q215) (Value.str q215 133) (Value.type "_IncompleteInputError")), (DictEntry.mk (PyData.keyHash x0 q216) (Value.str q216 134) (Value.type "IndexError")), (DictEntry.mk (PyData.keyHash x0 q217) (Value.str q217 135) (Value.type "KeyError")), (DictEntry.mk (PyData.keyHash x0 q218) (Value.str q218 136) (Value.type "ModuleNotFoundError")), (DictEntry.mk (PyData.keyHash x0 q219) (Value.str q219 137) (Value.type "NotImplementedError")), (DictEntry.mk (PyData.keyHash x0 q220) (Value.str q220 138) (Value.type "PythonFinalizationError")), (DictEntry.mk (PyData.keyHash x0 q221) (Value.str q221 139) (Value.type "RecursionError")), (DictEntry.mk (PyData.keyHash x0 q222) (Value.str q222 140) (Value.type "UnboundLocalError")), (DictEntry.mk (PyData.keyHash x0 q223) (Value.str q223 141) (Value.type "UnicodeError")), (DictEntry.mk (PyData.keyHash x0 q224) (Value.str q224 142) (Value.type "BrokenPipeError")), (DictEntry.mk (PyData.keyHash x0 q225) (Value.str q225 143) (Value.type "ConnectionAbortedError")), (DictEntry.mk (PyData.keyHash x0 q226) (Value.str q226 144) (Value.type "ConnectionRefusedError")), (DictEntry.mk (PyData.keyHash x0 q227) (Value.str q227 145) (Value.type "ConnectionResetError")), (DictEntry.mk (PyData.keyHash x0 q228) (Value.str q228 146) (Value.type "TabError")), (DictEntry.mk (PyData.keyHash x0 q229) (Value.str q229 147) (Value.type "UnicodeDecodeError")), (DictEntry.mk (PyData.keyHash x0 q230) (Value.str q230 148) (Value.type "UnicodeEncodeError")), (DictEntry.mk (PyData.keyHash x0 q231) (Value.str q231 149) (Value.type "UnicodeTranslateError")), (DictEntry.mk (PyData.keyHash x0 q232) (Value.str q232 150) (Value.type "ExceptionGroup")), (DictEntry.mk (PyData.keyHash x0 q233) (Value.str q233 151) (Value.type "OSError")), (DictEntry.mk (PyData.keyHash x0 q234) (Value.str q234 152) (Value.type "OSError")), (DictEntry.mk (PyData.keyHash x0 q235) (Value.str q235 153) (Value.builtin "open")), (DictEntry.mk (PyData.keyHash x0 q236) (Value.str q236 154) (Value.builtin "builtins.quit#opaque")), (DictEntry.mk (PyData.keyHash x0 q237) (Value.str q237 155) (Value.builtin "builtins.exit#opaque")), (DictEntry.mk (PyData.keyHash x0 q238) (Value.str q238 156) (Value.builtin "builtins.copyright#opaque")), (DictEntry.mk (PyData.keyHash x0 q239) (Value.str q239 157) (Value.builtin "builtins.credits#opaque")), (DictEntry.mk (PyData.keyHash x0 q240) (Value.str q240 158) (Value.builtin "builtins.license#opaque")), (DictEntry.mk (PyData.keyHash x0 q241) (Value.str q241 159) (Value.builtin "builtins.help#opaque"))]) 159) (@List.toArray.{0} (Option @Value) [])))
noncomputable def o42 : ((x0 : @Params) → @Obj) := (fun (x0 : @Params) => (Obj.mk (Value.type "dict") none (Data.dict (@List.toArray.{0} @DictEntry [(DictEntry.mk (PyData.keyHash x0 q93) (Value.str q93 162) (Value.ref 4)), (DictEntry.mk (PyData.keyHash x0 q242) (Value.str q242 163) (Value.ref 5)), (DictEntry.mk (PyData.keyHash x0 q243) (Value.str q243 285) (Value.ref 13))]) 3) (@List.toArray.{0} (Option @Value) [])))
noncomputable def o43 : ((x0 : @Params) → @Obj) := (fun (x0 : @Params) => (Obj.mk @Value.none none (Data.dict (@List.toArray.{0} @DictEntry [(DictEntry.mk (PyData.keyHash x0 q244) (Value.str q244 186) (Value.bool @Bool.true)), (DictEntry.mk (PyData.keyHash x0 q245) (Value.str q245 191) (Value.ref 16)), (DictEntry.mk (PyData.keyHash x0 q246) (Value.str q246 207) (Value.ref 20)), (DictEntry.mk (PyData.keyHash x0 q247) (Value.str q247 208) (Value.ref 22)), (DictEntry.mk (PyData.keyHash x0 q248) (Value.str q248 229) (Value.ref 27)), (DictEntry.mk (PyData.keyHash x0 q249) (Value.str q249 257) (Value.ref 33)), (DictEntry.mk (PyData.keyHash x0 q250) (Value.str q250 286) (Value.int 3 0)), (DictEntry.mk (PyData.keyHash x0 q251) (Value.str q251 362) (Value.bool @Bool.true)), (DictEntry.mk (PyData.keyHash x0 q252) (Value.str q252 364) (Value.ref 38)), (DictEntry.mk (PyData.keyHash x0 q253) (Value.str q253 0) (Value.str q254 0))]) 10) (@List.toArray.{0} (Option @Value) [])))
noncomputable def o44 : ((x0 : @Params) → @Obj) := (fun (x0 : @Params) => (Obj.mk (Value.type "dict") none (Data.dict (@List.toArray.{0} @DictEntry [(DictEntry.mk (PyData.keyHash x0 q57) (Value.str q57 165) (Value.str q242 164)), (DictEntry.mk (PyData.keyHash x0 q94) (Value.str q94 166) @Value.none), (DictEntry.mk (PyData.keyHash x0 q95) (Value.str q95 167) @Value.none), (DictEntry.mk (PyData.keyHash x0 q96) (Value.str q96 168) (Value.builtin "__main__.__loader__#opaque")), (DictEntry.mk (PyData.keyHash x0 q97) (Value.str q97 169) @Value.none), (DictEntry.mk (PyData.keyHash x0 q255) (Value.str q255 170) (Value.ref 6)), (DictEntry.mk (PyData.keyHash x0 q256) (Value.str q256 171) (Value.ref 4)), (DictEntry.mk (PyData.keyHash x0 q257) (Value.str q257 173) (Value.str q258 172)), (DictEntry.mk (PyData.keyHash x0 q259) (Value.str q259 174) @Value.none), (DictEntry.mk (PyData.keyHash x0 q44) (Value.str q44 370) (Value.builtin "math.fabs")), (DictEntry.mk (PyData.keyHash x0 q41) (Value.str q41 373) (Value.builtin "math.hypot"))]) 11) (@List.toArray.{0} (Option @Value) [])))
noncomputable def o45 : ((x0 : @Params) → @Obj) := (fun (x0 : @Params) => (Obj.mk (Value.type "module") (some 0) @Data.plain (@List.toArray.{0} (Option @Value) [])))
noncomputable def o46 : ((x0 : @Params) → @Obj) := (fun (x0 : @Params) => (Obj.mk (Value.type "module") (some 3) @Data.plain (@List.toArray.{0} (Option @Value) [])))
noncomputable def o47 : ((x0 : @Params) → @Obj) := (fun (x0 : @Params) => (Obj.mk (Value.type "dict") none (Data.dict (@List.toArray.{0} @DictEntry []) 0) (@List.toArray.{0} (Option @Value) [])))
noncomputable def o48 : ((x0 : @Params) → @Obj) := (fun (x0 : @Params) => (Obj.mk (Value.type "tuple") none (Data.seq (@List.toArray.{0} @Value []) 0) (@List.toArray.{0} (Option @Value) [])))
noncomputable def o49 : ((x0 : @Params) → @Obj) := (fun (x0 : @Params) => (Obj.mk @Value.none none (Data.fields (@List.toArray.{0} @Value [])) (@List.toArray.{0} (Option @Value) [])))
noncomputable def o50 : ((x0 : @Params) → @Obj) := (fun (x0 : @Params) => (Obj.mk (Value.type "code") none (Data.fields (@List.toArray.{0} @Value [(Value.str q260 176), (Value.str q260 177), (Value.str q258 178), (Value.int 1 0), (Value.int 0 0), (Value.int 0 0), (Value.int 0 0), (Value.int 0 0), (Value.ref 7), (Value.bool @Bool.false), (Value.int 175 0), (Value.ref 8), @Value.none, @Value.none, @Value.none, @Value.none, (Value.int 179 0), (Value.int 1 0), (Value.str q258 180)])) (@List.toArray.{0} (Option @Value) [])))
noncomputable def o51 : ((x0 : @Params) → @Obj) := (fun (x0 : @Params) => (Obj.mk (Value.type "frame") none @Data.plain (@List.toArray.{0} (Option @Value) [(some (Value.ref 9)), (some (Value.ref 3)), (some (Value.ref 3)), none, (some (Value.str q242 164)), none, (some (Value.ref 0))])))
noncomputable def o52 : ((x0 : @Params) → @Obj) := (fun (x0 : @Params) => (Obj.mk (Value.type "tuple") none (Data.seq (@List.toArray.{0} @Value [(Value.str q44 182), (Value.str q41 183)]) 0) (@List.toArray.{0} (Option @Value) [])))
noncomputable def o53 : ((x0 : @Params) → @Obj) := (fun (x0 : @Params) => (Obj.mk (Value.type "dict") none (Data.dict (@List.toArray.{0} @DictEntry [(DictEntry.mk (PyData.keyHash x0 q57) (Value.str q57 288) (Value.str q243 287)), (DictEntry.mk (PyData.keyHash x0 q94) (Value.str q94 289) (Value.builtin "off-the-table:math.__doc__:shared#opaque")), (DictEntry.mk (PyData.keyHash x0 q95) (Value.str q95 291) (Value.str q261 290)), (DictEntry.mk (PyData.keyHash x0 q96) (Value.str q96 292) (Value.builtin "off-the-table:math.__loader__:shared#opaque")), (DictEntry.mk (PyData.keyHash x0 q97) (Value.str q97 293) (Value.builtin "off-the-table:math.__spec__:shared#opaque")), (DictEntry.mk (PyData.keyHash x0 q262) (Value.str q262 294) (Value.builtin "off-the-table:math.acos:shared#opaque")), (DictEntry.mk (PyData.keyHash x0 q263) (Value.str q263 295) (Value.builtin "off-the-table:math.acosh:shared#opaque")), (DictEntry.mk (PyData.keyHash x0 q264) (Value.str q264 296) (Value.builtin "off-the-table:math.asin:shared#opaque")), (DictEntry.mk (PyData.keyHash x0 q265) (Value.str q265 297) (Value.builtin "off-the-table:math.asinh:shared#opaque")), (DictEntry.mk (PyData.keyHash x0 q266) (Value.str q266 298) (Value.builtin "off-the-table:math.atan:shared#opaque")), (DictEntry.mk (PyData.keyHash x0 q267) (Value.str q267 299) (Value.builtin "off-the-table:math.atan2:shared#opaque")), (DictEntry.mk (PyData.keyHash x0 q268) (Value.str q268 300) (Value.builtin "off-the-table:math.atanh:shared#opaque")), (DictEntry.mk (PyData.keyHash x0 q269) (Value.str q269 301) (Value.builtin "off-the-table:math.cbrt:shared#opaque")), (DictEntry.mk (PyData.keyHash x0 q270) (Value.str q270 302) (Value.builtin "math.ceil")), (DictEntry.mk (PyData.keyHash x0 q271) (Value.str q271 303) (Value.builtin "math.copysign")), (DictEntry.mk (PyData.keyHash x0 q272) (Value.str q272 304) (Value.builtin "off-the-table:math.cos:shared#opaque")), (DictEntry.mk (PyData.keyHash x0 q273) (Value.str q273 305) (Value.builtin "off-the-table:math.cosh:shared#opaque")), (DictEntry.mk (PyData.keyHash x0 q274) (Value.str q274 306) (Value.builtin "math.degrees")), (DictEntry.mk (PyData.keyHash x0 q275) (Value.str q275 307) (Value.builtin "math.dist")), (DictEntry.mk (PyData.keyHash x0 q276) (Value.str q276 308) (Value.builtin "off-the-table:math.erf:shared#opaque")), (DictEntry.mk (PyData.keyHash x0 q277) (Value.str q277 309) (Value.builtin "off-the-table:math.erfc:shared#opaque")), (DictEntry.mk (PyData.keyHash x0 q278) (Value.str q278 310) (Value.builtin "off-the-table:math.exp:shared#opaque")), (DictEntry.mk (PyData.keyHash x0 q279) (Value.str q279 311) (Value.builtin "off-the-table:math.exp2:shared#opaque")), (DictEntry.mk (PyData.keyHash x0 q280) (Value.str q280 312) (Value.builtin "off-the-table:math.expm1:shared#opaque")), (DictEntry.mk (PyData.keyHash x0 q44) (Value.str q44 313) (Value.builtin "math.fabs")), (DictEntry.mk (PyData.keyHash x0 q281) (Value.str q281 314) (Value.builtin "math.factorial")), (DictEntry.mk (PyData.keyHash x0 q282) (Value.str q282 315) (Value.builtin "math.floor")), (DictEntry.mk (PyData.keyHash x0 q283) (Value.str q283 316) (Value.builtin "math.fma")), (DictEntry.mk (PyData.keyHash x0 q284) (Value.str q284 317) (Value.builtin "math.fmod")), (DictEntry.mk (PyData.keyHash x0 q285) (Value.str q285 318) (Value.builtin "math.frexp")), (DictEntry.mk (PyData.keyHash x0 q286) (Value.str q286 319) (Value.builtin "math.fsum")), (DictEntry.mk (PyData.keyHash x0 q287) (Value.str q287 320) (Value.builtin "off-the-table:math.gamma:shared#opaque")), (DictEntry.mk (PyData.keyHash x0 q288) (Value.str q288 321) (Value.builtin "math.gcd")), (DictEntry.mk (PyData.keyHash x0 q41) (Value.str q41 322) (Value.builtin "math.hypot")), (DictEntry.mk (PyData.keyHash x0 q289) (Value.str q289 323) (Value.builtin "math.isclose")), (DictEntry.mk (PyData.keyHash x0 q290) (Value.str q290 324) (Value.builtin "math.isfinite")), (DictEntry.mk (PyData.keyHash x0 q291) (Value.str q291 325) (Value.builtin "math.isinf")), (DictEntry.mk (PyData.keyHash x0 q292) (Value.str q292 326) (Value.builtin "math.isnan")), (DictEntry.mk (PyData.keyHash x0 q293) (Value.str q293 327) (Value.builtin "math.isqrt")), (DictEntry.mk (PyData.keyHash x0 q294) (Value.str q294 328) (Value.builtin "math.lcm")), (DictEntry.mk (PyData.keyHash x0 q295) (Value.str q295 329) (Value.builtin "math.ldexp")), (DictEntry.mk (PyData.keyHash x0 q296) (Value.str q296 330) (Value.builtin "off-the-table:math.lgamma:shared#opaque")), (DictEntry.mk (PyData.keyHash x0 q297) (Value.str q297 331) (Value.builtin "off-the-table:math.log:shared#opaque")), (DictEntry.mk (PyData.keyHash x0 q298) (Value.str q298 332) (Value.builtin "off-the-table:math.log1p:shared#opaque")), (DictEntry.mk (PyData.keyHash x0 q299) (Value.str q299 333) (Value.builtin "off-the-table:math.log10:shared#opaque")), (DictEntry.mk (PyData.keyHash x0 q300) (Value.str q300 334) (Value.builtin "off-the-table:math.log2:shared#opaque")), (DictEntry.mk (PyData.keyHash x0 q301) (Value.str q301 335) (Value.builtin "math.modf")), (DictEntry.mk (PyData.keyHash x0 q130) (Value.str q130 336) (Value.builtin "off-the-table:math.pow:shared#opaque")), (DictEntry.mk (PyData.keyHash x0 q302) (Value.str q302 337) (Value.builtin "math.radians")), (DictEntry.mk (PyData.keyHash x0 q303) (Value.str q303 338) (Value.builtin "math.remainder")), (DictEntry.mk (PyData.keyHash x0 q304) (Value.str q304 339) (Value.builtin "off-the-table:math.sin:shared#opaque")), (DictEntry.mk (PyData.keyHash x0 q305) (Value.str q305 340) (Value.builtin "off-the-table:math.sinh:shared#opaque")), (DictEntry.mk (PyData.keyHash x0 q306) (Value.str q306 341) (Value.builtin "math.sqrt")), (DictEntry.mk (PyData.keyHash x0 q307) (Value.str q307 342) (Value.builtin "off-the-table:math.tan:shared#opaque")), (DictEntry.mk (PyData.keyHash x0 q308) (Value.str q308 343) (Value.builtin "off-the-table:math.tanh:shared#opaque")), (DictEntry.mk (PyData.keyHash x0 q309) (Value.str q309 344) (Value.builtin "math.sumprod")), (DictEntry.mk (PyData.keyHash x0 q310) (Value.str q310 345) (Value.builtin "math.trunc")), (DictEntry.mk (PyData.keyHash x0 q311) (Value.str q311 346) (Value.builtin "math.prod")), (DictEntry.mk (PyData.keyHash x0 q312) (Value.str q312 347) (Value.builtin "math.perm")), (DictEntry.mk (PyData.keyHash x0 q313) (Value.str q313 348) (Value.builtin "math.comb")), (DictEntry.mk (PyData.keyHash x0 q314) (Value.str q314 349) (Value.builtin "math.nextafter")), (DictEntry.mk (PyData.keyHash x0 q315) (Value.str q315 350) (Value.builtin "math.ulp")), (DictEntry.mk (PyData.keyHash x0 q257) (Value.str q257 351) (Value.str q316 187)), (DictEntry.mk (PyData.keyHash x0 q317) (Value.str q317 353) (Value.float (@OfNat.ofNat.{0} @UInt64 (nat_lit 4614256656552045848) (@UInt64.instOfNat (nat_lit 4614256656552045848))) 352)), (DictEntry.mk (PyData.keyHash x0 q318) (Value.str q318 355) (Value.float (@OfNat.ofNat.{0} @UInt64 (nat_lit 4613303445314885481) (@UInt64.instOfNat (nat_lit 4613303445314885481))) 354)), (DictEntry.mk (PyData.keyHash x0 q319) (Value.str q319 357) (Value.float (@OfNat.ofNat.{0} @UInt64 (nat_lit 4618760256179416344) (@UInt64.instOfNat (nat_lit 4618760256179416344))) 356)), (DictEntry.mk (PyData.keyHash x0 q320) (Value.str q320 359) (Value.float (@OfNat.ofNat.{0} @UInt64 (nat_lit 9218868437227405312) (@UInt64.instOfNat (nat_lit 9218868437227405312))) 358)), (DictEntry.mk (PyData.keyHash x0 q321) (Value.str q321 361) (Value.float (@OfNat.ofNat.{0} @UInt64 (nat_lit 9221120237041090560) (@UInt64.instOfNat (nat_lit 9221120237041090560))) 360))]) 68) (@List.toArray.{0} (Option @Value) [])))
noncomputable def o54 : ((x0 : @Params) → @Obj) := (fun (x0 : @Params) => (Obj.mk (Value.type "module") (some 12) @Data.plain (@List.toArray.{0} (Option @Value) [])))
noncomputable def o55 : ((x0 : @Params) → @Obj) := (fun (x0 : @Params) => (Obj.mk (Value.type "dict") none (Data.dict (@List.toArray.{0} @DictEntry [(DictEntry.mk (PyData.keyHash x0 q322) (Value.str q322 189) (Value.str q243 188)), (DictEntry.mk (PyData.keyHash x0 q323) (Value.str q323 190) (Value.str q316 187))]) 2) (@List.toArray.{0} (Option @Value) [])))
noncomputable def o56 : ((x0 : @Params) → @Obj) := (fun (x0 : @Params) => (Obj.mk (Value.type "dict") none (Data.dict (@List.toArray.{0} @DictEntry [(DictEntry.mk (PyData.keyHash x0 q324) (Value.str q324 194) (Value.str q325 192)), (DictEntry.mk (PyData.keyHash x0 q326) (Value.str q326 195) (Value.int 1001 193)), (DictEntry.mk (PyData.keyHash x0 q94) (Value.str q94 196) (Value.builtin "_frozen_importlib_external._LoaderBasics.__doc__:str#opaque")), (DictEntry.mk (PyData.keyHash x0 q327) (Value.str q327 197) (Value.builtin "_frozen_importlib_external._LoaderBasics.is_package#opaque")), (DictEntry.mk (PyData.keyHash x0 q328) (Value.str q328 198) (Value.builtin "_frozen_importlib_external._LoaderBasics.create_module#opaque")), (DictEntry.mk (PyData.keyHash x0 q329) (Value.str q329 199) (Value.builtin "_frozen_importlib_external._LoaderBasics.exec_module#opaque")), (DictEntry.mk (PyData.keyHash x0 q330) (Value.str q330 200) (Value.builtin "_frozen_importlib_external._LoaderBasics.load_module#opaque")), (DictEntry.mk (PyData.keyHash x0 q331) (Value.str q331 201) (Value.ref 17)), (DictEntry.mk (PyData.keyHash x0 q332) (Value.str q332 203) (Value.ref 18)), (DictEntry.mk (PyData.keyHash x0 q333) (Value.str q333 205) (Value.ref 19))]) 10) (@List.toArray.{0} (Option @Value) [])))
noncomputable def o57 : ((x0 : @Params) → @Obj) := (fun (x0 : @Params) => (Obj.mk (Value.type "type") none (Data.cls (ClassData.mk q334 [(Value.type "object")] [(Value.ref 16), (Value.type "object")] 15 q334 @Bool.true [] [(Value.ref 27)] @Bool.false none @Bool.false)) (@List.toArray.{0} (Option @Value) [])))
noncomputable def o58 : ((x0 : @Params) → @Obj) := (fun (x0 : @Params) => (Obj.mk (Value.type "tuple") none (Data.seq (@List.toArray.{0} @Value []) 0) (@List.toArray.{0} (Option @Value) [])))
noncomputable def o59 : ((x0 : @Params) → @Obj) := (fun (x0 : @Params) => (Obj.mk (Value.type "getset_descriptor") none (Data.fields (@List.toArray.{0} @Value [(Value.str q332 202), (Value.ref 16), (Value.builtin "function.__dict__"), (Value.builtin "function.__dict__#set")])) (@List.toArray.{0} (Option @Value) [])))
noncomputable def o60 : ((x0 : @Params) → @Obj) := (fun (x0 : @Params) => (Obj.mk (Value.type "getset_descriptor") none (Data.fields (@List.toArray.{0} @Value [(Value.str q333 204), (Value.ref 16), (Value.builtin "ExceptionGroup.__weakref__"), @Value.none])) (@List.toArray.{0} (Option @Value) [])))
noncomputable def o61 : ((x0 : @Params) → @Obj) := (fun (x0 : @Params) => (Obj.mk @Value.none none (Data.seq (@List.toArray.{0} @Value [(Value.int 15 0), (Value.str q335 0), (Value.bool @Bool.true), (Value.bool @Bool.true), (Value.str q261 206), (Value.int 21 0), (Value.str q336 0), (Value.bool @Bool.true), (Value.bool @Bool.true), (Value.str q261 228), (Value.int 26 0), (Value.str q337 0), (Value.bool @Bool.true), (Value.bool @Bool.true), (Value.str q261 247), (Value.int 32 0), (Value.str q338 0), (Value.bool @Bool.true), (Value.bool @Bool.true), (Value.str q261 283)]) 3) (@List.toArray.{0} (Option @Value) [])))
noncomputable def o62 : ((x0 : @Params) → @Obj) := (fun (x0 : @Params) => (Obj.mk (Value.type "dict") none (Data.dict (@List.toArray.{0} @DictEntry [(DictEntry.mk (PyData.keyHash x0 q324) (Value.str q324 213) (Value.str q325 209)), (DictEntry.mk (PyData.keyHash x0 q326) (Value.str q326 214) (Value.int 1176 210)), (DictEntry.mk (PyData.keyHash x0 q94) (Value.str q94 215) (Value.builtin "_frozen_importlib_external.FileLoader.__doc__:str#opaque")), (DictEntry.mk (PyData.keyHash x0 q6) (Value.str q6 216) (Value.builtin "_frozen_importlib_external.FileLoader.__init__#opaque")), (DictEntry.mk (PyData.keyHash x0 q51) (Value.str q51 217) (Value.builtin "_frozen_importlib_external.FileLoader.__eq__#opaque")), (DictEntry.mk (PyData.keyHash x0 q53) (Value.str q53 218) (Value.builtin "_frozen_importlib_external.FileLoader.__hash__#opaque")), (DictEntry.mk (PyData.keyHash x0 q330) (Value.str q330 219) (Value.builtin "_frozen_importlib_external.FileLoader.load_module#opaque")), (DictEntry.mk (PyData.keyHash x0 q339) (Value.str q339 220) (Value.builtin "_frozen_importlib_external.FileLoader.get_filename#opaque")), (DictEntry.mk (PyData.keyHash x0 q340) (Value.str q340 221) (Value.builtin "_frozen_importlib_external.FileLoader.get_data#opaque")), (DictEntry.mk (PyData.keyHash x0 q341) (Value.str q341 222) (Value.builtin "_frozen_importlib_external.FileLoader.get_resource_reader#opaque")), (DictEntry.mk (PyData.keyHash x0 q331) (Value.str q331 223) (Value.ref 23)), (DictEntry.mk (PyData.keyHash x0 q332) (Value.str q332 225) (Value.ref 24)), (DictEntry.mk (PyData.keyHash x0 q333) (Value.str q333 227) (Value.ref 25))]) 13) (@List.toArray.{0} (Option @Value) [])))
noncomputable def o63 : ((x0 : @Params) → @Obj) := (fun (x0 : @Params) => (Obj.mk (Value.type "type") none (Data.cls (ClassData.mk q342 [(Value.type "object")] [(Value.ref 22), (Value.type "object")] 21 q342 @Bool.true [] [(Value.ref 27)] @Bool.false none @Bool.false)) (@List.toArray.{0} (Option @Value) [])))
noncomputable def o64 : ((x0 : @Params) → @Obj) := (fun (x0 : @Params) => (Obj.mk (Value.type "tuple") none (Data.seq (@List.toArray.{0} @Value [(Value.str q322 211), (Value.str q323 212)]) 0) (@List.toArray.{0} (Option @Value) [])))
noncomputable def o65 : ((x0 : @Params) → @Obj) := (fun (x0 : @Params) => (Obj.mk (Value.type "getset_descriptor") none (Data.fields (@List.toArray.{0} @Value [(Value.str q332 224), (Value.ref 22), (Value.builtin "function.__dict__"), (Value.builtin "function.__dict__#set")])) (@List.toArray.{0} (Option @Value) [])))
noncomputable def o66 : ((x0 : @Params) → @Obj) := (fun (x0 : @Params) => (Obj.mk (Value.type "getset_descriptor") none (Data.fields (@List.toArray.{0} @Value [(Value.str q333 226), (Value.ref 22), (Value.builtin "ExceptionGroup.__weakref__"), @Value.none])) (@List.toArray.{0} (Option @Value) [])))
noncomputable def o67 : ((x0 : @Params) → @Obj) := (fun (x0 : @Params) => (Obj.mk (Value.type "dict") none (Data.dict (@List.toArray.{0} @DictEntry [(DictEntry.mk (PyData.keyHash x0 q324) (Value.str q324 234) (Value.str q325 230)), (DictEntry.mk (PyData.keyHash x0 q326) (Value.str q326 235) (Value.int 1296 231)), (DictEntry.mk (PyData.keyHash x0 q94) (Value.str q94 236) (Value.builtin "_frozen_importlib_external.ExtensionFileLoader.__doc__:str#opaque")), (DictEntry.mk (PyData.keyHash x0 q6) (Value.str q6 237) (Value.builtin "_frozen_importlib_external.ExtensionFileLoader.__init__#opaque")), (DictEntry.mk (PyData.keyHash x0 q51) (Value.str q51 238) (Value.builtin "_frozen_importlib_external.ExtensionFileLoader.__eq__#opaque")), (DictEntry.mk (PyData.keyHash x0 q53) (Value.str q53 239) (Value.builtin "_frozen_importlib_external.ExtensionFileLoader.__hash__#opaque")), (DictEntry.mk (PyData.keyHash x0 q328) (Value.str q328 240) (Value.builtin "_frozen_importlib_external.ExtensionFileLoader.create_module#opaque")), (DictEntry.mk (PyData.keyHash x0 q329) (Value.str q329 241) (Value.builtin "_frozen_importlib_external.ExtensionFileLoader.exec_module#opaque")), (DictEntry.mk (PyData.keyHash x0 q327) (Value.str q327 242) (Value.builtin "_frozen_importlib_external.ExtensionFileLoader.is_package#opaque")), (DictEntry.mk (PyData.keyHash x0 q343) (Value.str q343 243) (Value.builtin "_frozen_importlib_external.ExtensionFileLoader.get_code#opaque")), (DictEntry.mk (PyData.keyHash x0 q344) (Value.str q344 244) (Value.builtin "_frozen_importlib_external.ExtensionFileLoader.get_source#opaque")), (DictEntry.mk (PyData.keyHash x0 q339) (Value.str q339 245) (Value.builtin "_frozen_importlib_external.ExtensionFileLoader.get_filename#opaque")), (DictEntry.mk (PyData.keyHash x0 q331) (Value.str q331 246) (Value.ref 28))]) 13) (@List.toArray.{0} (Option @Value) [])))
noncomputable def o68 : ((x0 : @Params) → @Obj) := (fun (x0 : @Params) => (Obj.mk (Value.type "type") none (Data.cls (ClassData.mk q345 [(Value.ref 22), (Value.ref 16)] [(Value.ref 27), (Value.ref 22), (Value.ref 16), (Value.type "object")] 26 q345 @Bool.true [] [] @Bool.false none @Bool.false)) (@List.toArray.{0} (Option @Value) [])))
noncomputable def o69 : ((x0 : @Params) → @Obj) := (fun (x0 : @Params) => (Obj.mk (Value.type "tuple") none (Data.seq (@List.toArray.{0} @Value [(Value.str q322 232), (Value.str q323 233)]) 0) (@List.toArray.{0} (Option @Value) [])))
noncomputable def o70 : ((x0 : @Params) → @Obj) := (fun (x0 : @Params) => (Obj.mk (Value.ref 27) (some 14) @Data.plain (@List.toArray.{0} (Option @Value) [])))
noncomputable def o71 : ((x0 : @Params) → @Obj) := (fun (x0 : @Params) => (Obj.mk (Value.type "list") none (Data.seq (@List.toArray.{0} @Value []) 0) (@List.toArray.{0} (Option @Value) [])))
noncomputable def o72 : ((x0 : @Params) → @Obj) := (fun (x0 : @Params) => (Obj.mk (Value.type "dict") none (Data.dict (@List.toArray.{0} @DictEntry [(DictEntry.mk (PyData.keyHash x0 q322) (Value.str q322 249) (Value.str q243 248)), (DictEntry.mk (PyData.keyHash x0 q346) (Value.str q346 250) (Value.ref 29)), (DictEntry.mk (PyData.keyHash x0 q347) (Value.str q347 251) (Value.str q316 187)), (DictEntry.mk (PyData.keyHash x0 q348) (Value.str q348 252) @Value.none), (DictEntry.mk (PyData.keyHash x0 q349) (Value.str q349 253) @Value.none), (DictEntry.mk (PyData.keyHash x0 q350) (Value.str q350 254) (Value.ref 30)), (DictEntry.mk (PyData.keyHash x0 q351) (Value.str q351 255) (Value.bool @Bool.true)), (DictEntry.mk (PyData.keyHash x0 q352) (Value.str q352 256) @Value.none), (DictEntry.mk (PyData.keyHash x0 q353) (Value.str q353 284) (Value.bool @Bool.false))]) 9) (@List.toArray.{0} (Option @Value) [])))
noncomputable def o73 : ((x0 : @Params) → @Obj) := (fun (x0 : @Params) => (Obj.mk (Value.type "dict") none (Data.dict (@List.toArray.{0} @DictEntry [(DictEntry.mk (PyData.keyHash x0 q324) (Value.str q324 268) (Value.str q354 258)), (DictEntry.mk (PyData.keyHash x0 q326) (Value.str q326 269) (Value.int 562 259)), (DictEntry.mk (PyData.keyHash x0 q94) (Value.str q94 270) (Value.builtin "_frozen_importlib.ModuleSpec.__doc__:str#opaque")), (DictEntry.mk (PyData.keyHash x0 q6) (Value.str q6 271) (Value.builtin "_frozen_importlib.ModuleSpec.__init__#opaque")), (DictEntry.mk (PyData.keyHash x0 q55) (Value.str q55 272) (Value.builtin "_frozen_importlib.ModuleSpec.__repr__#opaque")), (DictEntry.mk (PyData.keyHash x0 q51) (Value.str q51 273) (Value.builtin "_frozen_importlib.ModuleSpec.__eq__#opaque")), (DictEntry.mk (PyData.keyHash x0 q355) (Value.str q355 274) (Value.builtin "_frozen_importlib.ModuleSpec.cached#opaque")), (DictEntry.mk (PyData.keyHash x0 q356) (Value.str q356 275) (Value.builtin "_frozen_importlib.ModuleSpec.parent#opaque")), (DictEntry.mk (PyData.keyHash x0 q357) (Value.str q357 276) (Value.builtin "_frozen_importlib.ModuleSpec.has_location#opaque")), (DictEntry.mk (PyData.keyHash x0 q331) (Value.str q331 277) (Value.ref 34)), (DictEntry.mk (PyData.keyHash x0 q332) (Value.str q332 279) (Value.ref 35)), (DictEntry.mk (PyData.keyHash x0 q333) (Value.str q333 281) (Value.ref 36)), (DictEntry.mk (PyData.keyHash x0 q53) (Value.str q53 282) @Value.none)]) 13) (@List.toArray.{0} (Option @Value) [])))
noncomputable def o74 : ((x0 : @Params) → @Obj) := (fun (x0 : @Params) => (Obj.mk (Value.type "type") none (Data.cls (ClassData.mk q358 [(Value.type "object")] [(Value.ref 33), (Value.type "object")] 32 q358 @Bool.true [] [] @Bool.false none @Bool.false)) (@List.toArray.{0} (Option @Value) [])))
noncomputable def o75 : ((x0 : @Params) → @Obj) := (fun (x0 : @Params) => (Obj.mk (Value.type "tuple") none (Data.seq (@List.toArray.{0} @Value [(Value.str q352 260), (Value.str q351 261), (Value.str q350 262), (Value.str q346 263), (Value.str q348 264), (Value.str q322 265), (Value.str q347 266), (Value.str q349 267)]) 0) (@List.toArray.{0} (Option @Value) [])))
noncomputable def o76 : ((x0 : @Params) → @Obj) := (fun (x0 : @Params) => (Obj.mk (Value.type "getset_descriptor") none (Data.fields (@List.toArray.{0} @Value [(Value.str q332 278), (Value.ref 33), (Value.builtin "function.__dict__"), (Value.builtin "function.__dict__#set")])) (@List.toArray.{0} (Option @Value) [])))
noncomputable def o77 : ((x0 : @Params) → @Obj) := (fun (x0 : @Params) => (Obj.mk (Value.type "getset_descriptor") none (Data.fields (@List.toArray.{0} @Value [(Value.str q333 280), (Value.ref 33), (Value.builtin "ExceptionGroup.__weakref__"), @Value.none])) (@List.toArray.{0} (Option @Value) [])))
noncomputable def o78 : ((x0 : @Params) → @Obj) := (fun (x0 : @Params) => (Obj.mk (Value.ref 33) (some 31) @Data.plain (@List.toArray.{0} (Option @Value) [])))
noncomputable def o79 : ((x0 : @Params) → @Obj) := (fun (x0 : @Params) => (Obj.mk @Value.none none (Data.seq (@List.toArray.{0} @Value [(Value.int 12 0), (Value.str (Str.mk (@List.toArray.{0} @Nat [6, 288, 8, 95, 95, 110, 97, 109, 101, 95, 95, 6, 287, 4, 109, 97, 116, 104, 6, 289, 7, 95, 95, 100, 111, 99, 95, 95, 9, 23, 109, 97, 116, 104, 46, 95, 95, 100, 111, 99, 95, 95, 58, 115, 116, 114, 35, 111, 112, 97, 113, 117, 101, 6, 291, 11, 95, 95, 112, 97, 99, 107, 97, 103, 101, 95, 95, 6, 290, 0, 6, 292, 10, 95, 95, 108, 111, 97, 100, 101, 114, 95, 95, 4, 0, 0, 29, 6, 293, 8, 95, 95, 115, 112, 101, 99, 95, 95, 4, 0, 0, 37, 6, 294, 4, 97, 99, 111, 115, 9, 9, 109, 97, 116, 104, 46, 97, 99, 111, 115, 6, 295, 5, 97, 99, 111, 115, 104, 9, 10, 109, 97, 116, 104, 46, 97, 99, 111, 115, 104, 6, 296, 4, 97, 115, 105, 110, 9, 9, 109, 97, 116, 104, 46, 97, 115, 105, 110, 6, 297, 5, 97, 115, 105, 110, 104, 9, 10, 109, 97, 116, 104, 46, 97, 115, 105, 110, 104, 6, 298, 4, 97, 116, 97, 110, 9, 9, 109, 97, 116, 104, 46, 97, 116, 97, 110, 6, 299, 5, 97, 116, 97, 110, 50, 9, 10, 109, 97, 116, 104, 46, 97, 116, 97, 110, 50, 6, 300, 5, 97, 116, 97, 110, 104, 9, 10, 109, 97, 116, 104, 46, 97, 116, 97, 110, 104, 6, 301, 4, 99, 98, 114, 116, 9, 9, 109, 97, 116, 104, 46, 99, 98, 114, 116, 6, 302, 4, 99, 101, 105, 108, 9, 9, 109, 97, 116, 104, 46, 99, 101, 105, 108, 6, 303, 8, 99, 111, 112, 121, 115, 105, 103, 110, 9, 13, 109, 97, 116, 104, 46, 99, 111, 112, 121, 115, 105, 103, 110, 6, 304, 3, 99, 111, 115, 9, 8, 109, 97, 116, 104, 46, 99, 111, 115, 6, 305, 4, 99, 111, 115, 104, 9, 9, 109, 97, 116, 104, 46, 99, 111, 115, 104, 6, 306, 7, 100, 101, 103, 114, 101, 101, 115, 9, 12, 109, 97, 116, 104, 46, 100, 101, 103, 114, 101, 101, 115, 6, 307, 4, 100, 105, 115, 116, 9, 9, 109, 97, 116, 104, 46, 100, 105, 115, 116, 6, 308, 3, 101, 114, 102, 9, 8, 109, 97, 116, 104, 46, 101, 114, 102, 6, 309, 4, 101, 114, 102, 99, 9, 9, 109, 97, 116, 104, 46, 101, 114, 102, 99, 6, 310, 3, 101, 120, 112, 9, 8, 109, 97, 116, 104, 46, 101, 120, 112, 6, 311, 4, 101, 120, 112, 50, 9, 9, 109, 97, 116, 104, 46, 101, 120, 112, 50, 6, 312, 5, 101, 120, 112, 109, 49, 9, 10, 109, 97, 116, 104, 46, 101, 120, 112, 109, 49, 6, 313, 4, 102, 97, 98, 115, 9, 9, 109, 97, 116, 104, 46, 102, 97, 98, 115, 6, 314, 9, 102, 97, 99, 116, 111, 114, 105, 97, 108, 9, 14, 109, 97, 116, 104, 46, 102, 97, 99, 116, 111, 114, 105, 97, 108, 6, 315, 5, 102, 108, 111, 111, 114, 9, 10, 109, 97, 116, 104, 46, 102, 108, 111, 111, 114, 6, 316, 3, 102, 109, 97, 9, 8, 109, 97, 116, 104, 46, 102, 109, 97, 6, 317, 4, 102, 109, 111, 100, 9, 9, 109, 97, 116, 104, 46, 102, 109, 111, 100, 6, 318, 5, 102, 114, 101, 120, 112, 9, 10, 109, 97, 116, 104, 46, 102, 114, 101, 120, 112, 6, 319, 4, 102, 115, 117, 109, 9, 9, 109, 97, 116, 104, 46, 102, 115, 117, 109, 6, 320, 5, 103, 97, 109, 109, 97, 9, 10, 109, 97, 116, 104, 46, 103, 97, 109, 109, 97, 6, 321, 3, 103, 99, 100, 9, 8, 109, 97, 116, 104, 46, 103, 99, 100, 6, 322, 5, 104, 121, 112, 111, 116, 9, 10, 109, 97, 116, 104, 46, 104, 121, 112, 111, 116, 6, 323, 7, 105, 115, 99, 108, 111, 115, 101, 9, 12, 109, 97, 116, 104, 46, 105, 115, 99, 108, 111, 115, 101, 6, 324, 8, 105, 115, 102, 105, 110, 105, 116, 101, 9, 13, 109, 97, 116, 104, 46, 105, 115, 102, 105, 110, 105, 116, 101, 6, 325, 5, 105, 115, 105, 110, 102, 9, 10, 109, 97, 116, 104, 46, 105, 115, 105, 110, 102, 6, 326, 5, 105, 115, 110, 97, 110, 9, 10, 109, 97, 116, 104, 46, 105, 115, 110, 97, 110, 6, 327, 5, 105, 115, 113, 114, 116, 9, 10, 109, 97, 116, 104, 46, 105, 115, 113, 114, 116, 6, 328, 3, 108, 99, 109, 9, 8, 109, 97, 116, 104, 46, 108, 99, 109, 6, 329, 5, 108, 100, 101, 120, 112, 9, 10, 109, 97, 116, 104, 46, 108, 100, 101, 120, 112, 6, 330, 6, 108, 103, 97, 109, 109, 97, 9, 11, 109, 97, 116, 104, 46, 108, 103, 97, 109, 109, 97, 6, 331, 3, 108, 111, 103, 9, 8, 109, 97, 116, 104, 46, 108, 111, 103, 6, 332, 5, 108, 111, 103, 49, 112, 9, 10, 109, 97, 116, 104, 46, 108, 111, 103, 49, 112, 6, 333, 5, 108, 111, 103, 49, 48, 9, 10, 109, 97, 116, 104, 46, 108, 111, 103, 49, 48, 6, 334, 4, 108, 111, 103, 50, 9, 9, 109, 97, 116, 104, 46, 108, 111, 103, 50, 6, 335, 4, 109, 111, 100, 102, 9, 9, 109, 97, 116, 104, 46, 109, 111, 100, 102, 6, 336, 3, 112, 111, 119, 9, 8, 109, 97, 116, 104, 46, 112, 111, 119, 6, 337, 7, 114, 97, 100, 105, 97, 110, 115, 9, 12, 109, 97, 116, 104, 46, 114, 97, 100, 105, 97, 110, 115, 6, 338, 9, 114, 101, 109, 97, 105, 110, 100, 101, 114, 9, 14, 109, 97, 116, 104, 46, 114, 101, 109, 97, 105, 110, 100, 101, 114, 6, 339, 3, 115, 105, 110, 9, 8, 109, 97, 116, 104, 46, 115, 105, 110, 6, 340, 4, 115, 105, 110, 104, 9, 9, 109, 97, 116, 104, 46, 115, 105, 110, 104, 6, 341, 4, 115, 113, 114, 116, 9, 9, 109, 97, 116, 104, 46, 115, 113, 114, 116, 6, 342, 3, 116, 97, 110, 9, 8, 109, 97, 116, 104, 46, 116, 97, 110, 6, 343, 4, 116, 97, 110, 104, 9, 9, 109, 97, 116, 104, 46, 116, 97, 110, 104, 6, 344, 7, 115, 117, 109, 112, 114, 111, 100, 9, 12, 109, 97, 116, 104, 46, 115, 117, 109, 112, 114, 111, 100, 6, 345, 5, 116, 114, 117, 110, 99, 9, 10, 109, 97, 116, 104, 46, 116, 114, 117, 110, 99, 6, 346, 4, 112, 114, 111, 100, 9, 9, 109, 97, 116, 104, 46, 112, 114, 111, 100, 6, 347, 4, 112, 101, 114, 109, 9, 9, 109, 97, 116, 104, 46, 112, 101, 114, 109, 6, 348, 4, 99, 111, 109, 98, 9, 9, 109, 97, 116, 104, 46, 99, 111, 109, 98, 6, 349, 9, 110, 101, 120, 116, 97, 102, 116, 101, 114, 9, 14, 109, 97, 116, 104, 46, 110, 101, 120, 116, 97, 102, 116, 101, 114, 6, 350, 3, 117, 108, 112, 9, 8, 109, 97, 116, 104, 46, 117, 108, 112, 6, 351, 8, 95, 95, 102, 105, 108, 101, 95, 95, 6, 187, 123, 47, 110, 105, 120, 47, 115, 116, 111, 114, 101, 47, 119, 106, 49, 102, 53, 54, 113, 107, 121, 52, 112, 109, 106, 99, 55, 108, 48, 114, 54, 98, 54, 108, 55, 119, 104, 110, 110, 119, 55, 104, 112, 54, 45, 112, 121, 116, 104, 111, 110, 51, 45, 51, 46, 49, 51, 46, 49, 53, 47, 108, 105, 98, 47, 112, 121, 116, 104, 111, 110, 51, 46, 49, 51, 47, 108, 105, 98, 45, 100, 121, 110, 108, 111, 97, 100, 47, 109, 97, 116, 104, 46, 99, 112, 121, 116, 104, 111, 110, 45, 51, 49, 51, 45, 120, 56, 54, 95, 54, 52, 45, 108, 105, 110, 117, 120, 45, 103, 110, 117, 46, 115, 111, 6, 353, 2, 112, 105, 5, 352, 4614256656552045848, 6, 355, 1, 101, 5, 354, 4613303445314885481, 6, 357, 3, 116, 97, 117, 5, 356, 4618760256179416344, 6, 359, 3, 105, 110, 102, 5, 358, 9218868437227405312, 6, 361, 3, 110, 97, 110, 5, 360, 9221120237041090560])) 0), (Value.bool @Bool.true), (Value.bool @Bool.false), (Value.str q243 363)]) 0) (@List.toArray.{0} (Option @Value) [])))
noncomputable def heap79 : ((x0 : @Params) → @Heap) := (fun (x0 : @Params) => (Heap.mk (Array.mk [(o41 x0), (o42 x0), (o43 x0), (o44 x0), (o45 x0), (o46 x0), (o47 x0), (o48 x0), (o49 x0), (o50 x0), (o51 x0), (o52 x0), (o53 x0), (o54 x0), (o55 x0), (o56 x0), (o57 x0), (o58 x0), (o59 x0), (o60 x0), (o61 x0), (o62 x0), (o63 x0), (o64 x0), (o65 x0), (o66 x0), (o67 x0), (o68 x0), (o69 x0), (o70 x0), (o71 x0), (o72 x0), (o73 x0), (o74 x0), (o75 x0), (o76 x0), (o77 x0), (o78 x0), (o79 x0)]) (Life.mk [] [] [] 0 [] [] @Bool.false (@List.toArray.{0} @Nat []) [] 0 @Bool.false @Bool.false @Bool.false 0 [2000, 10, 10] @Bool.false 0 @Bool.true [] [] 0 @Bool.false)))
noncomputable def o80 : ((x0 : @Params) → @Obj) := (fun (x0 : @Params) => (Obj.mk (Value.type "tuple") none (Data.seq (@List.toArray.{0} @Value []) 0) (@List.toArray.{0} (Option @Value) [])))
noncomputable def o81 : ((x0 : @Params) → @Obj) := (fun (x0 : @Params) => (Obj.mk @Value.none none (Data.fields (@List.toArray.{0} @Value [])) (@List.toArray.{0} (Option @Value) [])))
noncomputable def o82 : ((x0 : @Params) → @Obj) := (fun (x0 : @Params) => (Obj.mk (Value.type "code") none (Data.fields (@List.toArray.{0} @Value [(Value.str q260 375), (Value.str q260 376), (Value.str q258 377), (Value.int 1 0), (Value.int 0 0), (Value.int 0 0), (Value.int 0 0), (Value.int 0 0), (Value.ref 39), (Value.bool @Bool.false), (Value.int 374 0), (Value.ref 40), @Value.none, @Value.none, @Value.none, @Value.none, (Value.int 378 0), (Value.int 1 0), (Value.str q258 379)])) (@List.toArray.{0} (Option @Value) [])))
noncomputable def o83 : ((x0 : @Params) → @Obj) := (fun (x0 : @Params) => (Obj.mk (Value.type "frame") none @Data.plain (@List.toArray.{0} (Option @Value) [(some (Value.ref 41)), (some (Value.ref 3)), (some (Value.ref 3)), none, (some (Value.str q242 164)), none, (some (Value.ref 0))])))
noncomputable def heap83 : ((x0 : @Params) → @Heap) := (fun (x0 : @Params) => (Heap.mk (Array.mk [(o41 x0), (o42 x0), (o43 x0), (o44 x0), (o45 x0), (o46 x0), (o47 x0), (o48 x0), (o49 x0), (o50 x0), (o51 x0), (o52 x0), (o53 x0), (o54 x0), (o55 x0), (o56 x0), (o57 x0), (o58 x0), (o59 x0), (o60 x0), (o61 x0), (o62 x0), (o63 x0), (o64 x0), (o65 x0), (o66 x0), (o67 x0), (o68 x0), (o69 x0), (o70 x0), (o71 x0), (o72 x0), (o73 x0), (o74 x0), (o75 x0), (o76 x0), (o77 x0), (o78 x0), (o79 x0), (o80 x0), (o81 x0), (o82 x0), (o83 x0)]) (Life.mk [] [] [] 0 [] [] @Bool.false (@List.toArray.{0} @Nat []) [] 0 @Bool.false @Bool.false @Bool.false 0 [2000, 10, 10] @Bool.false 0 @Bool.true [] [] 0 @Bool.false)))
noncomputable def tree84 : ((x0 : @Params) → @BT) := (fun (x0 : @Params) => (BT.node (o41 x0) (BT.node (o42 x0) (BT.node (o44 x0) (BT.node (o48 x0) (BT.node (o56 x0) (BT.node (o72 x0) @BT.nil @BT.nil) @BT.nil) (BT.node (o64 x0) (BT.node (o80 x0) @BT.nil @BT.nil) @BT.nil)) (BT.node (o52 x0) (BT.node (o60 x0) (BT.node (o76 x0) @BT.nil @BT.nil) @BT.nil) (BT.node (o68 x0) @BT.nil @BT.nil))) (BT.node (o46 x0) (BT.node (o50 x0) (BT.node (o58 x0) (BT.node (o74 x0) @BT.nil @BT.nil) @BT.nil) (BT.node (o66 x0) (BT.node (o82 x0) @BT.nil @BT.nil) @BT.nil)) (BT.node (o54 x0) (BT.node (o62 x0) (BT.node (o78 x0) @BT.nil @BT.nil) @BT.nil) (BT.node (o70 x0) @BT.nil @BT.nil)))) (BT.node (o43 x0) (BT.node (o45 x0) (BT.node (o49 x0) (BT.node (o57 x0) (BT.node (o73 x0) @BT.nil @BT.nil) @BT.nil) (BT.node (o65 x0) (BT.node (o81 x0) @BT.nil @BT.nil) @BT.nil)) (BT.node (o53 x0) (BT.node (o61 x0) (BT.node (o77 x0) @BT.nil @BT.nil) @BT.nil) (BT.node (o69 x0) @BT.nil @BT.nil))) (BT.node (o47 x0) (BT.node (o51 x0) (BT.node (o59 x0) (BT.node (o75 x0) @BT.nil @BT.nil) @BT.nil) (BT.node (o67 x0) (BT.node (o83 x0) @BT.nil @BT.nil) @BT.nil)) (BT.node (o55 x0) (BT.node (o63 x0) (BT.node (o79 x0) @BT.nil @BT.nil) @BT.nil) (BT.node (o71 x0) @BT.nil @BT.nil))))))
noncomputable def o86 : ((x0 : @Params) → @Obj) := (fun (x0 : @Params) => (Obj.mk (Value.type "dict") none (Data.dict (@List.toArray.{0} @DictEntry [(DictEntry.mk (PyData.keyHash x0 q57) (Value.str q57 165) (Value.str q359 387)), (DictEntry.mk (PyData.keyHash x0 q94) (Value.str q94 166) @Value.none), (DictEntry.mk (PyData.keyHash x0 q95) (Value.str q95 167) @Value.none), (DictEntry.mk (PyData.keyHash x0 q96) (Value.str q96 168) (Value.builtin "__main__.__loader__#opaque")), (DictEntry.mk (PyData.keyHash x0 q97) (Value.str q97 169) @Value.none), (DictEntry.mk (PyData.keyHash x0 q255) (Value.str q255 170) (Value.ref 6)), (DictEntry.mk (PyData.keyHash x0 q256) (Value.str q256 171) (Value.ref 4)), (DictEntry.mk (PyData.keyHash x0 q257) (Value.str q257 173) (Value.str q258 172)), (DictEntry.mk (PyData.keyHash x0 q259) (Value.str q259 174) @Value.none), (DictEntry.mk (PyData.keyHash x0 q44) (Value.str q44 370) (Value.builtin "math.fabs")), (DictEntry.mk (PyData.keyHash x0 q41) (Value.str q41 373) (Value.builtin "math.hypot")), (DictEntry.mk (PyData.keyHash x0 q16) (Value.str q16 386) (Value.ref 49)), (DictEntry.mk (PyData.keyHash x0 q10) (Value.str q10 406) (Value.ref 59))]) 13) (@List.toArray.{0} (Option @Value) [])))
noncomputable def o92 : ((x0 : @Params) → @Obj) := (fun (x0 : @Params) => (Obj.mk @Value.none none (Data.func (FuncData.mk q16 q16 (fdA (nth pb 1)) (FuncBody.stmts (fdB (nth pb 1))) (fdS (nth pb 1)) 0 [] @Value.none @Value.none @Value.none @Value.none none @Value.none @Value.none 0)) (@List.toArray.{0} (Option @Value) [])))
noncomputable def o100 : ((x0 : @Params) → @Obj) := (fun (x0 : @Params) => (Obj.mk (Value.type "code") none (Data.fields (@List.toArray.{0} @Value [(Value.str q10 391), (Value.str q10 392), (Value.str q258 393), (Value.int 6 0), (Value.int 0 0), (Value.int 0 0), (Value.int 0 0), (Value.int 0 0), (Value.ref 53), (Value.bool @Bool.false), (Value.int 374 0), (Value.ref 54), @Value.none, @Value.none, @Value.none, @Value.none, (Value.int 394 0), (Value.int 6 0), (Value.str q258 395)])) (@List.toArray.{0} (Option @Value) [])))
noncomputable def o96 : ((x0 : @Params) → @Obj) := (fun (x0 : @Params) => (Obj.mk (Value.type "builtin_function_or_method") none (Data.fields (@List.toArray.{0} @Value [(Value.builtin "type.__prepare__"), (Value.type "type")])) (@List.toArray.{0} (Option @Value) [])))
noncomputable def o88 : ((x0 : @Params) → @Obj) := (fun (x0 : @Params) => (Obj.mk (Value.type "tuple") none (Data.seq (@List.toArray.{0} @Value []) 0) (@List.toArray.{0} (Option @Value) [])))
noncomputable def o104 : ((x0 : @Params) → @Obj) := (fun (x0 : @Params) => (Obj.mk (Value.type "type") none (Data.cls (ClassData.mk q10 [(Value.type "ValueError")] [(Value.ref 59), (Value.type "ValueError"), (Value.type "Exception"), (Value.type "BaseException"), (Value.type "object")] 58 q10 @Bool.true [] [] @Bool.false none @Bool.false)) (@List.toArray.{0} (Option @Value) [(some (Value.ref 50)), none, (some (Value.str q10 389)), (some (Value.str q10 397)), (some (Value.builtin "ValueError.__new__")), (some (Value.bool @Bool.true))])))
noncomputable def o94 : ((x0 : @Params) → @Obj) := (fun (x0 : @Params) => (Obj.mk (Value.type "function") none (Data.func (FuncData.mk q16 q16 (fdA (nth pb 1)) (FuncBody.stmts (fdB (nth pb 1))) (fdS (nth pb 1)) 3 [] @Value.none @Value.none @Value.none (Value.str q242 164) none (Value.ref 48) @Value.none 0)) (@List.toArray.{0} (Option @Value) [])))
noncomputable def o102 : ((x0 : @Params) → @Obj) := (fun (x0 : @Params) => (Obj.mk (Value.type "tuple") none (Data.seq (@List.toArray.{0} @Value []) 0) (@List.toArray.{0} (Option @Value) [])))
noncomputable def o98 : ((x0 : @Params) → @Obj) := (fun (x0 : @Params) => (Obj.mk (Value.type "tuple") none (Data.seq (@List.toArray.{0} @Value []) 0) (@List.toArray.{0} (Option @Value) [])))
noncomputable def o90 : ((x0 : @Params) → @Obj) := (fun (x0 : @Params) => (Obj.mk (Value.type "tuple") none (Data.seq (@List.toArray.{0} @Value [(Value.str q0 383)]) 0) (@List.toArray.{0} (Option @Value) [])))
noncomputable def o106 : ((x0 : @Params) → @Obj) := (fun (x0 : @Params) => (Obj.mk (Value.type "super") none (Data.fields (@List.toArray.{0} @Value [(Value.ref 59), (Value.ref 59), (Value.ref 59)])) (@List.toArray.{0} (Option @Value) [])))
noncomputable def o93 : ((x0 : @Params) → @Obj) := (fun (x0 : @Params) => (Obj.mk (Value.type "code") none (Data.fields (@List.toArray.{0} @Value [(Value.str q16 380), (Value.str q16 381), (Value.str q258 382), (Value.int 2 0), (Value.int 1 0), (Value.int 0 0), (Value.int 0 0), (Value.int 3 0), (Value.ref 43), (Value.bool @Bool.true), (Value.int 374 0), (Value.ref 44), @Value.none, (Value.ref 45), (Value.ref 46), (Value.ref 47), (Value.int 384 0), (Value.int 2 0), (Value.str q258 385)])) (@List.toArray.{0} (Option @Value) [])))
noncomputable def o87 : ((x0 : @Params) → @Obj) := (fun (x0 : @Params) => (Obj.mk @Value.none none (Data.fields (@List.toArray.{0} @Value [(Value.int 2 0), (Value.int 0 0), (Value.ref 48), (Value.int 6 0), (Value.int 0 0), (Value.ref 55)])) (@List.toArray.{0} (Option @Value) [])))
noncomputable def o101 : ((x0 : @Params) → @Obj) := (fun (x0 : @Params) => (Obj.mk (Value.type "frame") none @Data.plain (@List.toArray.{0} (Option @Value) [(some (Value.ref 55)), (some (Value.ref 3)), (some (Value.ref 52)), none, (some (Value.str q359 387)), none, (some (Value.ref 0))])))
noncomputable def o97 : ((x0 : @Params) → @Obj) := (fun (x0 : @Params) => (Obj.mk (Value.type "dict") none (Data.dict (@List.toArray.{0} @DictEntry [(DictEntry.mk (PyData.keyHash x0 q324) (Value.str q324 396) (Value.str q359 387)), (DictEntry.mk (PyData.keyHash x0 q360) (Value.str q360 398) (Value.str q10 397)), (DictEntry.mk (PyData.keyHash x0 q326) (Value.str q326 400) (Value.int 6 399)), (DictEntry.mk (PyData.keyHash x0 q331) (Value.str q331 401) (Value.ref 57))]) 4) (@List.toArray.{0} (Option @Value) [])))
noncomputable def o89 : ((x0 : @Params) → @Obj) := (fun (x0 : @Params) => (Obj.mk @Value.none none (Data.fields (@List.toArray.{0} @Value [])) (@List.toArray.{0} (Option @Value) [])))
noncomputable def o105 : ((x0 : @Params) → @Obj) := (fun (x0 : @Params) => (Obj.mk (Value.type "getset_descriptor") none (Data.fields (@List.toArray.{0} @Value [(Value.str q333 402), (Value.ref 59), (Value.builtin "ExceptionGroup.__weakref__"), @Value.none])) (@List.toArray.{0} (Option @Value) [])))
noncomputable def o95 : ((x0 : @Params) → @Obj) := (fun (x0 : @Params) => (Obj.mk (Value.type "tuple") none (Data.seq (@List.toArray.{0} @Value [(Value.type "ValueError")]) 0) (@List.toArray.{0} (Option @Value) [])))
noncomputable def o103 : ((x0 : @Params) → @Obj) := (fun (x0 : @Params) => (Obj.mk (Value.type "dict") none (Data.dict (@List.toArray.{0} @DictEntry [(DictEntry.mk (PyData.keyHash x0 q324) (Value.str q324 396) (Value.str q359 387)), (DictEntry.mk (PyData.keyHash x0 q326) (Value.str q326 400) (Value.int 6 399)), (DictEntry.mk (PyData.keyHash x0 q331) (Value.str q331 401) (Value.ref 57)), (DictEntry.mk (PyData.keyHash x0 q333) (Value.str q333 403) (Value.ref 60)), (DictEntry.mk (PyData.keyHash x0 q94) (Value.str q94 404) @Value.none)]) 3) (@List.toArray.{0} (Option @Value) [])))
noncomputable def o99 : ((x0 : @Params) → @Obj) := (fun (x0 : @Params) => (Obj.mk @Value.none none (Data.fields (@List.toArray.{0} @Value [])) (@List.toArray.{0} (Option @Value) [])))
noncomputable def o91 : ((x0 : @Params) → @Obj) := (fun (x0 : @Params) => (Obj.mk (Value.type "tuple") none (Data.seq (@List.toArray.{0} @Value []) 0) (@List.toArray.{0} (Option @Value) [])))
noncomputable def o107 : ((x0 : @Params) → @Obj) := (fun (x0 : @Params) => (Obj.mk (Value.type "builtin_function_or_method") none (Data.fields (@List.toArray.{0} @Value [(Value.builtin "object.__init_subclass__"), (Value.ref 59)])) (@List.toArray.{0} (Option @Value) [])))
noncomputable def tree107 : ((x0 : @Params) → @BT) := (fun (x0 : @Params) => (BT.node (o41 x0) (BT.node (o42 x0) (BT.node (o86 x0) (BT.node (o48 x0) (BT.node (o56 x0) (BT.node (o72 x0) @BT.nil @BT.nil) (BT.node (o92 x0) @BT.nil @BT.nil)) (BT.node (o64 x0) (BT.node (o80 x0) @BT.nil @BT.nil) (BT.node (o100 x0) @BT.nil @BT.nil))) (BT.node (o52 x0) (BT.node (o60 x0) (BT.node (o76 x0) @BT.nil @BT.nil) (BT.node (o96 x0) @BT.nil @BT.nil)) (BT.node (o68 x0) (BT.node (o88 x0) @BT.nil @BT.nil) (BT.node (o104 x0) @BT.nil @BT.nil)))) (BT.node (o46 x0) (BT.node (o50 x0) (BT.node (o58 x0) (BT.node (o74 x0) @BT.nil @BT.nil) (BT.node (o94 x0) @BT.nil @BT.nil)) (BT.node (o66 x0) (BT.node (o82 x0) @BT.nil @BT.nil) (BT.node (o102 x0) @BT.nil @BT.nil))) (BT.node (o54 x0) (BT.node (o62 x0) (BT.node (o78 x0) @BT.nil @BT.nil) (BT.node (o98 x0) @BT.nil @BT.nil)) (BT.node (o70 x0) (BT.node (o90 x0) @BT.nil @BT.nil) (BT.node (o106 x0) @BT.nil @BT.nil))))) (BT.node (o43 x0) (BT.node (o45 x0) (BT.node (o49 x0) (BT.node (o57 x0) (BT.node (o73 x0) @BT.nil @BT.nil) (BT.node (o93 x0) @BT.nil @BT.nil)) (BT.node (o65 x0) (BT.node (o87 x0) @BT.nil @BT.nil) (BT.node (o101 x0) @BT.nil @BT.nil))) (BT.node (o53 x0) (BT.node (o61 x0) (BT.node (o77 x0) @BT.nil @BT.nil) (BT.node (o97 x0) @BT.nil @BT.nil)) (BT.node (o69 x0) (BT.node (o89 x0) @BT.nil @BT.nil) (BT.node (o105 x0) @BT.nil @BT.nil)))) (BT.node (o47 x0) (BT.node (o51 x0) (BT.node (o59 x0) (BT.node (o75 x0) @BT.nil @BT.nil) (BT.node (o95 x0) @BT.nil @BT.nil)) (BT.node (o67 x0) (BT.node (o83 x0) @BT.nil @BT.nil) (BT.node (o103 x0) @BT.nil @BT.nil))) (BT.node (o55 x0) (BT.node (o63 x0) (BT.node (o79 x0) @BT.nil @BT.nil) (BT.node (o99 x0) @BT.nil @BT.nil)) (BT.node (o71 x0) (BT.node (o91 x0) @BT.nil @BT.nil) (BT.node (o107 x0) @BT.nil @BT.nil)))))))
noncomputable def o108 : ((x0 : @Params) → @Obj) := (fun (x0 : @Params) => (Obj.mk (Value.type "dict") none (Data.dict (@List.toArray.{0} @DictEntry [(DictEntry.mk (PyData.keyHash x0 q57) (Value.str q57 165) (Value.str q359 387)), (DictEntry.mk (PyData.keyHash x0 q94) (Value.str q94 166) @Value.none), (DictEntry.mk (PyData.keyHash x0 q95) (Value.str q95 167) @Value.none), (DictEntry.mk (PyData.keyHash x0 q96) (Value.str q96 168) (Value.builtin "__main__.__loader__#opaque")), (DictEntry.mk (PyData.keyHash x0 q97) (Value.str q97 169) @Value.none), (DictEntry.mk (PyData.keyHash x0 q255) (Value.str q255 170) (Value.ref 6)), (DictEntry.mk (PyData.keyHash x0 q256) (Value.str q256 171) (Value.ref 4)), (DictEntry.mk (PyData.keyHash x0 q257) (Value.str q257 173) (Value.str q258 172)), (DictEntry.mk (PyData.keyHash x0 q259) (Value.str q259 174) @Value.none), (DictEntry.mk (PyData.keyHash x0 q44) (Value.str q44 370) (Value.builtin "math.fabs")), (DictEntry.mk (PyData.keyHash x0 q41) (Value.str q41 373) (Value.builtin "math.hypot")), (DictEntry.mk (PyData.keyHash x0 q16) (Value.str q16 386) (Value.ref 49)), (DictEntry.mk (PyData.keyHash x0 q10) (Value.str q10 406) (Value.ref 59)), (DictEntry.mk (PyData.keyHash x0 q40) (Value.str q40 658) (Value.ref 270))]) 14) (@List.toArray.{0} (Option @Value) [])))
noncomputable def o110 : ((x0 : @Params) → @Obj) := (fun (x0 : @Params) => (Obj.mk (Value.type "tuple") none (Data.seq (@List.toArray.{0} @Value []) 0) (@List.toArray.{0} (Option @Value) [])))
noncomputable def o174 : ((x0 : @Params) → @Obj) := (fun (x0 : @Params) => (Obj.mk @Value.none none (Data.fields (@List.toArray.{0} @Value [])) (@List.toArray.{0} (Option @Value) [])))
noncomputable def o302 : ((x0 : @Params) → @Obj) := (fun (x0 : @Params) => (Obj.mk (Value.type "code") none (Data.fields (@List.toArray.{0} @Value [(Value.str q61 634), (Value.str q361 635), (Value.str q258 636), (Value.int 100 0), (Value.int 1 0), (Value.int 0 0), (Value.int 0 0), (Value.int 3 0), (Value.ref 250), (Value.bool @Bool.true), (Value.int 374 0), (Value.ref 251), @Value.none, (Value.ref 252), (Value.ref 253), (Value.ref 254), (Value.int 638 0), (Value.int 100 0), (Value.str q258 639)])) (@List.toArray.{0} (Option @Value) [])))
noncomputable def o238 : ((x0 : @Params) → @Obj) := (fun (x0 : @Params) => (Obj.mk @Value.none none (Data.func (FuncData.mk q42 q362 (fdA (nth (cdB (nth pb 4)) 16)) (FuncBody.stmts (fdB (nth (cdB (nth pb 4)) 16))) (fdS (nth (cdB (nth pb 4)) 15)) 0 [] @Value.none @Value.none @Value.none @Value.none none @Value.none @Value.none 0)) (@List.toArray.{0} (Option @Value) [])))
noncomputable def o142 : ((x0 : @Params) → @Obj) := (fun (x0 : @Params) => (Obj.mk (Value.type "code") none (Data.fields (@List.toArray.{0} @Value [(Value.str q18 458), (Value.str q363 459), (Value.str q258 460), (Value.int 21 0), (Value.int 2 0), (Value.int 0 0), (Value.int 1 0), (Value.int 3 0), (Value.ref 90), (Value.bool @Bool.true), (Value.int 374 0), (Value.ref 91), @Value.none, (Value.ref 92), (Value.ref 93), (Value.ref 94), (Value.int 464 0), (Value.int 21 0), (Value.str q258 465)])) (@List.toArray.{0} (Option @Value) [])))
noncomputable def o206 : ((x0 : @Params) → @Obj) := (fun (x0 : @Params) => (Obj.mk (Value.type "tuple") none (Data.seq (@List.toArray.{0} @Value []) 0) (@List.toArray.{0} (Option @Value) [])))
noncomputable def o270 : ((x0 : @Params) → @Obj) := (fun (x0 : @Params) => (Obj.mk @Value.none none (Data.fields (@List.toArray.{0} @Value [])) (@List.toArray.{0} (Option @Value) [])))
noncomputable def o126 : ((x0 : @Params) → @Obj) := (fun (x0 : @Params) => (Obj.mk (Value.type "tuple") none (Data.seq (@List.toArray.{0} @Value []) 0) (@List.toArray.{0} (Option @Value) [])))
noncomputable def o190 : ((x0 : @Params) → @Obj) := (fun (x0 : @Params) => (Obj.mk (Value.type "tuple") none (Data.seq (@List.toArray.{0} @Value []) 0) (@List.toArray.{0} (Option @Value) [])))
noncomputable def o318 : ((x0 : @Params) → @Obj) := (fun (x0 : @Params) => (Obj.mk (Value.type "member_descriptor") none (Data.fields (@List.toArray.{0} @Value [(Value.str q2 652), (Value.ref 270), (Value.builtin "proto.slot"), (Value.builtin "proto.slot#set"), (Value.int 1 0)])) (@List.toArray.{0} (Option @Value) [])))
noncomputable def o254 : ((x0 : @Params) → @Obj) := (fun (x0 : @Params) => (Obj.mk (Value.type "function") none (Data.func (FuncData.mk q45 q364 (fdA (nth (cdB (nth pb 4)) 18)) (FuncBody.stmts (fdB (nth (cdB (nth pb 4)) 18))) (fdS (nth (cdB (nth pb 4)) 17)) 3 [] @Value.none @Value.none @Value.none (Value.str q359 387) none (Value.ref 206) @Value.none 0)) (@List.toArray.{0} (Option @Value) [])))
noncomputable def o158 : ((x0 : @Params) → @Obj) := (fun (x0 : @Params) => (Obj.mk (Value.type "tuple") none (Data.seq (@List.toArray.{0} @Value []) 0) (@List.toArray.{0} (Option @Value) [])))
noncomputable def o222 : ((x0 : @Params) → @Obj) := (fun (x0 : @Params) => (Obj.mk (Value.type "tuple") none (Data.seq (@List.toArray.{0} @Value []) 0) (@List.toArray.{0} (Option @Value) [])))
noncomputable def o286 : ((x0 : @Params) → @Obj) := (fun (x0 : @Params) => (Obj.mk (Value.type "tuple") none (Data.seq (@List.toArray.{0} @Value []) 0) (@List.toArray.{0} (Option @Value) [])))
noncomputable def o118 : ((x0 : @Params) → @Obj) := (fun (x0 : @Params) => (Obj.mk (Value.type "tuple") none (Data.seq (@List.toArray.{0} @Value [(Value.float (@OfNat.ofNat.{0} @UInt64 (nat_lit 0) (@UInt64.instOfNat (nat_lit 0))) 426), (Value.float (@OfNat.ofNat.{0} @UInt64 (nat_lit 4607182418800017408) (@UInt64.instOfNat (nat_lit 4607182418800017408))) 427)]) 0) (@List.toArray.{0} (Option @Value) [])))
noncomputable def o182 : ((x0 : @Params) → @Obj) := (fun (x0 : @Params) => (Obj.mk (Value.type "tuple") none (Data.seq (@List.toArray.{0} @Value [(Value.str q7 511), (Value.str q22 512)]) 0) (@List.toArray.{0} (Option @Value) [])))
noncomputable def o310 : ((x0 : @Params) → @Obj) := (fun (x0 : @Params) => (Obj.mk (Value.type "function") none (Data.func (FuncData.mk q62 q365 (fdA (nth (cdB (nth pb 4)) 28)) (FuncBody.stmts (fdB (nth (cdB (nth pb 4)) 28))) (fdS (nth (cdB (nth pb 4)) 28)) 3 [] @Value.none @Value.none @Value.none (Value.str q359 387) none (Value.ref 262) @Value.none 0)) (@List.toArray.{0} (Option @Value) [])))
noncomputable def o246 : ((x0 : @Params) → @Obj) := (fun (x0 : @Params) => (Obj.mk (Value.type "code") none (Data.fields (@List.toArray.{0} @Value [(Value.str q43 572), (Value.str q366 573), (Value.str q258 574), (Value.int 72 0), (Value.int 2 0), (Value.int 0 0), (Value.int 0 0), (Value.int 3 0), (Value.ref 194), (Value.bool @Bool.true), (Value.int 374 0), (Value.ref 195), @Value.none, (Value.ref 196), (Value.ref 197), (Value.ref 198), (Value.int 577 0), (Value.int 72 0), (Value.str q258 578)])) (@List.toArray.{0} (Option @Value) [])))
noncomputable def o150 : ((x0 : @Params) → @Obj) := (fun (x0 : @Params) => (Obj.mk (Value.type "function") none (Data.func (FuncData.mk q21 q367 (fdA (nth (cdB (nth pb 4)) 4)) (FuncBody.stmts (fdB (nth (cdB (nth pb 4)) 4))) (fdS (nth (cdB (nth pb 4)) 4)) 3 [] @Value.none @Value.none @Value.none (Value.str q359 387) none (Value.ref 102) @Value.none 0)) (@List.toArray.{0} (Option @Value) [])))
noncomputable def o214 : ((x0 : @Params) → @Obj) := (fun (x0 : @Params) => (Obj.mk (Value.type "tuple") none (Data.seq (@List.toArray.{0} @Value []) 0) (@List.toArray.{0} (Option @Value) [])))
noncomputable def o278 : ((x0 : @Params) → @Obj) := (fun (x0 : @Params) => (Obj.mk (Value.type "tuple") none (Data.seq (@List.toArray.{0} @Value [(Value.str q37 615), (Value.str q38 616)]) 0) (@List.toArray.{0} (Option @Value) [])))
noncomputable def o134 : ((x0 : @Params) → @Obj) := (fun (x0 : @Params) => (Obj.mk (Value.type "classmethod") (some 86) (Data.fields (@List.toArray.{0} @Value [(Value.ref 85), (Value.bool @Bool.false)])) (@List.toArray.{0} (Option @Value) [])))
noncomputable def o198 : ((x0 : @Params) → @Obj) := (fun (x0 : @Params) => (Obj.mk (Value.type "tuple") none (Data.seq (@List.toArray.{0} @Value []) 0) (@List.toArray.{0} (Option @Value) [])))
noncomputable def o262 : ((x0 : @Params) → @Obj) := (fun (x0 : @Params) => (Obj.mk (Value.type "tuple") none (Data.seq (@List.toArray.{0} @Value []) 0) (@List.toArray.{0} (Option @Value) [])))
noncomputable def o166 : ((x0 : @Params) → @Obj) := (fun (x0 : @Params) => (Obj.mk (Value.type "tuple") none (Data.seq (@List.toArray.{0} @Value []) 0) (@List.toArray.{0} (Option @Value) [])))
noncomputable def o230 : ((x0 : @Params) → @Obj) := (fun (x0 : @Params) => (Obj.mk (Value.type "tuple") none (Data.seq (@List.toArray.{0} @Value []) 0) (@List.toArray.{0} (Option @Value) [])))
noncomputable def o294 : ((x0 : @Params) → @Obj) := (fun (x0 : @Params) => (Obj.mk @Value.none none (Data.func (FuncData.mk q55 q368 (fdA (nth (cdB (nth pb 4)) 26)) (FuncBody.stmts (fdB (nth (cdB (nth pb 4)) 26))) (fdS (nth (cdB (nth pb 4)) 26)) 0 [] @Value.none @Value.none @Value.none @Value.none none @Value.none @Value.none 0)) (@List.toArray.{0} (Option @Value) [])))
noncomputable def o114 : ((x0 : @Params) → @Obj) := (fun (x0 : @Params) => (Obj.mk @Value.none none (Data.fields (@List.toArray.{0} @Value [(Value.int 11 0), (Value.int 4 0), (Value.ref 77), (Value.int 18 0), (Value.int 4 0), (Value.ref 84), (Value.int 21 0), (Value.int 4 0), (Value.ref 95), (Value.int 24 0), (Value.int 4 0), (Value.ref 102), (Value.int 27 0), (Value.int 4 0), (Value.ref 109), (Value.int 30 0), (Value.int 4 0), (Value.ref 116), (Value.int 33 0), (Value.int 4 0), (Value.ref 124), (Value.int 36 0), (Value.int 4 0), (Value.ref 131), (Value.int 39 0), (Value.int 4 0), (Value.ref 138), (Value.int 43 0), (Value.int 4 0), (Value.ref 145), (Value.int 47 0), (Value.int 4 0), (Value.ref 153), (Value.int 51 0), (Value.int 4 0), (Value.ref 161), (Value.int 55 0), (Value.int 4 0), (Value.ref 169), (Value.int 59 0), (Value.int 4 0), (Value.ref 177), (Value.int 62 0), (Value.int 4 0), (Value.ref 185), (Value.int 67 0), (Value.int 4 0), (Value.ref 192), (Value.int 72 0), (Value.int 4 0), (Value.ref 199), (Value.int 75 0), (Value.int 4 0), (Value.ref 206), (Value.int 78 0), (Value.int 4 0), (Value.ref 213), (Value.int 81 0), (Value.int 4 0), (Value.ref 220), (Value.int 85 0), (Value.int 4 0), (Value.ref 227), (Value.int 89 0), (Value.int 4 0), (Value.ref 234), (Value.int 94 0), (Value.int 4 0), (Value.ref 241), (Value.int 97 0), (Value.int 4 0), (Value.ref 248), (Value.int 100 0), (Value.int 4 0), (Value.ref 255), (Value.int 103 0), (Value.int 4 0), (Value.ref 262)])) (@List.toArray.{0} (Option @Value) [])))
noncomputable def o178 : ((x0 : @Params) → @Obj) := (fun (x0 : @Params) => (Obj.mk (Value.type "code") none (Data.fields (@List.toArray.{0} @Value [(Value.str q27 500), (Value.str q369 501), (Value.str q258 502), (Value.int 36 0), (Value.int 2 0), (Value.int 0 0), (Value.int 0 0), (Value.int 3 0), (Value.ref 126), (Value.bool @Bool.true), (Value.int 374 0), (Value.ref 127), @Value.none, (Value.ref 128), (Value.ref 129), (Value.ref 130), (Value.int 505 0), (Value.int 36 0), (Value.str q258 506)])) (@List.toArray.{0} (Option @Value) [])))
noncomputable def o306 : ((x0 : @Params) → @Obj) := (fun (x0 : @Params) => (Obj.mk (Value.type "tuple") none (Data.seq (@List.toArray.{0} @Value [(Value.str q7 644), (Value.str q63 645)]) 0) (@List.toArray.{0} (Option @Value) [])))
noncomputable def o242 : ((x0 : @Params) → @Obj) := (fun (x0 : @Params) => (Obj.mk @Value.none none (Data.fields (@List.toArray.{0} @Value [])) (@List.toArray.{0} (Option @Value) [])))
noncomputable def o146 : ((x0 : @Params) → @Obj) := (fun (x0 : @Params) => (Obj.mk (Value.type "tuple") none (Data.seq (@List.toArray.{0} @Value [(Value.str q7 470), (Value.str q22 471)]) 0) (@List.toArray.{0} (Option @Value) [])))
noncomputable def o210 : ((x0 : @Params) → @Obj) := (fun (x0 : @Params) => (Obj.mk (Value.type "property") none (Data.fields (@List.toArray.{0} @Value [(Value.ref 162), @Value.none, @Value.none, @Value.none, (Value.str q33 539), (Value.bool @Bool.false)])) (@List.toArray.{0} (Option @Value) [])))
noncomputable def o274 : ((x0 : @Params) → @Obj) := (fun (x0 : @Params) => (Obj.mk (Value.type "code") none (Data.fields (@List.toArray.{0} @Value [(Value.str q49 603), (Value.str q370 604), (Value.str q258 605), (Value.int 85 0), (Value.int 2 0), (Value.int 0 0), (Value.int 0 0), (Value.int 3 0), (Value.ref 222), (Value.bool @Bool.true), (Value.int 374 0), (Value.ref 223), @Value.none, (Value.ref 224), (Value.ref 225), (Value.ref 226), (Value.int 608 0), (Value.int 85 0), (Value.str q258 609)])) (@List.toArray.{0} (Option @Value) [])))
noncomputable def o130 : ((x0 : @Params) → @Obj) := (fun (x0 : @Params) => (Obj.mk @Value.none none (Data.func (FuncData.mk q13 q371 (fdA (nth (cdB (nth pb 4)) 2)) (FuncBody.stmts (fdB (nth (cdB (nth pb 4)) 2))) (fdS (nth (cdB (nth pb 4)) 2)) 0 [] @Value.none @Value.none @Value.none @Value.none none @Value.none @Value.none 0)) (@List.toArray.{0} (Option @Value) [])))
noncomputable def o194 : ((x0 : @Params) → @Obj) := (fun (x0 : @Params) => (Obj.mk (Value.type "property") none (Data.fields (@List.toArray.{0} @Value [(Value.ref 146), @Value.none, @Value.none, @Value.none, (Value.str q30 523), (Value.bool @Bool.false)])) (@List.toArray.{0} (Option @Value) [])))
noncomputable def o258 : ((x0 : @Params) → @Obj) := (fun (x0 : @Params) => (Obj.mk (Value.type "tuple") none (Data.seq (@List.toArray.{0} @Value []) 0) (@List.toArray.{0} (Option @Value) [])))
noncomputable def o162 : ((x0 : @Params) → @Obj) := (fun (x0 : @Params) => (Obj.mk @Value.none none (Data.func (FuncData.mk q24 q372 (fdA (nth (cdB (nth pb 4)) 6)) (FuncBody.stmts (fdB (nth (cdB (nth pb 4)) 6))) (fdS (nth (cdB (nth pb 4)) 6)) 0 [] @Value.none @Value.none @Value.none @Value.none none @Value.none @Value.none 0)) (@List.toArray.{0} (Option @Value) [])))
noncomputable def o226 : ((x0 : @Params) → @Obj) := (fun (x0 : @Params) => (Obj.mk (Value.type "property") none (Data.fields (@List.toArray.{0} @Value [(Value.ref 178), @Value.none, @Value.none, @Value.none, (Value.str q35 555), (Value.bool @Bool.false)])) (@List.toArray.{0} (Option @Value) [])))
noncomputable def o290 : ((x0 : @Params) → @Obj) := (fun (x0 : @Params) => (Obj.mk (Value.type "tuple") none (Data.seq (@List.toArray.{0} @Value []) 0) (@List.toArray.{0} (Option @Value) [])))
noncomputable def o122 : ((x0 : @Params) → @Obj) := (fun (x0 : @Params) => (Obj.mk (Value.type "tuple") none (Data.seq (@List.toArray.{0} @Value []) 0) (@List.toArray.{0} (Option @Value) [])))
noncomputable def o186 : ((x0 : @Params) → @Obj) := (fun (x0 : @Params) => (Obj.mk (Value.type "function") none (Data.func (FuncData.mk q29 q373 (fdA (nth (cdB (nth pb 4)) 9)) (FuncBody.stmts (fdB (nth (cdB (nth pb 4)) 9))) (fdS (nth (cdB (nth pb 4)) 4)) 3 [] @Value.none @Value.none @Value.none (Value.str q359 387) none (Value.ref 138) @Value.none 0)) (@List.toArray.{0} (Option @Value) [])))
noncomputable def o314 : ((x0 : @Params) → @Obj) := (fun (x0 : @Params) => (Obj.mk (Value.type "tuple") none (Data.seq (@List.toArray.{0} @Value []) 0) (@List.toArray.{0} (Option @Value) [])))
noncomputable def o250 : ((x0 : @Params) → @Obj) := (fun (x0 : @Params) => (Obj.mk (Value.type "tuple") none (Data.seq (@List.toArray.{0} @Value [(Value.str q37 583), (Value.str q38 584)]) 0) (@List.toArray.{0} (Option @Value) [])))
noncomputable def o154 : ((x0 : @Params) → @Obj) := (fun (x0 : @Params) => (Obj.mk (Value.type "tuple") none (Data.seq (@List.toArray.{0} @Value []) 0) (@List.toArray.{0} (Option @Value) [])))
noncomputable def o218 : ((x0 : @Params) → @Obj) := (fun (x0 : @Params) => (Obj.mk (Value.type "property") none (Data.fields (@List.toArray.{0} @Value [(Value.ref 170), @Value.none, @Value.none, @Value.none, (Value.str q34 547), (Value.bool @Bool.false)])) (@List.toArray.{0} (Option @Value) [])))
noncomputable def o282 : ((x0 : @Params) → @Obj) := (fun (x0 : @Params) => (Obj.mk (Value.type "function") none (Data.func (FuncData.mk q51 q374 (fdA (nth (cdB (nth pb 4)) 24)) (FuncBody.stmts (fdB (nth (cdB (nth pb 4)) 24))) (fdS (nth (cdB (nth pb 4)) 24)) 3 [] @Value.none @Value.none @Value.none (Value.str q359 387) none (Value.ref 234) @Value.none 0)) (@List.toArray.{0} (Option @Value) [])))
noncomputable def o138 : ((x0 : @Params) → @Obj) := (fun (x0 : @Params) => (Obj.mk @Value.none none (Data.fields (@List.toArray.{0} @Value [])) (@List.toArray.{0} (Option @Value) [])))
noncomputable def o202 : ((x0 : @Params) → @Obj) := (fun (x0 : @Params) => (Obj.mk (Value.type "property") none (Data.fields (@List.toArray.{0} @Value [(Value.ref 154), @Value.none, @Value.none, @Value.none, (Value.str q32 531), (Value.bool @Bool.false)])) (@List.toArray.{0} (Option @Value) [])))
noncomputable def o266 : ((x0 : @Params) → @Obj) := (fun (x0 : @Params) => (Obj.mk @Value.none none (Data.func (FuncData.mk q47 q375 (fdA (nth (cdB (nth pb 4)) 20)) (FuncBody.stmts (fdB (nth (cdB (nth pb 4)) 20))) (fdS (nth (cdB (nth pb 4)) 19)) 0 [] @Value.none @Value.none @Value.none @Value.none none @Value.none @Value.none 0)) (@List.toArray.{0} (Option @Value) [])))
noncomputable def o170 : ((x0 : @Params) → @Obj) := (fun (x0 : @Params) => (Obj.mk @Value.none none (Data.func (FuncData.mk q26 q376 (fdA (nth (cdB (nth pb 4)) 7)) (FuncBody.stmts (fdB (nth (cdB (nth pb 4)) 7))) (fdS (nth (cdB (nth pb 4)) 7)) 0 [] @Value.none @Value.none @Value.none @Value.none none @Value.none @Value.none 0)) (@List.toArray.{0} (Option @Value) [])))
noncomputable def o234 : ((x0 : @Params) → @Obj) := (fun (x0 : @Params) => (Obj.mk (Value.type "tuple") none (Data.seq (@List.toArray.{0} @Value []) 0) (@List.toArray.{0} (Option @Value) [])))
noncomputable def o298 : ((x0 : @Params) → @Obj) := (fun (x0 : @Params) => (Obj.mk @Value.none none (Data.fields (@List.toArray.{0} @Value [])) (@List.toArray.{0} (Option @Value) [])))
noncomputable def o112 : ((x0 : @Params) → @Obj) := (fun (x0 : @Params) => (Obj.mk (Value.type "dict") none (Data.dict (@List.toArray.{0} @DictEntry [(DictEntry.mk (PyData.keyHash x0 q324) (Value.str q324 414) (Value.str q359 387)), (DictEntry.mk (PyData.keyHash x0 q360) (Value.str q360 416) (Value.str q40 415)), (DictEntry.mk (PyData.keyHash x0 q326) (Value.str q326 418) (Value.int 8 417)), (DictEntry.mk (PyData.keyHash x0 q1) (Value.str q1 425) (Value.ref 70)), (DictEntry.mk (PyData.keyHash x0 q6) (Value.str q6 436) (Value.ref 78)), (DictEntry.mk (PyData.keyHash x0 q13) (Value.str q13 456) (Value.ref 87)), (DictEntry.mk (PyData.keyHash x0 q18) (Value.str q18 466) (Value.ref 96)), (DictEntry.mk (PyData.keyHash x0 q21) (Value.str q21 474) (Value.ref 103)), (DictEntry.mk (PyData.keyHash x0 q23) (Value.str q23 482) (Value.ref 110)), (DictEntry.mk (PyData.keyHash x0 q24) (Value.str q24 490) (Value.ref 117)), (DictEntry.mk (PyData.keyHash x0 q26) (Value.str q26 499) (Value.ref 125)), (DictEntry.mk (PyData.keyHash x0 q27) (Value.str q27 507) (Value.ref 132)), (DictEntry.mk (PyData.keyHash x0 q29) (Value.str q29 515) (Value.ref 139)), (DictEntry.mk (PyData.keyHash x0 q30) (Value.str q30 523) (Value.ref 147)), (DictEntry.mk (PyData.keyHash x0 q32) (Value.str q32 531) (Value.ref 155)), (DictEntry.mk (PyData.keyHash x0 q33) (Value.str q33 539) (Value.ref 163)), (DictEntry.mk (PyData.keyHash x0 q34) (Value.str q34 547) (Value.ref 171)), (DictEntry.mk (PyData.keyHash x0 q35) (Value.str q35 555) (Value.ref 179)), (DictEntry.mk (PyData.keyHash x0 q36) (Value.str q36 563) (Value.ref 186)), (DictEntry.mk (PyData.keyHash x0 q42) (Value.str q42 571) (Value.ref 193)), (DictEntry.mk (PyData.keyHash x0 q43) (Value.str q43 579) (Value.ref 200)), (DictEntry.mk (PyData.keyHash x0 q45) (Value.str q45 587) (Value.ref 207)), (DictEntry.mk (PyData.keyHash x0 q46) (Value.str q46 594) (Value.ref 214)), (DictEntry.mk (PyData.keyHash x0 q47) (Value.str q47 601) (Value.ref 221)), (DictEntry.mk (PyData.keyHash x0 q48) (Value.str q48 602) (Value.ref 186)), (DictEntry.mk (PyData.keyHash x0 q49) (Value.str q49 610) (Value.ref 228)), (DictEntry.mk (PyData.keyHash x0 q50) (Value.str q50 611) (Value.ref 200)), (DictEntry.mk (PyData.keyHash x0 q51) (Value.str q51 619) (Value.ref 235)), (DictEntry.mk (PyData.keyHash x0 q53) (Value.str q53 626) (Value.ref 242)), (DictEntry.mk (PyData.keyHash x0 q55) (Value.str q55 633) (Value.ref 249)), (DictEntry.mk (PyData.keyHash x0 q61) (Value.str q61 640) (Value.ref 256)), (DictEntry.mk (PyData.keyHash x0 q62) (Value.str q62 648) (Value.ref 263)), (DictEntry.mk (PyData.keyHash x0 q331) (Value.str q331 651) (Value.ref 264))]) 33) (@List.toArray.{0} (Option @Value) [])))
noncomputable def o176 : ((x0 : @Params) → @Obj) := (fun (x0 : @Params) => (Obj.mk (Value.type "tuple") none (Data.seq (@List.toArray.{0} @Value []) 0) (@List.toArray.{0} (Option @Value) [])))
noncomputable def o304 : ((x0 : @Params) → @Obj) := (fun (x0 : @Params) => (Obj.mk (Value.type "tuple") none (Data.seq (@List.toArray.{0} @Value []) 0) (@List.toArray.{0} (Option @Value) [])))
noncomputable def o240 : ((x0 : @Params) → @Obj) := (fun (x0 : @Params) => (Obj.mk (Value.type "function") none (Data.func (FuncData.mk q42 q362 (fdA (nth (cdB (nth pb 4)) 16)) (FuncBody.stmts (fdB (nth (cdB (nth pb 4)) 16))) (fdS (nth (cdB (nth pb 4)) 15)) 3 [] @Value.none @Value.none @Value.none (Value.str q359 387) none (Value.ref 192) @Value.none 0)) (@List.toArray.{0} (Option @Value) [])))
noncomputable def o144 : ((x0 : @Params) → @Obj) := (fun (x0 : @Params) => (Obj.mk (Value.type "tuple") none (Data.seq (@List.toArray.{0} @Value []) 0) (@List.toArray.{0} (Option @Value) [])))
noncomputable def o208 : ((x0 : @Params) → @Obj) := (fun (x0 : @Params) => (Obj.mk (Value.type "code") none (Data.fields (@List.toArray.{0} @Value [(Value.str q33 532), (Value.str q377 533), (Value.str q258 534), (Value.int 50 0), (Value.int 1 0), (Value.int 0 0), (Value.int 0 0), (Value.int 3 0), (Value.ref 156), (Value.bool @Bool.true), (Value.int 374 0), (Value.ref 157), @Value.none, (Value.ref 158), (Value.ref 159), (Value.ref 160), (Value.int 536 0), (Value.int 50 0), (Value.str q258 537)])) (@List.toArray.{0} (Option @Value) [])))
noncomputable def o272 : ((x0 : @Params) → @Obj) := (fun (x0 : @Params) => (Obj.mk (Value.type "tuple") none (Data.seq (@List.toArray.{0} @Value []) 0) (@List.toArray.{0} (Option @Value) [])))
noncomputable def o128 : ((x0 : @Params) → @Obj) := (fun (x0 : @Params) => (Obj.mk (Value.type "tuple") none (Data.seq (@List.toArray.{0} @Value [(Value.str q14 440), (Value.str q15 441)]) 0) (@List.toArray.{0} (Option @Value) [])))
noncomputable def o192 : ((x0 : @Params) → @Obj) := (fun (x0 : @Params) => (Obj.mk (Value.type "code") none (Data.fields (@List.toArray.{0} @Value [(Value.str q30 516), (Value.str q378 517), (Value.str q258 518), (Value.int 42 0), (Value.int 1 0), (Value.int 0 0), (Value.int 0 0), (Value.int 3 0), (Value.ref 140), (Value.bool @Bool.true), (Value.int 374 0), (Value.ref 141), @Value.none, (Value.ref 142), (Value.ref 143), (Value.ref 144), (Value.int 520 0), (Value.int 42 0), (Value.str q258 521)])) (@List.toArray.{0} (Option @Value) [])))
noncomputable def o320 : ((x0 : @Params) → @Obj) := (fun (x0 : @Params) => (Obj.mk (Value.type "super") none (Data.fields (@List.toArray.{0} @Value [(Value.ref 270), (Value.ref 270), (Value.ref 270)])) (@List.toArray.{0} (Option @Value) [])))
noncomputable def o256 : ((x0 : @Params) → @Obj) := (fun (x0 : @Params) => (Obj.mk @Value.none none (Data.fields (@List.toArray.{0} @Value [])) (@List.toArray.{0} (Option @Value) [])))
noncomputable def o160 : ((x0 : @Params) → @Obj) := (fun (x0 : @Params) => (Obj.mk (Value.type "tuple") none (Data.seq (@List.toArray.{0} @Value [(Value.str q7 486), (Value.str q25 487)]) 0) (@List.toArray.{0} (Option @Value) [])))
noncomputable def o224 : ((x0 : @Params) → @Obj) := (fun (x0 : @Params) => (Obj.mk (Value.type "code") none (Data.fields (@List.toArray.{0} @Value [(Value.str q35 548), (Value.str q379 549), (Value.str q258 550), (Value.int 58 0), (Value.int 1 0), (Value.int 0 0), (Value.int 0 0), (Value.int 3 0), (Value.ref 172), (Value.bool @Bool.true), (Value.int 374 0), (Value.ref 173), @Value.none, (Value.ref 174), (Value.ref 175), (Value.ref 176), (Value.int 552 0), (Value.int 58 0), (Value.str q258 553)])) (@List.toArray.{0} (Option @Value) [])))
noncomputable def o288 : ((x0 : @Params) → @Obj) := (fun (x0 : @Params) => (Obj.mk (Value.type "code") none (Data.fields (@List.toArray.{0} @Value [(Value.str q53 620), (Value.str q380 621), (Value.str q258 622), (Value.int 94 0), (Value.int 1 0), (Value.int 0 0), (Value.int 0 0), (Value.int 3 0), (Value.ref 236), (Value.bool @Bool.true), (Value.int 374 0), (Value.ref 237), @Value.none, (Value.ref 238), (Value.ref 239), (Value.ref 240), (Value.int 624 0), (Value.int 94 0), (Value.str q258 625)])) (@List.toArray.{0} (Option @Value) [])))
noncomputable def o120 : ((x0 : @Params) → @Obj) := (fun (x0 : @Params) => (Obj.mk @Value.none none (Data.fields (@List.toArray.{0} @Value [])) (@List.toArray.{0} (Option @Value) [])))
noncomputable def o184 : ((x0 : @Params) → @Obj) := (fun (x0 : @Params) => (Obj.mk @Value.none none (Data.func (FuncData.mk q29 q373 (fdA (nth (cdB (nth pb 4)) 9)) (FuncBody.stmts (fdB (nth (cdB (nth pb 4)) 9))) (fdS (nth (cdB (nth pb 4)) 4)) 0 [] @Value.none @Value.none @Value.none @Value.none none @Value.none @Value.none 0)) (@List.toArray.{0} (Option @Value) [])))
noncomputable def o312 : ((x0 : @Params) → @Obj) := (fun (x0 : @Params) => (Obj.mk (Value.type "list") none (Data.seq (@List.toArray.{0} @Value [(Value.str q2 419), (Value.str q3 421)]) 4) (@List.toArray.{0} (Option @Value) [])))
noncomputable def o248 : ((x0 : @Params) → @Obj) := (fun (x0 : @Params) => (Obj.mk (Value.type "tuple") none (Data.seq (@List.toArray.{0} @Value []) 0) (@List.toArray.{0} (Option @Value) [])))
noncomputable def o152 : ((x0 : @Params) → @Obj) := (fun (x0 : @Params) => (Obj.mk @Value.none none (Data.fields (@List.toArray.{0} @Value [])) (@List.toArray.{0} (Option @Value) [])))
noncomputable def o216 : ((x0 : @Params) → @Obj) := (fun (x0 : @Params) => (Obj.mk (Value.type "code") none (Data.fields (@List.toArray.{0} @Value [(Value.str q34 540), (Value.str q381 541), (Value.str q258 542), (Value.int 54 0), (Value.int 1 0), (Value.int 0 0), (Value.int 0 0), (Value.int 3 0), (Value.ref 164), (Value.bool @Bool.true), (Value.int 374 0), (Value.ref 165), @Value.none, (Value.ref 166), (Value.ref 167), (Value.ref 168), (Value.int 544 0), (Value.int 54 0), (Value.str q258 545)])) (@List.toArray.{0} (Option @Value) [])))
noncomputable def o280 : ((x0 : @Params) → @Obj) := (fun (x0 : @Params) => (Obj.mk @Value.none none (Data.func (FuncData.mk q51 q374 (fdA (nth (cdB (nth pb 4)) 24)) (FuncBody.stmts (fdB (nth (cdB (nth pb 4)) 24))) (fdS (nth (cdB (nth pb 4)) 24)) 0 [] @Value.none @Value.none @Value.none @Value.none none @Value.none @Value.none 0)) (@List.toArray.{0} (Option @Value) [])))
noncomputable def o136 : ((x0 : @Params) → @Obj) := (fun (x0 : @Params) => (Obj.mk (Value.type "dict") none (Data.dict (@List.toArray.{0} @DictEntry [(DictEntry.mk (PyData.keyHash x0 q20) (Value.str q20 457) @Value.none)]) 1) (@List.toArray.{0} (Option @Value) [])))
noncomputable def o200 : ((x0 : @Params) → @Obj) := (fun (x0 : @Params) => (Obj.mk (Value.type "code") none (Data.fields (@List.toArray.{0} @Value [(Value.str q32 524), (Value.str q382 525), (Value.str q258 526), (Value.int 46 0), (Value.int 1 0), (Value.int 0 0), (Value.int 0 0), (Value.int 3 0), (Value.ref 148), (Value.bool @Bool.true), (Value.int 374 0), (Value.ref 149), @Value.none, (Value.ref 150), (Value.ref 151), (Value.ref 152), (Value.int 528 0), (Value.int 46 0), (Value.str q258 529)])) (@List.toArray.{0} (Option @Value) [])))
noncomputable def o264 : ((x0 : @Params) → @Obj) := (fun (x0 : @Params) => (Obj.mk (Value.type "tuple") none (Data.seq (@List.toArray.{0} @Value [(Value.str q37 598)]) 0) (@List.toArray.{0} (Option @Value) [])))
noncomputable def o168 : ((x0 : @Params) → @Obj) := (fun (x0 : @Params) => (Obj.mk (Value.type "tuple") none (Data.seq (@List.toArray.{0} @Value [(Value.str q7 495), (Value.str q19 496)]) 0) (@List.toArray.{0} (Option @Value) [])))
noncomputable def o232 : ((x0 : @Params) → @Obj) := (fun (x0 : @Params) => (Obj.mk (Value.type "code") none (Data.fields (@List.toArray.{0} @Value [(Value.str q36 556), (Value.str q383 557), (Value.str q258 558), (Value.int 62 0), (Value.int 2 0), (Value.int 0 0), (Value.int 0 0), (Value.int 3 0), (Value.ref 180), (Value.bool @Bool.true), (Value.int 374 0), (Value.ref 181), @Value.none, (Value.ref 182), (Value.ref 183), (Value.ref 184), (Value.int 561 0), (Value.int 62 0), (Value.str q258 562)])) (@List.toArray.{0} (Option @Value) [])))
noncomputable def o296 : ((x0 : @Params) → @Obj) := (fun (x0 : @Params) => (Obj.mk (Value.type "function") none (Data.func (FuncData.mk q55 q368 (fdA (nth (cdB (nth pb 4)) 26)) (FuncBody.stmts (fdB (nth (cdB (nth pb 4)) 26))) (fdS (nth (cdB (nth pb 4)) 26)) 3 [] @Value.none @Value.none @Value.none (Value.str q359 387) none (Value.ref 248) @Value.none 0)) (@List.toArray.{0} (Option @Value) [])))
noncomputable def o116 : ((x0 : @Params) → @Obj) := (fun (x0 : @Params) => (Obj.mk (Value.type "frame") none @Data.plain (@List.toArray.{0} (Option @Value) [(some (Value.ref 68)), (some (Value.ref 3)), (some (Value.ref 65)), none, (some (Value.str q359 387)), none, (some (Value.ref 0))])))
noncomputable def o180 : ((x0 : @Params) → @Obj) := (fun (x0 : @Params) => (Obj.mk (Value.type "tuple") none (Data.seq (@List.toArray.{0} @Value []) 0) (@List.toArray.{0} (Option @Value) [])))
noncomputable def o308 : ((x0 : @Params) → @Obj) := (fun (x0 : @Params) => (Obj.mk @Value.none none (Data.func (FuncData.mk q62 q365 (fdA (nth (cdB (nth pb 4)) 28)) (FuncBody.stmts (fdB (nth (cdB (nth pb 4)) 28))) (fdS (nth (cdB (nth pb 4)) 28)) 0 [] @Value.none @Value.none @Value.none @Value.none none @Value.none @Value.none 0)) (@List.toArray.{0} (Option @Value) [])))
noncomputable def o244 : ((x0 : @Params) → @Obj) := (fun (x0 : @Params) => (Obj.mk (Value.type "tuple") none (Data.seq (@List.toArray.{0} @Value []) 0) (@List.toArray.{0} (Option @Value) [])))
noncomputable def o148 : ((x0 : @Params) → @Obj) := (fun (x0 : @Params) => (Obj.mk @Value.none none (Data.func (FuncData.mk q21 q367 (fdA (nth (cdB (nth pb 4)) 4)) (FuncBody.stmts (fdB (nth (cdB (nth pb 4)) 4))) (fdS (nth (cdB (nth pb 4)) 4)) 0 [] @Value.none @Value.none @Value.none @Value.none none @Value.none @Value.none 0)) (@List.toArray.{0} (Option @Value) [])))
noncomputable def o212 : ((x0 : @Params) → @Obj) := (fun (x0 : @Params) => (Obj.mk @Value.none none (Data.fields (@List.toArray.{0} @Value [])) (@List.toArray.{0} (Option @Value) [])))
noncomputable def o276 : ((x0 : @Params) → @Obj) := (fun (x0 : @Params) => (Obj.mk (Value.type "tuple") none (Data.seq (@List.toArray.{0} @Value []) 0) (@List.toArray.{0} (Option @Value) [])))
noncomputable def o132 : ((x0 : @Params) → @Obj) := (fun (x0 : @Params) => (Obj.mk (Value.type "function") none (Data.func (FuncData.mk q13 q371 (fdA (nth (cdB (nth pb 4)) 2)) (FuncBody.stmts (fdB (nth (cdB (nth pb 4)) 2))) (fdS (nth (cdB (nth pb 4)) 2)) 3 [] @Value.none @Value.none @Value.none (Value.str q359 387) (some 88) (Value.ref 84) @Value.none 0)) (@List.toArray.{0} (Option @Value) [])))
noncomputable def o196 : ((x0 : @Params) → @Obj) := (fun (x0 : @Params) => (Obj.mk @Value.none none (Data.fields (@List.toArray.{0} @Value [])) (@List.toArray.{0} (Option @Value) [])))
noncomputable def o260 : ((x0 : @Params) → @Obj) := (fun (x0 : @Params) => (Obj.mk (Value.type "code") none (Data.fields (@List.toArray.{0} @Value [(Value.str q46 588), (Value.str q384 589), (Value.str q258 590), (Value.int 78 0), (Value.int 1 0), (Value.int 0 0), (Value.int 0 0), (Value.int 3 0), (Value.ref 208), (Value.bool @Bool.true), (Value.int 374 0), (Value.ref 209), @Value.none, (Value.ref 210), (Value.ref 211), (Value.ref 212), (Value.int 592 0), (Value.int 78 0), (Value.str q258 593)])) (@List.toArray.{0} (Option @Value) [])))
noncomputable def o164 : ((x0 : @Params) → @Obj) := (fun (x0 : @Params) => (Obj.mk (Value.type "function") none (Data.func (FuncData.mk q24 q372 (fdA (nth (cdB (nth pb 4)) 6)) (FuncBody.stmts (fdB (nth (cdB (nth pb 4)) 6))) (fdS (nth (cdB (nth pb 4)) 6)) 3 [] @Value.none @Value.none @Value.none (Value.str q359 387) none (Value.ref 116) @Value.none 0)) (@List.toArray.{0} (Option @Value) [])))
noncomputable def o228 : ((x0 : @Params) → @Obj) := (fun (x0 : @Params) => (Obj.mk @Value.none none (Data.fields (@List.toArray.{0} @Value [])) (@List.toArray.{0} (Option @Value) [])))
noncomputable def o292 : ((x0 : @Params) → @Obj) := (fun (x0 : @Params) => (Obj.mk (Value.type "tuple") none (Data.seq (@List.toArray.{0} @Value [(Value.str q7 630)]) 0) (@List.toArray.{0} (Option @Value) [])))
noncomputable def o124 : ((x0 : @Params) → @Obj) := (fun (x0 : @Params) => (Obj.mk (Value.type "code") none (Data.fields (@List.toArray.{0} @Value [(Value.str q6 428), (Value.str q385 429), (Value.str q258 430), (Value.int 11 0), (Value.int 3 0), (Value.int 0 0), (Value.int 0 0), (Value.int 3 0), (Value.ref 72), (Value.bool @Bool.true), (Value.int 374 0), (Value.ref 73), @Value.none, (Value.ref 74), (Value.ref 75), (Value.ref 76), (Value.int 434 0), (Value.int 11 0), (Value.str q258 435)])) (@List.toArray.{0} (Option @Value) [])))
noncomputable def o188 : ((x0 : @Params) → @Obj) := (fun (x0 : @Params) => (Obj.mk @Value.none none (Data.fields (@List.toArray.{0} @Value [])) (@List.toArray.{0} (Option @Value) [])))
noncomputable def o316 : ((x0 : @Params) → @Obj) := (fun (x0 : @Params) => (Obj.mk (Value.type "dict") none (Data.dict (@List.toArray.{0} @DictEntry [(DictEntry.mk (PyData.keyHash x0 q324) (Value.str q324 414) (Value.str q359 387)), (DictEntry.mk (PyData.keyHash x0 q326) (Value.str q326 418) (Value.int 8 417)), (DictEntry.mk (PyData.keyHash x0 q1) (Value.str q1 425) (Value.ref 70)), (DictEntry.mk (PyData.keyHash x0 q6) (Value.str q6 436) (Value.ref 78)), (DictEntry.mk (PyData.keyHash x0 q13) (Value.str q13 456) (Value.ref 87)), (DictEntry.mk (PyData.keyHash x0 q18) (Value.str q18 466) (Value.ref 96)), (DictEntry.mk (PyData.keyHash x0 q21) (Value.str q21 474) (Value.ref 103)), (DictEntry.mk (PyData.keyHash x0 q23) (Value.str q23 482) (Value.ref 110)), (DictEntry.mk (PyData.keyHash x0 q24) (Value.str q24 490) (Value.ref 117)), (DictEntry.mk (PyData.keyHash x0 q26) (Value.str q26 499) (Value.ref 125)), (DictEntry.mk (PyData.keyHash x0 q27) (Value.str q27 507) (Value.ref 132)), (DictEntry.mk (PyData.keyHash x0 q29) (Value.str q29 515) (Value.ref 139)), (DictEntry.mk (PyData.keyHash x0 q30) (Value.str q30 523) (Value.ref 147)), (DictEntry.mk (PyData.keyHash x0 q32) (Value.str q32 531) (Value.ref 155)), (DictEntry.mk (PyData.keyHash x0 q33) (Value.str q33 539) (Value.ref 163)), (DictEntry.mk (PyData.keyHash x0 q34) (Value.str q34 547) (Value.ref 171)), (DictEntry.mk (PyData.keyHash x0 q35) (Value.str q35 555) (Value.ref 179)), (DictEntry.mk (PyData.keyHash x0 q36) (Value.str q36 563) (Value.ref 186)), (DictEntry.mk (PyData.keyHash x0 q42) (Value.str q42 571) (Value.ref 193)), (DictEntry.mk (PyData.keyHash x0 q43) (Value.str q43 579) (Value.ref 200)), (DictEntry.mk (PyData.keyHash x0 q45) (Value.str q45 587) (Value.ref 207)), (DictEntry.mk (PyData.keyHash x0 q46) (Value.str q46 594) (Value.ref 214)), (DictEntry.mk (PyData.keyHash x0 q47) (Value.str q47 601) (Value.ref 221)), (DictEntry.mk (PyData.keyHash x0 q48) (Value.str q48 602) (Value.ref 186)), (DictEntry.mk (PyData.keyHash x0 q49) (Value.str q49 610) (Value.ref 228)), (DictEntry.mk (PyData.keyHash x0 q50) (Value.str q50 611) (Value.ref 200)), (DictEntry.mk (PyData.keyHash x0 q51) (Value.str q51 619) (Value.ref 235)), (DictEntry.mk (PyData.keyHash x0 q53) (Value.str q53 626) (Value.ref 242)), (DictEntry.mk (PyData.keyHash x0 q55) (Value.str q55 633) (Value.ref 249)), (DictEntry.mk (PyData.keyHash x0 q61) (Value.str q61 640) (Value.ref 256)), (DictEntry.mk (PyData.keyHash x0 q62) (Value.str q62 648) (Value.ref 263)), (DictEntry.mk (PyData.keyHash x0 q331) (Value.str q331 651) (Value.ref 264)), (DictEntry.mk (PyData.keyHash x0 q2) (Value.str q2 653) (Value.ref 271)), (DictEntry.mk (PyData.keyHash x0 q3) (Value.str q3 655) (Value.ref 272)), (DictEntry.mk (PyData.keyHash x0 q94) (Value.str q94 656) @Value.none)]) 4) (@List.toArray.{0} (Option @Value) [])))
noncomputable def o252 : ((x0 : @Params) → @Obj) := (fun (x0 : @Params) => (Obj.mk @Value.none none (Data.func (FuncData.mk q45 q364 (fdA (nth (cdB (nth pb 4)) 18)) (FuncBody.stmts (fdB (nth (cdB (nth pb 4)) 18))) (fdS (nth (cdB (nth pb 4)) 17)) 0 [] @Value.none @Value.none @Value.none @Value.none none @Value.none @Value.none 0)) (@List.toArray.{0} (Option @Value) [])))
noncomputable def o156 : ((x0 : @Params) → @Obj) := (fun (x0 : @Params) => (Obj.mk (Value.type "code") none (Data.fields (@List.toArray.{0} @Value [(Value.str q23 475), (Value.str q386 476), (Value.str q258 477), (Value.int 27 0), (Value.int 2 0), (Value.int 0 0), (Value.int 0 0), (Value.int 3 0), (Value.ref 104), (Value.bool @Bool.true), (Value.int 374 0), (Value.ref 105), @Value.none, (Value.ref 106), (Value.ref 107), (Value.ref 108), (Value.int 480 0), (Value.int 27 0), (Value.str q258 481)])) (@List.toArray.{0} (Option @Value) [])))
noncomputable def o220 : ((x0 : @Params) → @Obj) := (fun (x0 : @Params) => (Obj.mk @Value.none none (Data.fields (@List.toArray.{0} @Value [])) (@List.toArray.{0} (Option @Value) [])))
noncomputable def o284 : ((x0 : @Params) → @Obj) := (fun (x0 : @Params) => (Obj.mk @Value.none none (Data.fields (@List.toArray.{0} @Value [])) (@List.toArray.{0} (Option @Value) [])))
noncomputable def o140 : ((x0 : @Params) → @Obj) := (fun (x0 : @Params) => (Obj.mk (Value.type "tuple") none (Data.seq (@List.toArray.{0} @Value []) 0) (@List.toArray.{0} (Option @Value) [])))
noncomputable def o204 : ((x0 : @Params) → @Obj) := (fun (x0 : @Params) => (Obj.mk @Value.none none (Data.fields (@List.toArray.{0} @Value [])) (@List.toArray.{0} (Option @Value) [])))
noncomputable def o268 : ((x0 : @Params) → @Obj) := (fun (x0 : @Params) => (Obj.mk (Value.type "function") none (Data.func (FuncData.mk q47 q375 (fdA (nth (cdB (nth pb 4)) 20)) (FuncBody.stmts (fdB (nth (cdB (nth pb 4)) 20))) (fdS (nth (cdB (nth pb 4)) 19)) 3 [] @Value.none @Value.none @Value.none (Value.str q359 387) none (Value.ref 220) @Value.none 0)) (@List.toArray.{0} (Option @Value) [])))
noncomputable def o172 : ((x0 : @Params) → @Obj) := (fun (x0 : @Params) => (Obj.mk (Value.type "function") none (Data.func (FuncData.mk q26 q376 (fdA (nth (cdB (nth pb 4)) 7)) (FuncBody.stmts (fdB (nth (cdB (nth pb 4)) 7))) (fdS (nth (cdB (nth pb 4)) 7)) 3 [] (Value.ref 118) @Value.none @Value.none (Value.str q359 387) none (Value.ref 124) @Value.none 0)) (@List.toArray.{0} (Option @Value) [])))
noncomputable def o236 : ((x0 : @Params) → @Obj) := (fun (x0 : @Params) => (Obj.mk (Value.type "tuple") none (Data.seq (@List.toArray.{0} @Value [(Value.str q37 567), (Value.str q38 568)]) 0) (@List.toArray.{0} (Option @Value) [])))
noncomputable def o300 : ((x0 : @Params) → @Obj) := (fun (x0 : @Params) => (Obj.mk (Value.type "tuple") none (Data.seq (@List.toArray.{0} @Value []) 0) (@List.toArray.{0} (Option @Value) [])))
noncomputable def o111 : ((x0 : @Params) → @Obj) := (fun (x0 : @Params) => (Obj.mk (Value.type "builtin_function_or_method") none (Data.fields (@List.toArray.{0} @Value [(Value.builtin "type.__prepare__"), (Value.type "type")])) (@List.toArray.{0} (Option @Value) [])))
noncomputable def o175 : ((x0 : @Params) → @Obj) := (fun (x0 : @Params) => (Obj.mk (Value.type "tuple") none (Data.seq (@List.toArray.{0} @Value [(Value.str q7 503), (Value.str q28 504)]) 0) (@List.toArray.{0} (Option @Value) [])))
noncomputable def o303 : ((x0 : @Params) → @Obj) := (fun (x0 : @Params) => (Obj.mk (Value.type "function") none (Data.func (FuncData.mk q61 q361 (fdA (nth (cdB (nth pb 4)) 27)) (FuncBody.stmts (fdB (nth (cdB (nth pb 4)) 27))) (fdS (nth (cdB (nth pb 4)) 10)) 3 [] @Value.none @Value.none @Value.none (Value.str q359 387) none (Value.ref 255) @Value.none 0)) (@List.toArray.{0} (Option @Value) [])))
noncomputable def o239 : ((x0 : @Params) → @Obj) := (fun (x0 : @Params) => (Obj.mk (Value.type "code") none (Data.fields (@List.toArray.{0} @Value [(Value.str q42 564), (Value.str q362 565), (Value.str q258 566), (Value.int 67 0), (Value.int 2 0), (Value.int 0 0), (Value.int 0 0), (Value.int 3 0), (Value.ref 187), (Value.bool @Bool.true), (Value.int 374 0), (Value.ref 188), @Value.none, (Value.ref 189), (Value.ref 190), (Value.ref 191), (Value.int 569 0), (Value.int 67 0), (Value.str q258 570)])) (@List.toArray.{0} (Option @Value) [])))
noncomputable def o143 : ((x0 : @Params) → @Obj) := (fun (x0 : @Params) => (Obj.mk (Value.type "function") none (Data.func (FuncData.mk q18 q363 (fdA (nth (cdB (nth pb 4)) 3)) (FuncBody.stmts (fdB (nth (cdB (nth pb 4)) 3))) (fdS (nth (cdB (nth pb 4)) 3)) 3 [] @Value.none (Value.ref 89) @Value.none (Value.str q359 387) none (Value.ref 95) @Value.none 0)) (@List.toArray.{0} (Option @Value) [])))
noncomputable def o207 : ((x0 : @Params) → @Obj) := (fun (x0 : @Params) => (Obj.mk @Value.none none (Data.func (FuncData.mk q33 q377 (fdA (nth (cdB (nth pb 4)) 12)) (FuncBody.stmts (fdB (nth (cdB (nth pb 4)) 12))) (fdS (nth (cdB (nth pb 4)) 11)) 0 [] @Value.none @Value.none @Value.none @Value.none none @Value.none @Value.none 0)) (@List.toArray.{0} (Option @Value) [])))
noncomputable def o271 : ((x0 : @Params) → @Obj) := (fun (x0 : @Params) => (Obj.mk (Value.type "tuple") none (Data.seq (@List.toArray.{0} @Value [(Value.str q37 606), (Value.str q38 607)]) 0) (@List.toArray.{0} (Option @Value) [])))
noncomputable def o127 : ((x0 : @Params) → @Obj) := (fun (x0 : @Params) => (Obj.mk @Value.none none (Data.fields (@List.toArray.{0} @Value [])) (@List.toArray.{0} (Option @Value) [])))
noncomputable def o191 : ((x0 : @Params) → @Obj) := (fun (x0 : @Params) => (Obj.mk @Value.none none (Data.func (FuncData.mk q30 q378 (fdA (nth (cdB (nth pb 4)) 10)) (FuncBody.stmts (fdB (nth (cdB (nth pb 4)) 10))) (fdS (nth (cdB (nth pb 4)) 10)) 0 [] @Value.none @Value.none @Value.none @Value.none none @Value.none @Value.none 0)) (@List.toArray.{0} (Option @Value) [])))
noncomputable def o319 : ((x0 : @Params) → @Obj) := (fun (x0 : @Params) => (Obj.mk (Value.type "member_descriptor") none (Data.fields (@List.toArray.{0} @Value [(Value.str q3 654), (Value.ref 270), (Value.builtin "proto.slot"), (Value.builtin "proto.slot#set"), (Value.int 0 0)])) (@List.toArray.{0} (Option @Value) [])))
noncomputable def o255 : ((x0 : @Params) → @Obj) := (fun (x0 : @Params) => (Obj.mk (Value.type "tuple") none (Data.seq (@List.toArray.{0} @Value []) 0) (@List.toArray.{0} (Option @Value) [])))
noncomputable def o159 : ((x0 : @Params) → @Obj) := (fun (x0 : @Params) => (Obj.mk @Value.none none (Data.fields (@List.toArray.{0} @Value [])) (@List.toArray.{0} (Option @Value) [])))
noncomputable def o223 : ((x0 : @Params) → @Obj) := (fun (x0 : @Params) => (Obj.mk @Value.none none (Data.func (FuncData.mk q35 q379 (fdA (nth (cdB (nth pb 4)) 14)) (FuncBody.stmts (fdB (nth (cdB (nth pb 4)) 14))) (fdS (nth (cdB (nth pb 4)) 10)) 0 [] @Value.none @Value.none @Value.none @Value.none none @Value.none @Value.none 0)) (@List.toArray.{0} (Option @Value) [])))
noncomputable def o287 : ((x0 : @Params) → @Obj) := (fun (x0 : @Params) => (Obj.mk @Value.none none (Data.func (FuncData.mk q53 q380 (fdA (nth (cdB (nth pb 4)) 25)) (FuncBody.stmts (fdB (nth (cdB (nth pb 4)) 25))) (fdS (nth (cdB (nth pb 4)) 25)) 0 [] @Value.none @Value.none @Value.none @Value.none none @Value.none @Value.none 0)) (@List.toArray.{0} (Option @Value) [])))
noncomputable def o109 : ((x0 : @Params) → @Obj) := (fun (x0 : @Params) => (Obj.mk @Value.none none (Data.fields (@List.toArray.{0} @Value [(Value.int 2 0), (Value.int 0 0), (Value.ref 48), (Value.int 6 0), (Value.int 0 0), (Value.ref 55), (Value.int 8 0), (Value.int 0 0), (Value.ref 68)])) (@List.toArray.{0} (Option @Value) [])))
noncomputable def o119 : ((x0 : @Params) → @Obj) := (fun (x0 : @Params) => (Obj.mk (Value.type "tuple") none (Data.seq (@List.toArray.{0} @Value []) 0) (@List.toArray.{0} (Option @Value) [])))
noncomputable def o183 : ((x0 : @Params) → @Obj) := (fun (x0 : @Params) => (Obj.mk (Value.type "tuple") none (Data.seq (@List.toArray.{0} @Value []) 0) (@List.toArray.{0} (Option @Value) [])))
noncomputable def o311 : ((x0 : @Params) → @Obj) := (fun (x0 : @Params) => (Obj.mk (Value.type "tuple") none (Data.seq (@List.toArray.{0} @Value [(Value.str q2 649), (Value.str q3 650)]) 0) (@List.toArray.{0} (Option @Value) [])))
noncomputable def o247 : ((x0 : @Params) → @Obj) := (fun (x0 : @Params) => (Obj.mk (Value.type "function") none (Data.func (FuncData.mk q43 q366 (fdA (nth (cdB (nth pb 4)) 17)) (FuncBody.stmts (fdB (nth (cdB (nth pb 4)) 17))) (fdS (nth (cdB (nth pb 4)) 17)) 3 [] @Value.none @Value.none @Value.none (Value.str q359 387) none (Value.ref 199) @Value.none 0)) (@List.toArray.{0} (Option @Value) [])))
noncomputable def o151 : ((x0 : @Params) → @Obj) := (fun (x0 : @Params) => (Obj.mk (Value.type "tuple") none (Data.seq (@List.toArray.{0} @Value []) 0) (@List.toArray.{0} (Option @Value) [])))
noncomputable def o215 : ((x0 : @Params) → @Obj) := (fun (x0 : @Params) => (Obj.mk @Value.none none (Data.func (FuncData.mk q34 q381 (fdA (nth (cdB (nth pb 4)) 13)) (FuncBody.stmts (fdB (nth (cdB (nth pb 4)) 13))) (fdS (nth (cdB (nth pb 4)) 10)) 0 [] @Value.none @Value.none @Value.none @Value.none none @Value.none @Value.none 0)) (@List.toArray.{0} (Option @Value) [])))
noncomputable def o279 : ((x0 : @Params) → @Obj) := (fun (x0 : @Params) => (Obj.mk (Value.type "tuple") none (Data.seq (@List.toArray.{0} @Value []) 0) (@List.toArray.{0} (Option @Value) [])))
noncomputable def o135 : ((x0 : @Params) → @Obj) := (fun (x0 : @Params) => (Obj.mk (Value.type "dict") none (Data.dict (@List.toArray.{0} @DictEntry []) 0) (@List.toArray.{0} (Option @Value) [])))
noncomputable def o199 : ((x0 : @Params) → @Obj) := (fun (x0 : @Params) => (Obj.mk @Value.none none (Data.func (FuncData.mk q32 q382 (fdA (nth (cdB (nth pb 4)) 11)) (FuncBody.stmts (fdB (nth (cdB (nth pb 4)) 11))) (fdS (nth (cdB (nth pb 4)) 11)) 0 [] @Value.none @Value.none @Value.none @Value.none none @Value.none @Value.none 0)) (@List.toArray.{0} (Option @Value) [])))
noncomputable def o263 : ((x0 : @Params) → @Obj) := (fun (x0 : @Params) => (Obj.mk @Value.none none (Data.fields (@List.toArray.{0} @Value [])) (@List.toArray.{0} (Option @Value) [])))
noncomputable def o167 : ((x0 : @Params) → @Obj) := (fun (x0 : @Params) => (Obj.mk @Value.none none (Data.fields (@List.toArray.{0} @Value [])) (@List.toArray.{0} (Option @Value) [])))
noncomputable def o231 : ((x0 : @Params) → @Obj) := (fun (x0 : @Params) => (Obj.mk @Value.none none (Data.func (FuncData.mk q36 q383 (fdA (nth (cdB (nth pb 4)) 15)) (FuncBody.stmts (fdB (nth (cdB (nth pb 4)) 15))) (fdS (nth (cdB (nth pb 4)) 15)) 0 [] @Value.none @Value.none @Value.none @Value.none none @Value.none @Value.none 0)) (@List.toArray.{0} (Option @Value) [])))
noncomputable def o295 : ((x0 : @Params) → @Obj) := (fun (x0 : @Params) => (Obj.mk (Value.type "code") none (Data.fields (@List.toArray.{0} @Value [(Value.str q55 627), (Value.str q368 628), (Value.str q258 629), (Value.int 97 0), (Value.int 1 0), (Value.int 0 0), (Value.int 0 0), (Value.int 3 0), (Value.ref 243), (Value.bool @Bool.true), (Value.int 374 0), (Value.ref 244), @Value.none, (Value.ref 245), (Value.ref 246), (Value.ref 247), (Value.int 631 0), (Value.int 97 0), (Value.str q258 632)])) (@List.toArray.{0} (Option @Value) [])))
noncomputable def o115 : ((x0 : @Params) → @Obj) := (fun (x0 : @Params) => (Obj.mk (Value.type "code") none (Data.fields (@List.toArray.{0} @Value [(Value.str q40 409), (Value.str q40 410), (Value.str q258 411), (Value.int 8 0), (Value.int 0 0), (Value.int 0 0), (Value.int 0 0), (Value.int 0 0), (Value.ref 66), (Value.bool @Bool.false), (Value.int 374 0), (Value.ref 67), @Value.none, @Value.none, @Value.none, @Value.none, (Value.int 412 0), (Value.int 8 0), (Value.str q258 413)])) (@List.toArray.{0} (Option @Value) [])))
noncomputable def o179 : ((x0 : @Params) → @Obj) := (fun (x0 : @Params) => (Obj.mk (Value.type "function") none (Data.func (FuncData.mk q27 q369 (fdA (nth (cdB (nth pb 4)) 8)) (FuncBody.stmts (fdB (nth (cdB (nth pb 4)) 8))) (fdS (nth (cdB (nth pb 4)) 8)) 3 [] @Value.none @Value.none @Value.none (Value.str q359 387) none (Value.ref 131) @Value.none 0)) (@List.toArray.{0} (Option @Value) [])))
noncomputable def o307 : ((x0 : @Params) → @Obj) := (fun (x0 : @Params) => (Obj.mk (Value.type "tuple") none (Data.seq (@List.toArray.{0} @Value []) 0) (@List.toArray.{0} (Option @Value) [])))
noncomputable def o243 : ((x0 : @Params) → @Obj) := (fun (x0 : @Params) => (Obj.mk (Value.type "tuple") none (Data.seq (@List.toArray.{0} @Value [(Value.str q37 575), (Value.str q38 576)]) 0) (@List.toArray.{0} (Option @Value) [])))
noncomputable def o147 : ((x0 : @Params) → @Obj) := (fun (x0 : @Params) => (Obj.mk (Value.type "tuple") none (Data.seq (@List.toArray.{0} @Value []) 0) (@List.toArray.{0} (Option @Value) [])))
noncomputable def o211 : ((x0 : @Params) → @Obj) := (fun (x0 : @Params) => (Obj.mk (Value.type "tuple") none (Data.seq (@List.toArray.{0} @Value []) 0) (@List.toArray.{0} (Option @Value) [])))
noncomputable def o275 : ((x0 : @Params) → @Obj) := (fun (x0 : @Params) => (Obj.mk (Value.type "function") none (Data.func (FuncData.mk q49 q370 (fdA (nth (cdB (nth pb 4)) 22)) (FuncBody.stmts (fdB (nth (cdB (nth pb 4)) 22))) (fdS (nth (cdB (nth pb 4)) 22)) 3 [] @Value.none @Value.none @Value.none (Value.str q359 387) none (Value.ref 227) @Value.none 0)) (@List.toArray.{0} (Option @Value) [])))
noncomputable def o131 : ((x0 : @Params) → @Obj) := (fun (x0 : @Params) => (Obj.mk (Value.type "code") none (Data.fields (@List.toArray.{0} @Value [(Value.str q13 437), (Value.str q371 438), (Value.str q258 439), (Value.int 17 0), (Value.int 2 0), (Value.int 0 0), (Value.int 0 0), (Value.int 3 0), (Value.ref 79), (Value.bool @Bool.true), (Value.int 374 0), (Value.ref 80), @Value.none, (Value.ref 81), (Value.ref 82), (Value.ref 83), (Value.int 442 0), (Value.int 17 0), (Value.str q258 443)])) (@List.toArray.{0} (Option @Value) [])))
noncomputable def o195 : ((x0 : @Params) → @Obj) := (fun (x0 : @Params) => (Obj.mk (Value.type "tuple") none (Data.seq (@List.toArray.{0} @Value []) 0) (@List.toArray.{0} (Option @Value) [])))
noncomputable def o259 : ((x0 : @Params) → @Obj) := (fun (x0 : @Params) => (Obj.mk @Value.none none (Data.func (FuncData.mk q46 q384 (fdA (nth (cdB (nth pb 4)) 19)) (FuncBody.stmts (fdB (nth (cdB (nth pb 4)) 19))) (fdS (nth (cdB (nth pb 4)) 19)) 0 [] @Value.none @Value.none @Value.none @Value.none none @Value.none @Value.none 0)) (@List.toArray.{0} (Option @Value) [])))
noncomputable def o163 : ((x0 : @Params) → @Obj) := (fun (x0 : @Params) => (Obj.mk (Value.type "code") none (Data.fields (@List.toArray.{0} @Value [(Value.str q24 483), (Value.str q372 484), (Value.str q258 485), (Value.int 30 0), (Value.int 2 0), (Value.int 0 0), (Value.int 0 0), (Value.int 3 0), (Value.ref 111), (Value.bool @Bool.true), (Value.int 374 0), (Value.ref 112), @Value.none, (Value.ref 113), (Value.ref 114), (Value.ref 115), (Value.int 488 0), (Value.int 30 0), (Value.str q258 489)])) (@List.toArray.{0} (Option @Value) [])))
noncomputable def o227 : ((x0 : @Params) → @Obj) := (fun (x0 : @Params) => (Obj.mk (Value.type "tuple") none (Data.seq (@List.toArray.{0} @Value []) 0) (@List.toArray.{0} (Option @Value) [])))
noncomputable def o291 : ((x0 : @Params) → @Obj) := (fun (x0 : @Params) => (Obj.mk @Value.none none (Data.fields (@List.toArray.{0} @Value [])) (@List.toArray.{0} (Option @Value) [])))
noncomputable def o123 : ((x0 : @Params) → @Obj) := (fun (x0 : @Params) => (Obj.mk @Value.none none (Data.func (FuncData.mk q6 q385 (fdA (nth (cdB (nth pb 4)) 1)) (FuncBody.stmts (fdB (nth (cdB (nth pb 4)) 1))) (fdS (nth (cdB (nth pb 4)) 1)) 0 [] @Value.none @Value.none @Value.none @Value.none none @Value.none @Value.none 0)) (@List.toArray.{0} (Option @Value) [])))
noncomputable def o187 : ((x0 : @Params) → @Obj) := (fun (x0 : @Params) => (Obj.mk (Value.type "tuple") none (Data.seq (@List.toArray.{0} @Value []) 0) (@List.toArray.{0} (Option @Value) [])))
noncomputable def o315 : ((x0 : @Params) → @Obj) := (fun (x0 : @Params) => (Obj.mk (Value.type "StopIteration") none (Data.fields (@List.toArray.{0} @Value [(Value.ref 267), @Value.none, @Value.none, @Value.none, (Value.bool @Bool.false), @Value.none])) (@List.toArray.{0} (Option @Value) [])))
noncomputable def o251 : ((x0 : @Params) → @Obj) := (fun (x0 : @Params) => (Obj.mk (Value.type "tuple") none (Data.seq (@List.toArray.{0} @Value []) 0) (@List.toArray.{0} (Option @Value) [])))
noncomputable def o155 : ((x0 : @Params) → @Obj) := (fun (x0 : @Params) => (Obj.mk @Value.none none (Data.func (FuncData.mk q23 q386 (fdA (nth (cdB (nth pb 4)) 5)) (FuncBody.stmts (fdB (nth (cdB (nth pb 4)) 5))) (fdS (nth (cdB (nth pb 4)) 4)) 0 [] @Value.none @Value.none @Value.none @Value.none none @Value.none @Value.none 0)) (@List.toArray.{0} (Option @Value) [])))
noncomputable def o219 : ((x0 : @Params) → @Obj) := (fun (x0 : @Params) => (Obj.mk (Value.type "tuple") none (Data.seq (@List.toArray.{0} @Value []) 0) (@List.toArray.{0} (Option @Value) [])))
noncomputable def o283 : ((x0 : @Params) → @Obj) := (fun (x0 : @Params) => (Obj.mk (Value.type "tuple") none (Data.seq (@List.toArray.{0} @Value []) 0) (@List.toArray.{0} (Option @Value) [])))
noncomputable def o139 : ((x0 : @Params) → @Obj) := (fun (x0 : @Params) => (Obj.mk (Value.type "tuple") none (Data.seq (@List.toArray.{0} @Value [(Value.str q7 461), (Value.str q19 462), (Value.str q20 463)]) 0) (@List.toArray.{0} (Option @Value) [])))
noncomputable def o203 : ((x0 : @Params) → @Obj) := (fun (x0 : @Params) => (Obj.mk (Value.type "tuple") none (Data.seq (@List.toArray.{0} @Value []) 0) (@List.toArray.{0} (Option @Value) [])))
noncomputable def o267 : ((x0 : @Params) → @Obj) := (fun (x0 : @Params) => (Obj.mk (Value.type "code") none (Data.fields (@List.toArray.{0} @Value [(Value.str q47 595), (Value.str q375 596), (Value.str q258 597), (Value.int 81 0), (Value.int 1 0), (Value.int 0 0), (Value.int 0 0), (Value.int 3 0), (Value.ref 215), (Value.bool @Bool.true), (Value.int 374 0), (Value.ref 216), @Value.none, (Value.ref 217), (Value.ref 218), (Value.ref 219), (Value.int 599 0), (Value.int 81 0), (Value.str q258 600)])) (@List.toArray.{0} (Option @Value) [])))
noncomputable def o171 : ((x0 : @Params) → @Obj) := (fun (x0 : @Params) => (Obj.mk (Value.type "code") none (Data.fields (@List.toArray.{0} @Value [(Value.str q26 492), (Value.str q376 493), (Value.str q258 494), (Value.int 33 0), (Value.int 2 0), (Value.int 0 0), (Value.int 0 0), (Value.int 3 0), (Value.ref 119), (Value.bool @Bool.true), (Value.int 374 0), (Value.ref 120), @Value.none, (Value.ref 121), (Value.ref 122), (Value.ref 123), (Value.int 497 0), (Value.int 33 0), (Value.str q258 498)])) (@List.toArray.{0} (Option @Value) [])))
noncomputable def o235 : ((x0 : @Params) → @Obj) := (fun (x0 : @Params) => (Obj.mk @Value.none none (Data.fields (@List.toArray.{0} @Value [])) (@List.toArray.{0} (Option @Value) [])))
noncomputable def o299 : ((x0 : @Params) → @Obj) := (fun (x0 : @Params) => (Obj.mk (Value.type "tuple") none (Data.seq (@List.toArray.{0} @Value [(Value.str q7 637)]) 0) (@List.toArray.{0} (Option @Value) [])))
noncomputable def o113 : ((x0 : @Params) → @Obj) := (fun (x0 : @Params) => (Obj.mk (Value.type "tuple") none (Data.seq (@List.toArray.{0} @Value []) 0) (@List.toArray.{0} (Option @Value) [])))
noncomputable def o177 : ((x0 : @Params) → @Obj) := (fun (x0 : @Params) => (Obj.mk @Value.none none (Data.func (FuncData.mk q27 q369 (fdA (nth (cdB (nth pb 4)) 8)) (FuncBody.stmts (fdB (nth (cdB (nth pb 4)) 8))) (fdS (nth (cdB (nth pb 4)) 8)) 0 [] @Value.none @Value.none @Value.none @Value.none none @Value.none @Value.none 0)) (@List.toArray.{0} (Option @Value) [])))
noncomputable def o305 : ((x0 : @Params) → @Obj) := (fun (x0 : @Params) => (Obj.mk @Value.none none (Data.fields (@List.toArray.{0} @Value [])) (@List.toArray.{0} (Option @Value) [])))
noncomputable def o241 : ((x0 : @Params) → @Obj) := (fun (x0 : @Params) => (Obj.mk (Value.type "tuple") none (Data.seq (@List.toArray.{0} @Value []) 0) (@List.toArray.{0} (Option @Value) [])))
noncomputable def o145 : ((x0 : @Params) → @Obj) := (fun (x0 : @Params) => (Obj.mk @Value.none none (Data.fields (@List.toArray.{0} @Value [])) (@List.toArray.{0} (Option @Value) [])))
noncomputable def o209 : ((x0 : @Params) → @Obj) := (fun (x0 : @Params) => (Obj.mk (Value.type "function") none (Data.func (FuncData.mk q33 q377 (fdA (nth (cdB (nth pb 4)) 12)) (FuncBody.stmts (fdB (nth (cdB (nth pb 4)) 12))) (fdS (nth (cdB (nth pb 4)) 11)) 3 [] @Value.none @Value.none @Value.none (Value.str q359 387) none (Value.ref 161) @Value.none 0)) (@List.toArray.{0} (Option @Value) [])))
noncomputable def o273 : ((x0 : @Params) → @Obj) := (fun (x0 : @Params) => (Obj.mk @Value.none none (Data.func (FuncData.mk q49 q370 (fdA (nth (cdB (nth pb 4)) 22)) (FuncBody.stmts (fdB (nth (cdB (nth pb 4)) 22))) (fdS (nth (cdB (nth pb 4)) 22)) 0 [] @Value.none @Value.none @Value.none @Value.none none @Value.none @Value.none 0)) (@List.toArray.{0} (Option @Value) [])))
noncomputable def o129 : ((x0 : @Params) → @Obj) := (fun (x0 : @Params) => (Obj.mk (Value.type "tuple") none (Data.seq (@List.toArray.{0} @Value []) 0) (@List.toArray.{0} (Option @Value) [])))
noncomputable def o193 : ((x0 : @Params) → @Obj) := (fun (x0 : @Params) => (Obj.mk (Value.type "function") none (Data.func (FuncData.mk q30 q378 (fdA (nth (cdB (nth pb 4)) 10)) (FuncBody.stmts (fdB (nth (cdB (nth pb 4)) 10))) (fdS (nth (cdB (nth pb 4)) 10)) 3 [] @Value.none @Value.none @Value.none (Value.str q359 387) none (Value.ref 145) @Value.none 0)) (@List.toArray.{0} (Option @Value) [])))
noncomputable def o321 : ((x0 : @Params) → @Obj) := (fun (x0 : @Params) => (Obj.mk (Value.type "builtin_function_or_method") none (Data.fields (@List.toArray.{0} @Value [(Value.builtin "object.__init_subclass__"), (Value.ref 270)])) (@List.toArray.{0} (Option @Value) [])))
noncomputable def o257 : ((x0 : @Params) → @Obj) := (fun (x0 : @Params) => (Obj.mk (Value.type "tuple") none (Data.seq (@List.toArray.{0} @Value [(Value.str q37 591)]) 0) (@List.toArray.{0} (Option @Value) [])))
noncomputable def o161 : ((x0 : @Params) → @Obj) := (fun (x0 : @Params) => (Obj.mk (Value.type "tuple") none (Data.seq (@List.toArray.{0} @Value []) 0) (@List.toArray.{0} (Option @Value) [])))
noncomputable def o225 : ((x0 : @Params) → @Obj) := (fun (x0 : @Params) => (Obj.mk (Value.type "function") none (Data.func (FuncData.mk q35 q379 (fdA (nth (cdB (nth pb 4)) 14)) (FuncBody.stmts (fdB (nth (cdB (nth pb 4)) 14))) (fdS (nth (cdB (nth pb 4)) 10)) 3 [] @Value.none @Value.none @Value.none (Value.str q359 387) none (Value.ref 177) @Value.none 0)) (@List.toArray.{0} (Option @Value) [])))
noncomputable def o289 : ((x0 : @Params) → @Obj) := (fun (x0 : @Params) => (Obj.mk (Value.type "function") none (Data.func (FuncData.mk q53 q380 (fdA (nth (cdB (nth pb 4)) 25)) (FuncBody.stmts (fdB (nth (cdB (nth pb 4)) 25))) (fdS (nth (cdB (nth pb 4)) 25)) 3 [] @Value.none @Value.none @Value.none (Value.str q359 387) none (Value.ref 241) @Value.none 0)) (@List.toArray.{0} (Option @Value) [])))
noncomputable def o121 : ((x0 : @Params) → @Obj) := (fun (x0 : @Params) => (Obj.mk (Value.type "tuple") none (Data.seq (@List.toArray.{0} @Value [(Value.str q7 431), (Value.str q8 432), (Value.str q9 433)]) 0) (@List.toArray.{0} (Option @Value) [])))
noncomputable def o185 : ((x0 : @Params) → @Obj) := (fun (x0 : @Params) => (Obj.mk (Value.type "code") none (Data.fields (@List.toArray.{0} @Value [(Value.str q29 508), (Value.str q373 509), (Value.str q258 510), (Value.int 39 0), (Value.int 2 0), (Value.int 0 0), (Value.int 0 0), (Value.int 3 0), (Value.ref 133), (Value.bool @Bool.true), (Value.int 374 0), (Value.ref 134), @Value.none, (Value.ref 135), (Value.ref 136), (Value.ref 137), (Value.int 513 0), (Value.int 39 0), (Value.str q258 514)])) (@List.toArray.{0} (Option @Value) [])))
noncomputable def o313 : ((x0 : @Params) → @Obj) := (fun (x0 : @Params) => (Obj.mk (Value.type "dict_keyiterator") none (Data.fields (@List.toArray.{0} @Value [@Value.none, (Value.int 2 0), (Value.int 2 0), (Value.int 2 0)])) (@List.toArray.{0} (Option @Value) [])))
noncomputable def o249 : ((x0 : @Params) → @Obj) := (fun (x0 : @Params) => (Obj.mk @Value.none none (Data.fields (@List.toArray.{0} @Value [])) (@List.toArray.{0} (Option @Value) [])))
noncomputable def o153 : ((x0 : @Params) → @Obj) := (fun (x0 : @Params) => (Obj.mk (Value.type "tuple") none (Data.seq (@List.toArray.{0} @Value [(Value.str q7 478), (Value.str q22 479)]) 0) (@List.toArray.{0} (Option @Value) [])))
noncomputable def o217 : ((x0 : @Params) → @Obj) := (fun (x0 : @Params) => (Obj.mk (Value.type "function") none (Data.func (FuncData.mk q34 q381 (fdA (nth (cdB (nth pb 4)) 13)) (FuncBody.stmts (fdB (nth (cdB (nth pb 4)) 13))) (fdS (nth (cdB (nth pb 4)) 10)) 3 [] @Value.none @Value.none @Value.none (Value.str q359 387) none (Value.ref 169) @Value.none 0)) (@List.toArray.{0} (Option @Value) [])))
noncomputable def o281 : ((x0 : @Params) → @Obj) := (fun (x0 : @Params) => (Obj.mk (Value.type "code") none (Data.fields (@List.toArray.{0} @Value [(Value.str q51 612), (Value.str q374 613), (Value.str q258 614), (Value.int 89 0), (Value.int 2 0), (Value.int 0 0), (Value.int 0 0), (Value.int 3 0), (Value.ref 229), (Value.bool @Bool.true), (Value.int 374 0), (Value.ref 230), @Value.none, (Value.ref 231), (Value.ref 232), (Value.ref 233), (Value.int 617 0), (Value.int 89 0), (Value.str q258 618)])) (@List.toArray.{0} (Option @Value) [])))
noncomputable def o137 : ((x0 : @Params) → @Obj) := (fun (x0 : @Params) => (Obj.mk (Value.type "tuple") none (Data.seq (@List.toArray.{0} @Value []) 0) (@List.toArray.{0} (Option @Value) [])))
noncomputable def o201 : ((x0 : @Params) → @Obj) := (fun (x0 : @Params) => (Obj.mk (Value.type "function") none (Data.func (FuncData.mk q32 q382 (fdA (nth (cdB (nth pb 4)) 11)) (FuncBody.stmts (fdB (nth (cdB (nth pb 4)) 11))) (fdS (nth (cdB (nth pb 4)) 11)) 3 [] @Value.none @Value.none @Value.none (Value.str q359 387) none (Value.ref 153) @Value.none 0)) (@List.toArray.{0} (Option @Value) [])))
noncomputable def o265 : ((x0 : @Params) → @Obj) := (fun (x0 : @Params) => (Obj.mk (Value.type "tuple") none (Data.seq (@List.toArray.{0} @Value []) 0) (@List.toArray.{0} (Option @Value) [])))
noncomputable def o169 : ((x0 : @Params) → @Obj) := (fun (x0 : @Params) => (Obj.mk (Value.type "tuple") none (Data.seq (@List.toArray.{0} @Value []) 0) (@List.toArray.{0} (Option @Value) [])))
noncomputable def o233 : ((x0 : @Params) → @Obj) := (fun (x0 : @Params) => (Obj.mk (Value.type "function") none (Data.func (FuncData.mk q36 q383 (fdA (nth (cdB (nth pb 4)) 15)) (FuncBody.stmts (fdB (nth (cdB (nth pb 4)) 15))) (fdS (nth (cdB (nth pb 4)) 15)) 3 [] @Value.none @Value.none @Value.none (Value.str q359 387) none (Value.ref 185) @Value.none 0)) (@List.toArray.{0} (Option @Value) [])))
noncomputable def o297 : ((x0 : @Params) → @Obj) := (fun (x0 : @Params) => (Obj.mk (Value.type "tuple") none (Data.seq (@List.toArray.{0} @Value []) 0) (@List.toArray.{0} (Option @Value) [])))
noncomputable def o117 : ((x0 : @Params) → @Obj) := (fun (x0 : @Params) => (Obj.mk (Value.type "dict") none (Data.dict (@List.toArray.{0} @DictEntry [(DictEntry.mk (PyData.keyHash x0 q2) (Value.str q2 419) (Value.str q4 420)), (DictEntry.mk (PyData.keyHash x0 q3) (Value.str q3 421) (Value.str q5 422))]) 2) (@List.toArray.{0} (Option @Value) [])))
noncomputable def o181 : ((x0 : @Params) → @Obj) := (fun (x0 : @Params) => (Obj.mk @Value.none none (Data.fields (@List.toArray.{0} @Value [])) (@List.toArray.{0} (Option @Value) [])))
noncomputable def o309 : ((x0 : @Params) → @Obj) := (fun (x0 : @Params) => (Obj.mk (Value.type "code") none (Data.fields (@List.toArray.{0} @Value [(Value.str q62 641), (Value.str q365 642), (Value.str q258 643), (Value.int 103 0), (Value.int 2 0), (Value.int 0 0), (Value.int 0 0), (Value.int 3 0), (Value.ref 257), (Value.bool @Bool.true), (Value.int 374 0), (Value.ref 258), @Value.none, (Value.ref 259), (Value.ref 260), (Value.ref 261), (Value.int 646 0), (Value.int 103 0), (Value.str q258 647)])) (@List.toArray.{0} (Option @Value) [])))
noncomputable def o245 : ((x0 : @Params) → @Obj) := (fun (x0 : @Params) => (Obj.mk @Value.none none (Data.func (FuncData.mk q43 q366 (fdA (nth (cdB (nth pb 4)) 17)) (FuncBody.stmts (fdB (nth (cdB (nth pb 4)) 17))) (fdS (nth (cdB (nth pb 4)) 17)) 0 [] @Value.none @Value.none @Value.none @Value.none none @Value.none @Value.none 0)) (@List.toArray.{0} (Option @Value) [])))
noncomputable def o149 : ((x0 : @Params) → @Obj) := (fun (x0 : @Params) => (Obj.mk (Value.type "code") none (Data.fields (@List.toArray.{0} @Value [(Value.str q21 467), (Value.str q367 468), (Value.str q258 469), (Value.int 24 0), (Value.int 2 0), (Value.int 0 0), (Value.int 0 0), (Value.int 3 0), (Value.ref 97), (Value.bool @Bool.true), (Value.int 374 0), (Value.ref 98), @Value.none, (Value.ref 99), (Value.ref 100), (Value.ref 101), (Value.int 472 0), (Value.int 24 0), (Value.str q258 473)])) (@List.toArray.{0} (Option @Value) [])))
noncomputable def o213 : ((x0 : @Params) → @Obj) := (fun (x0 : @Params) => (Obj.mk (Value.type "tuple") none (Data.seq (@List.toArray.{0} @Value [(Value.str q7 543)]) 0) (@List.toArray.{0} (Option @Value) [])))
noncomputable def o277 : ((x0 : @Params) → @Obj) := (fun (x0 : @Params) => (Obj.mk @Value.none none (Data.fields (@List.toArray.{0} @Value [])) (@List.toArray.{0} (Option @Value) [])))
noncomputable def o133 : ((x0 : @Params) → @Obj) := (fun (x0 : @Params) => (Obj.mk (Value.type "dict") none (Data.dict (@List.toArray.{0} @DictEntry [(DictEntry.mk (PyData.keyHash x0 q324) (Value.str q324 445) (Value.str q359 387)), (DictEntry.mk (PyData.keyHash x0 q57) (Value.str q57 448) (Value.str q13 447)), (DictEntry.mk (PyData.keyHash x0 q360) (Value.str q360 451) (Value.str q371 450)), (DictEntry.mk (PyData.keyHash x0 q94) (Value.str q94 453) @Value.none), (DictEntry.mk (PyData.keyHash x0 q255) (Value.str q255 455) (Value.ref 88))]) 5) (@List.toArray.{0} (Option @Value) [])))
noncomputable def o197 : ((x0 : @Params) → @Obj) := (fun (x0 : @Params) => (Obj.mk (Value.type "tuple") none (Data.seq (@List.toArray.{0} @Value [(Value.str q7 527)]) 0) (@List.toArray.{0} (Option @Value) [])))
noncomputable def o261 : ((x0 : @Params) → @Obj) := (fun (x0 : @Params) => (Obj.mk (Value.type "function") none (Data.func (FuncData.mk q46 q384 (fdA (nth (cdB (nth pb 4)) 19)) (FuncBody.stmts (fdB (nth (cdB (nth pb 4)) 19))) (fdS (nth (cdB (nth pb 4)) 19)) 3 [] @Value.none @Value.none @Value.none (Value.str q359 387) none (Value.ref 213) @Value.none 0)) (@List.toArray.{0} (Option @Value) [])))
noncomputable def o165 : ((x0 : @Params) → @Obj) := (fun (x0 : @Params) => (Obj.mk (Value.type "tuple") none (Data.seq (@List.toArray.{0} @Value [(Value.int 4 491)]) 0) (@List.toArray.{0} (Option @Value) [])))
noncomputable def o229 : ((x0 : @Params) → @Obj) := (fun (x0 : @Params) => (Obj.mk (Value.type "tuple") none (Data.seq (@List.toArray.{0} @Value [(Value.str q37 559), (Value.str q38 560)]) 0) (@List.toArray.{0} (Option @Value) [])))
noncomputable def o293 : ((x0 : @Params) → @Obj) := (fun (x0 : @Params) => (Obj.mk (Value.type "tuple") none (Data.seq (@List.toArray.{0} @Value []) 0) (@List.toArray.{0} (Option @Value) [])))
noncomputable def o125 : ((x0 : @Params) → @Obj) := (fun (x0 : @Params) => (Obj.mk (Value.type "function") none (Data.func (FuncData.mk q6 q385 (fdA (nth (cdB (nth pb 4)) 1)) (FuncBody.stmts (fdB (nth (cdB (nth pb 4)) 1))) (fdS (nth (cdB (nth pb 4)) 1)) 3 [] (Value.ref 71) @Value.none @Value.none (Value.str q359 387) none (Value.ref 77) @Value.none 0)) (@List.toArray.{0} (Option @Value) [])))
noncomputable def o189 : ((x0 : @Params) → @Obj) := (fun (x0 : @Params) => (Obj.mk (Value.type "tuple") none (Data.seq (@List.toArray.{0} @Value [(Value.str q7 519)]) 0) (@List.toArray.{0} (Option @Value) [])))
noncomputable def o317 : ((x0 : @Params) → @Obj) := (fun (x0 : @Params) => (Obj.mk (Value.type "type") none (Data.cls (ClassData.mk q40 [(Value.type "object")] [(Value.ref 270), (Value.type "object")] 269 q40 @Bool.false [q2, q3] [] @Bool.false none @Bool.false)) (@List.toArray.{0} (Option @Value) [none, none, (some (Value.str q40 407)), (some (Value.str q40 415)), (some (Value.builtin "object.__new__")), (some (Value.bool @Bool.false))])))
noncomputable def o253 : ((x0 : @Params) → @Obj) := (fun (x0 : @Params) => (Obj.mk (Value.type "code") none (Data.fields (@List.toArray.{0} @Value [(Value.str q45 580), (Value.str q364 581), (Value.str q258 582), (Value.int 75 0), (Value.int 2 0), (Value.int 0 0), (Value.int 0 0), (Value.int 3 0), (Value.ref 201), (Value.bool @Bool.true), (Value.int 374 0), (Value.ref 202), @Value.none, (Value.ref 203), (Value.ref 204), (Value.ref 205), (Value.int 585 0), (Value.int 75 0), (Value.str q258 586)])) (@List.toArray.{0} (Option @Value) [])))
noncomputable def o157 : ((x0 : @Params) → @Obj) := (fun (x0 : @Params) => (Obj.mk (Value.type "function") none (Data.func (FuncData.mk q23 q386 (fdA (nth (cdB (nth pb 4)) 5)) (FuncBody.stmts (fdB (nth (cdB (nth pb 4)) 5))) (fdS (nth (cdB (nth pb 4)) 4)) 3 [] @Value.none @Value.none @Value.none (Value.str q359 387) none (Value.ref 109) @Value.none 0)) (@List.toArray.{0} (Option @Value) [])))
noncomputable def o221 : ((x0 : @Params) → @Obj) := (fun (x0 : @Params) => (Obj.mk (Value.type "tuple") none (Data.seq (@List.toArray.{0} @Value [(Value.str q7 551)]) 0) (@List.toArray.{0} (Option @Value) [])))
noncomputable def o285 : ((x0 : @Params) → @Obj) := (fun (x0 : @Params) => (Obj.mk (Value.type "tuple") none (Data.seq (@List.toArray.{0} @Value [(Value.str q7 623)]) 0) (@List.toArray.{0} (Option @Value) [])))
noncomputable def o141 : ((x0 : @Params) → @Obj) := (fun (x0 : @Params) => (Obj.mk @Value.none none (Data.func (FuncData.mk q18 q363 (fdA (nth (cdB (nth pb 4)) 3)) (FuncBody.stmts (fdB (nth (cdB (nth pb 4)) 3))) (fdS (nth (cdB (nth pb 4)) 3)) 0 [] @Value.none @Value.none @Value.none @Value.none none @Value.none @Value.none 0)) (@List.toArray.{0} (Option @Value) [])))
noncomputable def o205 : ((x0 : @Params) → @Obj) := (fun (x0 : @Params) => (Obj.mk (Value.type "tuple") none (Data.seq (@List.toArray.{0} @Value [(Value.str q7 535)]) 0) (@List.toArray.{0} (Option @Value) [])))
noncomputable def o269 : ((x0 : @Params) → @Obj) := (fun (x0 : @Params) => (Obj.mk (Value.type "tuple") none (Data.seq (@List.toArray.{0} @Value []) 0) (@List.toArray.{0} (Option @Value) [])))
noncomputable def o173 : ((x0 : @Params) → @Obj) := (fun (x0 : @Params) => (Obj.mk (Value.type "tuple") none (Data.seq (@List.toArray.{0} @Value []) 0) (@List.toArray.{0} (Option @Value) [])))
noncomputable def o237 : ((x0 : @Params) → @Obj) := (fun (x0 : @Params) => (Obj.mk (Value.type "tuple") none (Data.seq (@List.toArray.{0} @Value []) 0) (@List.toArray.{0} (Option @Value) [])))
noncomputable def o301 : ((x0 : @Params) → @Obj) := (fun (x0 : @Params) => (Obj.mk @Value.none none (Data.func (FuncData.mk q61 q361 (fdA (nth (cdB (nth pb 4)) 27)) (FuncBody.stmts (fdB (nth (cdB (nth pb 4)) 27))) (fdS (nth (cdB (nth pb 4)) 10)) 0 [] @Value.none @Value.none @Value.none @Value.none none @Value.none @Value.none 0)) (@List.toArray.{0} (Option @Value) [])))
noncomputable def tree321 : ((x0 : @Params) → @BT) := (fun (x0 : @Params) => (BT.node (o41 x0) (BT.node (o42 x0) (BT.node (o108 x0) (BT.node (o48 x0) (BT.node (o56 x0) (BT.node (o72 x0) (BT.node (o110 x0) (BT.node (o174 x0) (BT.node (o302 x0) @BT.nil @BT.nil) @BT.nil) (BT.node (o238 x0) @BT.nil @BT.nil)) (BT.node (o142 x0) (BT.node (o206 x0) @BT.nil @BT.nil) (BT.node (o270 x0) @BT.nil @BT.nil))) (BT.node (o92 x0) (BT.node (o126 x0) (BT.node (o190 x0) (BT.node (o318 x0) @BT.nil @BT.nil) @BT.nil) (BT.node (o254 x0) @BT.nil @BT.nil)) (BT.node (o158 x0) (BT.node (o222 x0) @BT.nil @BT.nil) (BT.node (o286 x0) @BT.nil @BT.nil)))) (BT.node (o64 x0) (BT.node (o80 x0) (BT.node (o118 x0) (BT.node (o182 x0) (BT.node (o310 x0) @BT.nil @BT.nil) @BT.nil) (BT.node (o246 x0) @BT.nil @BT.nil)) (BT.node (o150 x0) (BT.node (o214 x0) @BT.nil @BT.nil) (BT.node (o278 x0) @BT.nil @BT.nil))) (BT.node (o100 x0) (BT.node (o134 x0) (BT.node (o198 x0) @BT.nil @BT.nil) (BT.node (o262 x0) @BT.nil @BT.nil)) (BT.node (o166 x0) (BT.node (o230 x0) @BT.nil @BT.nil) (BT.node (o294 x0) @BT.nil @BT.nil))))) (BT.node (o52 x0) (BT.node (o60 x0) (BT.node (o76 x0) (BT.node (o114 x0) (BT.node (o178 x0) (BT.node (o306 x0) @BT.nil @BT.nil) @BT.nil) (BT.node (o242 x0) @BT.nil @BT.nil)) (BT.node (o146 x0) (BT.node (o210 x0) @BT.nil @BT.nil) (BT.node (o274 x0) @BT.nil @BT.nil))) (BT.node (o96 x0) (BT.node (o130 x0) (BT.node (o194 x0) @BT.nil @BT.nil) (BT.node (o258 x0) @BT.nil @BT.nil)) (BT.node (o162 x0) (BT.node (o226 x0) @BT.nil @BT.nil) (BT.node (o290 x0) @BT.nil @BT.nil)))) (BT.node (o68 x0) (BT.node (o88 x0) (BT.node (o122 x0) (BT.node (o186 x0) (BT.node (o314 x0) @BT.nil @BT.nil) @BT.nil) (BT.node (o250 x0) @BT.nil @BT.nil)) (BT.node (o154 x0) (BT.node (o218 x0) @BT.nil @BT.nil) (BT.node (o282 x0) @BT.nil @BT.nil))) (BT.node (o104 x0) (BT.node (o138 x0) (BT.node (o202 x0) @BT.nil @BT.nil) (BT.node (o266 x0) @BT.nil @BT.nil)) (BT.node (o170 x0) (BT.node (o234 x0) @BT.nil @BT.nil) (BT.node (o298 x0) @BT.nil @BT.nil)))))) (BT.node (o46 x0) (BT.node (o50 x0) (BT.node (o58 x0) (BT.node (o74 x0) (BT.node (o112 x0) (BT.node (o176 x0) (BT.node (o304 x0) @BT.nil @BT.nil) @BT.nil) (BT.node (o240 x0) @BT.nil @BT.nil)) (BT.node (o144 x0) (BT.node (o208 x0) @BT.nil @BT.nil) (BT.node (o272 x0) @BT.nil @BT.nil))) (BT.node (o94 x0) (BT.node (o128 x0) (BT.node (o192 x0) (BT.node (o320 x0) @BT.nil @BT.nil) @BT.nil) (BT.node (o256 x0) @BT.nil @BT.nil)) (BT.node (o160 x0) (BT.node (o224 x0) @BT.nil @BT.nil) (BT.node (o288 x0) @BT.nil @BT.nil)))) (BT.node (o66 x0) (BT.node (o82 x0) (BT.node (o120 x0) (BT.node (o184 x0) (BT.node (o312 x0) @BT.nil @BT.nil) @BT.nil) (BT.node (o248 x0) @BT.nil @BT.nil)) (BT.node (o152 x0) (BT.node (o216 x0) @BT.nil @BT.nil) (BT.node (o280 x0) @BT.nil @BT.nil))) (BT.node (o102 x0) (BT.node (o136 x0) (BT.node (o200 x0) @BT.nil @BT.nil) (BT.node (o264 x0) @BT.nil @BT.nil)) (BT.node (o168 x0) (BT.node (o232 x0) @BT.nil @BT.nil) (BT.node (o296 x0) @BT.nil @BT.nil))))) (BT.node (o54 x0) (BT.node (o62 x0) (BT.node (o78 x0) (BT.node (o116 x0) (BT.node (o180 x0) (BT.node (o308 x0) @BT.nil @BT.nil) @BT.nil) (BT.node (o244 x0) @BT.nil @BT.nil)) (BT.node (o148 x0) (BT.node (o212 x0) @BT.nil @BT.nil) (BT.node (o276 x0) @BT.nil @BT.nil))) (BT.node (o98 x0) (BT.node (o132 x0) (BT.node (o196 x0) @BT.nil @BT.nil) (BT.node (o260 x0) @BT.nil @BT.nil)) (BT.node (o164 x0) (BT.node (o228 x0) @BT.nil @BT.nil) (BT.node (o292 x0) @BT.nil @BT.nil)))) (BT.node (o70 x0) (BT.node (o90 x0) (BT.node (o124 x0) (BT.node (o188 x0) (BT.node (o316 x0) @BT.nil @BT.nil) @BT.nil) (BT.node (o252 x0) @BT.nil @BT.nil)) (BT.node (o156 x0) (BT.node (o220 x0) @BT.nil @BT.nil) (BT.node (o284 x0) @BT.nil @BT.nil))) (BT.node (o106 x0) (BT.node (o140 x0) (BT.node (o204 x0) @BT.nil @BT.nil) (BT.node (o268 x0) @BT.nil @BT.nil)) (BT.node (o172 x0) (BT.node (o236 x0) @BT.nil @BT.nil) (BT.node (o300 x0) @BT.nil @BT.nil))))))) (BT.node (o43 x0) (BT.node (o45 x0) (BT.node (o49 x0) (BT.node (o57 x0) (BT.node (o73 x0) (BT.node (o111 x0) (BT.node (o175 x0) (BT.node (o303 x0) @BT.nil @BT.nil) @BT.nil) (BT.node (o239 x0) @BT.nil @BT.nil)) (BT.node (o143 x0) (BT.node (o207 x0) @BT.nil @BT.nil) (BT.node (o271 x0) @BT.nil @BT.nil))) (BT.node (o93 x0) (BT.node (o127 x0) (BT.node (o191 x0) (BT.node (o319 x0) @BT.nil @BT.nil) @BT.nil) (BT.node (o255 x0) @BT.nil @BT.nil)) (BT.node (o159 x0) (BT.node (o223 x0) @BT.nil @BT.nil) (BT.node (o287 x0) @BT.nil @BT.nil)))) (BT.node (o65 x0) (BT.node (o109 x0) (BT.node (o119 x0) (BT.node (o183 x0) (BT.node (o311 x0) @BT.nil @BT.nil) @BT.nil) (BT.node (o247 x0) @BT.nil @BT.nil)) (BT.node (o151 x0) (BT.node (o215 x0) @BT.nil @BT.nil) (BT.node (o279 x0) @BT.nil @BT.nil))) (BT.node (o101 x0) (BT.node (o135 x0) (BT.node (o199 x0) @BT.nil @BT.nil) (BT.node (o263 x0) @BT.nil @BT.nil)) (BT.node (o167 x0) (BT.node (o231 x0) @BT.nil @BT.nil) (BT.node (o295 x0) @BT.nil @BT.nil))))) (BT.node (o53 x0) (BT.node (o61 x0) (BT.node (o77 x0) (BT.node (o115 x0) (BT.node (o179 x0) (BT.node (o307 x0) @BT.nil @BT.nil) @BT.nil) (BT.node (o243 x0) @BT.nil @BT.nil)) (BT.node (o147 x0) (BT.node (o211 x0) @BT.nil @BT.nil) (BT.node (o275 x0) @BT.nil @BT.nil))) (BT.node (o97 x0) (BT.node (o131 x0) (BT.node (o195 x0) @BT.nil @BT.nil) (BT.node (o259 x0) @BT.nil @BT.nil)) (BT.node (o163 x0) (BT.node (o227 x0) @BT.nil @BT.nil) (BT.node (o291 x0) @BT.nil @BT.nil)))) (BT.node (o69 x0) (BT.node (o89 x0) (BT.node (o123 x0) (BT.node (o187 x0) (BT.node (o315 x0) @BT.nil @BT.nil) @BT.nil) (BT.node (o251 x0) @BT.nil @BT.nil)) (BT.node (o155 x0) (BT.node (o219 x0) @BT.nil @BT.nil) (BT.node (o283 x0) @BT.nil @BT.nil))) (BT.node (o105 x0) (BT.node (o139 x0) (BT.node (o203 x0) @BT.nil @BT.nil) (BT.node (o267 x0) @BT.nil @BT.nil)) (BT.node (o171 x0) (BT.node (o235 x0) @BT.nil @BT.nil) (BT.node (o299 x0) @BT.nil @BT.nil)))))) (BT.node (o47 x0) (BT.node (o51 x0) (BT.node (o59 x0) (BT.node (o75 x0) (BT.node (o113 x0) (BT.node (o177 x0) (BT.node (o305 x0) @BT.nil @BT.nil) @BT.nil) (BT.node (o241 x0) @BT.nil @BT.nil)) (BT.node (o145 x0) (BT.node (o209 x0) @BT.nil @BT.nil) (BT.node (o273 x0) @BT.nil @BT.nil))) (BT.node (o95 x0) (BT.node (o129 x0) (BT.node (o193 x0) (BT.node (o321 x0) @BT.nil @BT.nil) @BT.nil) (BT.node (o257 x0) @BT.nil @BT.nil)) (BT.node (o161 x0) (BT.node (o225 x0) @BT.nil @BT.nil) (BT.node (o289 x0) @BT.nil @BT.nil)))) (BT.node (o67 x0) (BT.node (o83 x0) (BT.node (o121 x0) (BT.node (o185 x0) (BT.node (o313 x0) @BT.nil @BT.nil) @BT.nil) (BT.node (o249 x0) @BT.nil @BT.nil)) (BT.node (o153 x0) (BT.node (o217 x0) @BT.nil @BT.nil) (BT.node (o281 x0) @BT.nil @BT.nil))) (BT.node (o103 x0) (BT.node (o137 x0) (BT.node (o201 x0) @BT.nil @BT.nil) (BT.node (o265 x0) @BT.nil @BT.nil)) (BT.node (o169 x0) (BT.node (o233 x0) @BT.nil @BT.nil) (BT.node (o297 x0) @BT.nil @BT.nil))))) (BT.node (o55 x0) (BT.node (o63 x0) (BT.node (o79 x0) (BT.node (o117 x0) (BT.node (o181 x0) (BT.node (o309 x0) @BT.nil @BT.nil) @BT.nil) (BT.node (o245 x0) @BT.nil @BT.nil)) (BT.node (o149 x0) (BT.node (o213 x0) @BT.nil @BT.nil) (BT.node (o277 x0) @BT.nil @BT.nil))) (BT.node (o99 x0) (BT.node (o133 x0) (BT.node (o197 x0) @BT.nil @BT.nil) (BT.node (o261 x0) @BT.nil @BT.nil)) (BT.node (o165 x0) (BT.node (o229 x0) @BT.nil @BT.nil) (BT.node (o293 x0) @BT.nil @BT.nil)))) (BT.node (o71 x0) (BT.node (o91 x0) (BT.node (o125 x0) (BT.node (o189 x0) (BT.node (o317 x0) @BT.nil @BT.nil) @BT.nil) (BT.node (o253 x0) @BT.nil @BT.nil)) (BT.node (o157 x0) (BT.node (o221 x0) @BT.nil @BT.nil) (BT.node (o285 x0) @BT.nil @BT.nil))) (BT.node (o107 x0) (BT.node (o141 x0) (BT.node (o205 x0) @BT.nil @BT.nil) (BT.node (o269 x0) @BT.nil @BT.nil)) (BT.node (o173 x0) (BT.node (o237 x0) @BT.nil @BT.nil) (BT.node (o301 x0) @BT.nil @BT.nil)))))))))
noncomputable def o531 : ((x0 : @Params) → @Obj) := (fun (x0 : @Params) => (Obj.mk (Value.type "dict") none (Data.dict (@List.toArray.{0} @DictEntry [(DictEntry.mk (PyData.keyHash x0 q57) (Value.str q57 165) (Value.str q387 659)), (DictEntry.mk (PyData.keyHash x0 q94) (Value.str q94 166) @Value.none), (DictEntry.mk (PyData.keyHash x0 q95) (Value.str q95 167) @Value.none), (DictEntry.mk (PyData.keyHash x0 q96) (Value.str q96 168) (Value.builtin "__main__.__loader__#opaque")), (DictEntry.mk (PyData.keyHash x0 q97) (Value.str q97 169) @Value.none), (DictEntry.mk (PyData.keyHash x0 q255) (Value.str q255 170) (Value.ref 6)), (DictEntry.mk (PyData.keyHash x0 q256) (Value.str q256 171) (Value.ref 4)), (DictEntry.mk (PyData.keyHash x0 q257) (Value.str q257 173) (Value.str q258 172)), (DictEntry.mk (PyData.keyHash x0 q259) (Value.str q259 174) @Value.none), (DictEntry.mk (PyData.keyHash x0 q44) (Value.str q44 370) (Value.builtin "math.fabs")), (DictEntry.mk (PyData.keyHash x0 q41) (Value.str q41 373) (Value.builtin "math.hypot")), (DictEntry.mk (PyData.keyHash x0 q16) (Value.str q16 386) (Value.ref 49)), (DictEntry.mk (PyData.keyHash x0 q10) (Value.str q10 406) (Value.ref 59)), (DictEntry.mk (PyData.keyHash x0 q40) (Value.str q40 658) (Value.ref 270)), (DictEntry.mk (PyData.keyHash x0 q91) (Value.str q91 666) (Value.ref 279)), (DictEntry.mk (PyData.keyHash x0 q85) (Value.str q85 672) (Value.ref 284)), (DictEntry.mk (PyData.keyHash x0 q388) (Value.str q388 693) (Value.ref 291))]) 17) (@List.toArray.{0} (Option @Value) [])))
noncomputable def o545 : ((x0 : @Params) → @Obj) := (fun (x0 : @Params) => (Obj.mk (Value.type "tuple") none (Data.seq (@List.toArray.{0} @Value [(Value.str q80 676), (Value.str q64 677), (Value.str q30 678), (Value.str q65 679), (Value.str q81 680), (Value.str q75 681), (Value.str q83 682), (Value.str q84 683), (Value.str q28 684), (Value.str q86 685), (Value.str q87 686), (Value.str q88 687), (Value.str q73 688), (Value.str q89 689), (Value.str q92 690)]) 0) (@List.toArray.{0} (Option @Value) [])))
noncomputable def o537 : ((x0 : @Params) → @Obj) := (fun (x0 : @Params) => (Obj.mk (Value.type "function") none (Data.func (FuncData.mk q91 q91 (fdA (nth pb 6)) (FuncBody.stmts (fdB (nth pb 6))) (fdS (nth pb 6)) 3 [] @Value.none @Value.none @Value.none (Value.str q387 659) none (Value.ref 278) @Value.none 0)) (@List.toArray.{0} (Option @Value) [])))
noncomputable def o549 : ((x0 : @Params) → @Obj) := (fun (x0 : @Params) => (Obj.mk (Value.type "function") none (Data.func (FuncData.mk q388 q388 (fdA (nth pb 8)) (FuncBody.stmts (fdB (nth pb 8))) (fdS (nth pb 8)) 3 [] @Value.none @Value.none @Value.none (Value.str q387 659) none (Value.ref 290) @Value.none 0)) (@List.toArray.{0} (Option @Value) [])))
noncomputable def o533 : ((x0 : @Params) → @Obj) := (fun (x0 : @Params) => (Obj.mk (Value.type "tuple") none (Data.seq (@List.toArray.{0} @Value []) 0) (@List.toArray.{0} (Option @Value) [])))
noncomputable def o541 : ((x0 : @Params) → @Obj) := (fun (x0 : @Params) => (Obj.mk (Value.type "code") none (Data.fields (@List.toArray.{0} @Value [(Value.str q85 667), (Value.str q85 668), (Value.str q258 669), (Value.int 115 0), (Value.int 2 0), (Value.int 0 0), (Value.int 0 0), (Value.int 3 0), (Value.ref 280), (Value.bool @Bool.true), (Value.int 374 0), (Value.ref 281), @Value.none, @Value.none, @Value.none, (Value.ref 282), (Value.int 670 0), (Value.int 115 0), (Value.str q258 671)])) (@List.toArray.{0} (Option @Value) [])))
noncomputable def o547 : ((x0 : @Params) → @Obj) := (fun (x0 : @Params) => (Obj.mk @Value.none none (Data.func (FuncData.mk q388 q388 (fdA (nth pb 8)) (FuncBody.stmts (fdB (nth pb 8))) (fdS (nth pb 8)) 0 [] @Value.none @Value.none @Value.none @Value.none none @Value.none @Value.none 0)) (@List.toArray.{0} (Option @Value) [])))
noncomputable def o539 : ((x0 : @Params) → @Obj) := (fun (x0 : @Params) => (Obj.mk @Value.none none (Data.fields (@List.toArray.{0} @Value [])) (@List.toArray.{0} (Option @Value) [])))
noncomputable def o535 : ((x0 : @Params) → @Obj) := (fun (x0 : @Params) => (Obj.mk @Value.none none (Data.func (FuncData.mk q91 q91 (fdA (nth pb 6)) (FuncBody.stmts (fdB (nth pb 6))) (fdS (nth pb 6)) 0 [] @Value.none @Value.none @Value.none @Value.none none @Value.none @Value.none 0)) (@List.toArray.{0} (Option @Value) [])))
noncomputable def o543 : ((x0 : @Params) → @Obj) := (fun (x0 : @Params) => (Obj.mk (Value.type "tuple") none (Data.seq (@List.toArray.{0} @Value []) 0) (@List.toArray.{0} (Option @Value) [])))
noncomputable def o546 : ((x0 : @Params) → @Obj) := (fun (x0 : @Params) => (Obj.mk (Value.type "tuple") none (Data.seq (@List.toArray.{0} @Value []) 0) (@List.toArray.{0} (Option @Value) [])))
noncomputable def o532 : ((x0 : @Params) → @Obj) := (fun (x0 : @Params) => (Obj.mk @Value.none none (Data.fields (@List.toArray.{0} @Value [(Value.int 2 0), (Value.int 0 0), (Value.ref 48), (Value.int 6 0), (Value.int 0 0), (Value.ref 55), (Value.int 8 0), (Value.int 0 0), (Value.ref 68), (Value.int 106 0), (Value.int 0 0), (Value.ref 278), (Value.int 115 0), (Value.int 0 0), (Value.ref 283), (Value.int 123 0), (Value.int 0 0), (Value.ref 290)])) (@List.toArray.{0} (Option @Value) [])))
noncomputable def o538 : ((x0 : @Params) → @Obj) := (fun (x0 : @Params) => (Obj.mk (Value.type "tuple") none (Data.seq (@List.toArray.{0} @Value []) 0) (@List.toArray.{0} (Option @Value) [])))
noncomputable def o534 : ((x0 : @Params) → @Obj) := (fun (x0 : @Params) => (Obj.mk @Value.none none (Data.fields (@List.toArray.{0} @Value [])) (@List.toArray.{0} (Option @Value) [])))
noncomputable def o542 : ((x0 : @Params) → @Obj) := (fun (x0 : @Params) => (Obj.mk (Value.type "function") none (Data.func (FuncData.mk q85 q85 (fdA (nth pb 7)) (FuncBody.stmts (fdB (nth pb 7))) (fdS (nth pb 7)) 3 [] @Value.none @Value.none @Value.none (Value.str q387 659) none (Value.ref 283) @Value.none 0)) (@List.toArray.{0} (Option @Value) [])))
noncomputable def o548 : ((x0 : @Params) → @Obj) := (fun (x0 : @Params) => (Obj.mk (Value.type "code") none (Data.fields (@List.toArray.{0} @Value [(Value.str q388 673), (Value.str q388 674), (Value.str q258 675), (Value.int 123 0), (Value.int 1 0), (Value.int 0 0), (Value.int 0 0), (Value.int 3 0), (Value.ref 285), (Value.bool @Bool.true), (Value.int 374 0), (Value.ref 286), @Value.none, (Value.ref 287), (Value.ref 288), (Value.ref 289), (Value.int 691 0), (Value.int 123 0), (Value.str q258 692)])) (@List.toArray.{0} (Option @Value) [])))
noncomputable def o540 : ((x0 : @Params) → @Obj) := (fun (x0 : @Params) => (Obj.mk @Value.none none (Data.func (FuncData.mk q85 q85 (fdA (nth pb 7)) (FuncBody.stmts (fdB (nth pb 7))) (fdS (nth pb 7)) 0 [] @Value.none @Value.none @Value.none @Value.none none @Value.none @Value.none 0)) (@List.toArray.{0} (Option @Value) [])))
noncomputable def o536 : ((x0 : @Params) → @Obj) := (fun (x0 : @Params) => (Obj.mk (Value.type "code") none (Data.fields (@List.toArray.{0} @Value [(Value.str q91 661), (Value.str q91 662), (Value.str q258 663), (Value.int 106 0), (Value.int 3 0), (Value.int 0 0), (Value.int 0 0), (Value.int 3 0), (Value.ref 275), (Value.bool @Bool.true), (Value.int 374 0), (Value.ref 276), @Value.none, @Value.none, @Value.none, (Value.ref 277), (Value.int 664 0), (Value.int 106 0), (Value.str q258 665)])) (@List.toArray.{0} (Option @Value) [])))
noncomputable def o544 : ((x0 : @Params) → @Obj) := (fun (x0 : @Params) => (Obj.mk @Value.none none (Data.fields (@List.toArray.{0} @Value [])) (@List.toArray.{0} (Option @Value) [])))
noncomputable def tree549 : ((x0 : @Params) → @BT) := (fun (x0 : @Params) => (BT.node (o41 x0) (BT.node (o42 x0) (BT.node (o531 x0) (BT.node (o48 x0) (BT.node (o56 x0) (BT.node (o72 x0) (BT.node (o110 x0) (BT.node (o174 x0) (BT.node (o302 x0) @BT.nil @BT.nil) @BT.nil) (BT.node (o238 x0) @BT.nil @BT.nil)) (BT.node (o142 x0) (BT.node (o206 x0) (BT.node (o545 x0) @BT.nil @BT.nil) @BT.nil) (BT.node (o270 x0) @BT.nil @BT.nil))) (BT.node (o92 x0) (BT.node (o126 x0) (BT.node (o190 x0) (BT.node (o318 x0) @BT.nil @BT.nil) @BT.nil) (BT.node (o254 x0) @BT.nil @BT.nil)) (BT.node (o158 x0) (BT.node (o222 x0) @BT.nil @BT.nil) (BT.node (o286 x0) @BT.nil @BT.nil)))) (BT.node (o64 x0) (BT.node (o80 x0) (BT.node (o118 x0) (BT.node (o182 x0) (BT.node (o310 x0) @BT.nil @BT.nil) @BT.nil) (BT.node (o246 x0) @BT.nil @BT.nil)) (BT.node (o150 x0) (BT.node (o214 x0) @BT.nil @BT.nil) (BT.node (o278 x0) @BT.nil @BT.nil))) (BT.node (o100 x0) (BT.node (o134 x0) (BT.node (o198 x0) (BT.node (o537 x0) @BT.nil @BT.nil) @BT.nil) (BT.node (o262 x0) @BT.nil @BT.nil)) (BT.node (o166 x0) (BT.node (o230 x0) @BT.nil @BT.nil) (BT.node (o294 x0) @BT.nil @BT.nil))))) (BT.node (o52 x0) (BT.node (o60 x0) (BT.node (o76 x0) (BT.node (o114 x0) (BT.node (o178 x0) (BT.node (o306 x0) @BT.nil @BT.nil) @BT.nil) (BT.node (o242 x0) @BT.nil @BT.nil)) (BT.node (o146 x0) (BT.node (o210 x0) (BT.node (o549 x0) @BT.nil @BT.nil) @BT.nil) (BT.node (o274 x0) @BT.nil @BT.nil))) (BT.node (o96 x0) (BT.node (o130 x0) (BT.node (o194 x0) (BT.node (o533 x0) @BT.nil @BT.nil) @BT.nil) (BT.node (o258 x0) @BT.nil @BT.nil)) (BT.node (o162 x0) (BT.node (o226 x0) @BT.nil @BT.nil) (BT.node (o290 x0) @BT.nil @BT.nil)))) (BT.node (o68 x0) (BT.node (o88 x0) (BT.node (o122 x0) (BT.node (o186 x0) (BT.node (o314 x0) @BT.nil @BT.nil) @BT.nil) (BT.node (o250 x0) @BT.nil @BT.nil)) (BT.node (o154 x0) (BT.node (o218 x0) @BT.nil @BT.nil) (BT.node (o282 x0) @BT.nil @BT.nil))) (BT.node (o104 x0) (BT.node (o138 x0) (BT.node (o202 x0) (BT.node (o541 x0) @BT.nil @BT.nil) @BT.nil) (BT.node (o266 x0) @BT.nil @BT.nil)) (BT.node (o170 x0) (BT.node (o234 x0) @BT.nil @BT.nil) (BT.node (o298 x0) @BT.nil @BT.nil)))))) (BT.node (o46 x0) (BT.node (o50 x0) (BT.node (o58 x0) (BT.node (o74 x0) (BT.node (o112 x0) (BT.node (o176 x0) (BT.node (o304 x0) @BT.nil @BT.nil) @BT.nil) (BT.node (o240 x0) @BT.nil @BT.nil)) (BT.node (o144 x0) (BT.node (o208 x0) (BT.node (o547 x0) @BT.nil @BT.nil) @BT.nil) (BT.node (o272 x0) @BT.nil @BT.nil))) (BT.node (o94 x0) (BT.node (o128 x0) (BT.node (o192 x0) (BT.node (o320 x0) @BT.nil @BT.nil) @BT.nil) (BT.node (o256 x0) @BT.nil @BT.nil)) (BT.node (o160 x0) (BT.node (o224 x0) @BT.nil @BT.nil) (BT.node (o288 x0) @BT.nil @BT.nil)))) (BT.node (o66 x0) (BT.node (o82 x0) (BT.node (o120 x0) (BT.node (o184 x0) (BT.node (o312 x0) @BT.nil @BT.nil) @BT.nil) (BT.node (o248 x0) @BT.nil @BT.nil)) (BT.node (o152 x0) (BT.node (o216 x0) @BT.nil @BT.nil) (BT.node (o280 x0) @BT.nil @BT.nil))) (BT.node (o102 x0) (BT.node (o136 x0) (BT.node (o200 x0) (BT.node (o539 x0) @BT.nil @BT.nil) @BT.nil) (BT.node (o264 x0) @BT.nil @BT.nil)) (BT.node (o168 x0) (BT.node (o232 x0) @BT.nil @BT.nil) (BT.node (o296 x0) @BT.nil @BT.nil))))) (BT.node (o54 x0) (BT.node (o62 x0) (BT.node (o78 x0) (BT.node (o116 x0) (BT.node (o180 x0) (BT.node (o308 x0) @BT.nil @BT.nil) @BT.nil) (BT.node (o244 x0) @BT.nil @BT.nil)) (BT.node (o148 x0) (BT.node (o212 x0) @BT.nil @BT.nil) (BT.node (o276 x0) @BT.nil @BT.nil))) (BT.node (o98 x0) (BT.node (o132 x0) (BT.node (o196 x0) (BT.node (o535 x0) @BT.nil @BT.nil) @BT.nil) (BT.node (o260 x0) @BT.nil @BT.nil)) (BT.node (o164 x0) (BT.node (o228 x0) @BT.nil @BT.nil) (BT.node (o292 x0) @BT.nil @BT.nil)))) (BT.node (o70 x0) (BT.node (o90 x0) (BT.node (o124 x0) (BT.node (o188 x0) (BT.node (o316 x0) @BT.nil @BT.nil) @BT.nil) (BT.node (o252 x0) @BT.nil @BT.nil)) (BT.node (o156 x0) (BT.node (o220 x0) @BT.nil @BT.nil) (BT.node (o284 x0) @BT.nil @BT.nil))) (BT.node (o106 x0) (BT.node (o140 x0) (BT.node (o204 x0) (BT.node (o543 x0) @BT.nil @BT.nil) @BT.nil) (BT.node (o268 x0) @BT.nil @BT.nil)) (BT.node (o172 x0) (BT.node (o236 x0) @BT.nil @BT.nil) (BT.node (o300 x0) @BT.nil @BT.nil))))))) (BT.node (o43 x0) (BT.node (o45 x0) (BT.node (o49 x0) (BT.node (o57 x0) (BT.node (o73 x0) (BT.node (o111 x0) (BT.node (o175 x0) (BT.node (o303 x0) @BT.nil @BT.nil) @BT.nil) (BT.node (o239 x0) @BT.nil @BT.nil)) (BT.node (o143 x0) (BT.node (o207 x0) (BT.node (o546 x0) @BT.nil @BT.nil) @BT.nil) (BT.node (o271 x0) @BT.nil @BT.nil))) (BT.node (o93 x0) (BT.node (o127 x0) (BT.node (o191 x0) (BT.node (o319 x0) @BT.nil @BT.nil) @BT.nil) (BT.node (o255 x0) @BT.nil @BT.nil)) (BT.node (o159 x0) (BT.node (o223 x0) @BT.nil @BT.nil) (BT.node (o287 x0) @BT.nil @BT.nil)))) (BT.node (o65 x0) (BT.node (o532 x0) (BT.node (o119 x0) (BT.node (o183 x0) (BT.node (o311 x0) @BT.nil @BT.nil) @BT.nil) (BT.node (o247 x0) @BT.nil @BT.nil)) (BT.node (o151 x0) (BT.node (o215 x0) @BT.nil @BT.nil) (BT.node (o279 x0) @BT.nil @BT.nil))) (BT.node (o101 x0) (BT.node (o135 x0) (BT.node (o199 x0) (BT.node (o538 x0) @BT.nil @BT.nil) @BT.nil) (BT.node (o263 x0) @BT.nil @BT.nil)) (BT.node (o167 x0) (BT.node (o231 x0) @BT.nil @BT.nil) (BT.node (o295 x0) @BT.nil @BT.nil))))) (BT.node (o53 x0) (BT.node (o61 x0) (BT.node (o77 x0) (BT.node (o115 x0) (BT.node (o179 x0) (BT.node (o307 x0) @BT.nil @BT.nil) @BT.nil) (BT.node (o243 x0) @BT.nil @BT.nil)) (BT.node (o147 x0) (BT.node (o211 x0) @BT.nil @BT.nil) (BT.node (o275 x0) @BT.nil @BT.nil))) (BT.node (o97 x0) (BT.node (o131 x0) (BT.node (o195 x0) (BT.node (o534 x0) @BT.nil @BT.nil) @BT.nil) (BT.node (o259 x0) @BT.nil @BT.nil)) (BT.node (o163 x0) (BT.node (o227 x0) @BT.nil @BT.nil) (BT.node (o291 x0) @BT.nil @BT.nil)))) (BT.node (o69 x0) (BT.node (o89 x0) (BT.node (o123 x0) (BT.node (o187 x0) (BT.node (o315 x0) @BT.nil @BT.nil) @BT.nil) (BT.node (o251 x0) @BT.nil @BT.nil)) (BT.node (o155 x0) (BT.node (o219 x0) @BT.nil @BT.nil) (BT.node (o283 x0) @BT.nil @BT.nil))) (BT.node (o105 x0) (BT.node (o139 x0) (BT.node (o203 x0) (BT.node (o542 x0) @BT.nil @BT.nil) @BT.nil) (BT.node (o267 x0) @BT.nil @BT.nil)) (BT.node (o171 x0) (BT.node (o235 x0) @BT.nil @BT.nil) (BT.node (o299 x0) @BT.nil @BT.nil)))))) (BT.node (o47 x0) (BT.node (o51 x0) (BT.node (o59 x0) (BT.node (o75 x0) (BT.node (o113 x0) (BT.node (o177 x0) (BT.node (o305 x0) @BT.nil @BT.nil) @BT.nil) (BT.node (o241 x0) @BT.nil @BT.nil)) (BT.node (o145 x0) (BT.node (o209 x0) (BT.node (o548 x0) @BT.nil @BT.nil) @BT.nil) (BT.node (o273 x0) @BT.nil @BT.nil))) (BT.node (o95 x0) (BT.node (o129 x0) (BT.node (o193 x0) (BT.node (o321 x0) @BT.nil @BT.nil) @BT.nil) (BT.node (o257 x0) @BT.nil @BT.nil)) (BT.node (o161 x0) (BT.node (o225 x0) @BT.nil @BT.nil) (BT.node (o289 x0) @BT.nil @BT.nil)))) (BT.node (o67 x0) (BT.node (o83 x0) (BT.node (o121 x0) (BT.node (o185 x0) (BT.node (o313 x0) @BT.nil @BT.nil) @BT.nil) (BT.node (o249 x0) @BT.nil @BT.nil)) (BT.node (o153 x0) (BT.node (o217 x0) @BT.nil @BT.nil) (BT.node (o281 x0) @BT.nil @BT.nil))) (BT.node (o103 x0) (BT.node (o137 x0) (BT.node (o201 x0) (BT.node (o540 x0) @BT.nil @BT.nil) @BT.nil) (BT.node (o265 x0) @BT.nil @BT.nil)) (BT.node (o169 x0) (BT.node (o233 x0) @BT.nil @BT.nil) (BT.node (o297 x0) @BT.nil @BT.nil))))) (BT.node (o55 x0) (BT.node (o63 x0) (BT.node (o79 x0) (BT.node (o117 x0) (BT.node (o181 x0) (BT.node (o309 x0) @BT.nil @BT.nil) @BT.nil) (BT.node (o245 x0) @BT.nil @BT.nil)) (BT.node (o149 x0) (BT.node (o213 x0) @BT.nil @BT.nil) (BT.node (o277 x0) @BT.nil @BT.nil))) (BT.node (o99 x0) (BT.node (o133 x0) (BT.node (o197 x0) (BT.node (o536 x0) @BT.nil @BT.nil) @BT.nil) (BT.node (o261 x0) @BT.nil @BT.nil)) (BT.node (o165 x0) (BT.node (o229 x0) @BT.nil @BT.nil) (BT.node (o293 x0) @BT.nil @BT.nil)))) (BT.node (o71 x0) (BT.node (o91 x0) (BT.node (o125 x0) (BT.node (o189 x0) (BT.node (o317 x0) @BT.nil @BT.nil) @BT.nil) (BT.node (o253 x0) @BT.nil @BT.nil)) (BT.node (o157 x0) (BT.node (o221 x0) @BT.nil @BT.nil) (BT.node (o285 x0) @BT.nil @BT.nil))) (BT.node (o107 x0) (BT.node (o141 x0) (BT.node (o205 x0) (BT.node (o544 x0) @BT.nil @BT.nil) @BT.nil) (BT.node (o269 x0) @BT.nil @BT.nil)) (BT.node (o173 x0) (BT.node (o237 x0) @BT.nil @BT.nil) (BT.node (o301 x0) @BT.nil @BT.nil)))))))))
noncomputable def heap550 : ((x0 : @Params) → @Heap) := (fun (x0 : @Params) => (Heap.mk (Array.mk [(o41 x0), (o42 x0), (o43 x0), (o531 x0), (o45 x0), (o46 x0), (o47 x0), (o48 x0), (o49 x0), (o50 x0), (o51 x0), (o52 x0), (o53 x0), (o54 x0), (o55 x0), (o56 x0), (o57 x0), (o58 x0), (o59 x0), (o60 x0), (o61 x0), (o62 x0), (o63 x0), (o64 x0), (o65 x0), (o66 x0), (o67 x0), (o68 x0), (o69 x0), (o70 x0), (o71 x0), (o72 x0), (o73 x0), (o74 x0), (o75 x0), (o76 x0), (o77 x0), (o78 x0), (o79 x0), (o80 x0), (o532 x0), (o82 x0), (o83 x0), (o88 x0), (o89 x0), (o90 x0), (o91 x0), (o92 x0), (o93 x0), (o94 x0), (o95 x0), (o96 x0), (o97 x0), (o98 x0), (o99 x0), (o100 x0), (o101 x0), (o102 x0), (o103 x0), (o104 x0), (o105 x0), (o106 x0), (o107 x0), (o110 x0), (o111 x0), (o112 x0), (o113 x0), (o114 x0), (o115 x0), (o116 x0), (o117 x0), (o118 x0), (o119 x0), (o120 x0), (o121 x0), (o122 x0), (o123 x0), (o124 x0), (o125 x0), (o126 x0), (o127 x0), (o128 x0), (o129 x0), (o130 x0), (o131 x0), (o132 x0), (o133 x0), (o134 x0), (o135 x0), (o136 x0), (o137 x0), (o138 x0), (o139 x0), (o140 x0), (o141 x0), (o142 x0), (o143 x0), (o144 x0), (o145 x0), (o146 x0), (o147 x0), (o148 x0), (o149 x0), (o150 x0), (o151 x0), (o152 x0), (o153 x0), (o154 x0), (o155 x0), (o156 x0), (o157 x0), (o158 x0), (o159 x0), (o160 x0), (o161 x0), (o162 x0), (o163 x0), (o164 x0), (o165 x0), (o166 x0), (o167 x0), (o168 x0), (o169 x0), (o170 x0), (o171 x0), (o172 x0), (o173 x0), (o174 x0), (o175 x0), (o176 x0), (o177 x0), (o178 x0), (o179 x0), (o180 x0), (o181 x0), (o182 x0), (o183 x0), (o184 x0), (o185 x0), (o186 x0), (o187 x0), (o188 x0), (o189 x0), (o190 x0), (o191 x0), (o192 x0), (o193 x0), (o194 x0), (o195 x0), (o196 x0), (o197 x0), (o198 x0), (o199 x0), (o200 x0), (o201 x0), (o202 x0), (o203 x0), (o204 x0), (o205 x0), (o206 x0), (o207 x0), (o208 x0), (o209 x0), (o210 x0), (o211 x0), (o212 x0), (o213 x0), (o214 x0), (o215 x0), (o216 x0), (o217 x0), (o218 x0), (o219 x0), (o220 x0), (o221 x0), (o222 x0), (o223 x0), (o224 x0), (o225 x0), (o226 x0), (o227 x0), (o228 x0), (o229 x0), (o230 x0), (o231 x0), (o232 x0), (o233 x0), (o234 x0), (o235 x0), (o236 x0), (o237 x0), (o238 x0), (o239 x0), (o240 x0), (o241 x0), (o242 x0), (o243 x0), (o244 x0), (o245 x0), (o246 x0), (o247 x0), (o248 x0), (o249 x0), (o250 x0), (o251 x0), (o252 x0), (o253 x0), (o254 x0), (o255 x0), (o256 x0), (o257 x0), (o258 x0), (o259 x0), (o260 x0), (o261 x0), (o262 x0), (o263 x0), (o264 x0), (o265 x0), (o266 x0), (o267 x0), (o268 x0), (o269 x0), (o270 x0), (o271 x0), (o272 x0), (o273 x0), (o274 x0), (o275 x0), (o276 x0), (o277 x0), (o278 x0), (o279 x0), (o280 x0), (o281 x0), (o282 x0), (o283 x0), (o284 x0), (o285 x0), (o286 x0), (o287 x0), (o288 x0), (o289 x0), (o290 x0), (o291 x0), (o292 x0), (o293 x0), (o294 x0), (o295 x0), (o296 x0), (o297 x0), (o298 x0), (o299 x0), (o300 x0), (o301 x0), (o302 x0), (o303 x0), (o304 x0), (o305 x0), (o306 x0), (o307 x0), (o308 x0), (o309 x0), (o310 x0), (o311 x0), (o312 x0), (o313 x0), (o314 x0), (o315 x0), (o316 x0), (o317 x0), (o318 x0), (o319 x0), (o320 x0), (o321 x0), (o533 x0), (o534 x0), (o535 x0), (o536 x0), (o537 x0), (o538 x0), (o539 x0), (o540 x0), (o541 x0), (o542 x0), (o543 x0), (o544 x0), (o545 x0), (o546 x0), (o547 x0), (o548 x0), (o549 x0)]) (Life.mk [] [] [] 0 [] [] @Bool.false (@List.toArray.{0} @Nat []) [] 0 @Bool.false @Bool.false @Bool.false 0 [2000, 10, 10] @Bool.false 0 @Bool.true [] [] 0 @Bool.false)))
noncomputable def tree553 : ((x0 : @Params) → @BT) := (fun (x0 : @Params) => @BT.nil)
noncomputable def o570 : ((x0 : @Params) → @Obj) := (fun (x0 : @Params) => (Obj.mk (Value.type "dict") none (Data.dict (@List.toArray.{0} @DictEntry [(DictEntry.mk (PyData.keyHash x0 q57) (Value.str q57 1) (Value.str q93 160)), (DictEntry.mk (PyData.keyHash x0 q94) (Value.str q94 2) (Value.builtin "builtins.__doc__:str#opaque")), (DictEntry.mk (PyData.keyHash x0 q95) (Value.str q95 3) (Value.builtin "builtins.__package__:str#opaque")), (DictEntry.mk (PyData.keyHash x0 q96) (Value.str q96 4) (Value.builtin "builtins.__loader__:shared#opaque")), (DictEntry.mk (PyData.keyHash x0 q97) (Value.str q97 5) (Value.builtin "builtins.__spec__#opaque")), (DictEntry.mk (PyData.keyHash x0 q98) (Value.str q98 6) (Value.builtin "__build_class__")), (DictEntry.mk (PyData.keyHash x0 q99) (Value.str q99 7) (Value.builtin "__import__")), (DictEntry.mk (PyData.keyHash x0 q82) (Value.str q82 8) (Value.builtin "abs")), (DictEntry.mk (PyData.keyHash x0 q100) (Value.str q100 9) (Value.builtin "all")), (DictEntry.mk (PyData.keyHash x0 q101) (Value.str q101 10) (Value.builtin "any")), (DictEntry.mk (PyData.keyHash x0 q102) (Value.str q102 11) (Value.builtin "ascii")), (DictEntry.mk (PyData.keyHash x0 q103) (Value.str q103 12) (Value.builtin "bin")), (DictEntry.mk (PyData.keyHash x0 q104) (Value.str q104 13) (Value.builtin "breakpoint")), (DictEntry.mk (PyData.keyHash x0 q105) (Value.str q105 14) (Value.builtin "callable")), (DictEntry.mk (PyData.keyHash x0 q106) (Value.str q106 15) (Value.builtin "chr")), (DictEntry.mk (PyData.keyHash x0 q107) (Value.str q107 16) (Value.builtin "compile")), (DictEntry.mk (PyData.keyHash x0 q108) (Value.str q108 17) (Value.builtin "delattr")), (DictEntry.mk (PyData.keyHash x0 q109) (Value.str q109 18) (Value.builtin "dir")), (DictEntry.mk (PyData.keyHash x0 q110) (Value.str q110 19) (Value.builtin "divmod")), (DictEntry.mk (PyData.keyHash x0 q111) (Value.str q111 20) (Value.builtin "eval")), (DictEntry.mk (PyData.keyHash x0 q112) (Value.str q112 21) (Value.builtin "exec")), (DictEntry.mk (PyData.keyHash x0 q113) (Value.str q113 22) (Value.builtin "format")), (DictEntry.mk (PyData.keyHash x0 q114) (Value.str q114 23) (Value.builtin "getattr")), (DictEntry.mk (PyData.keyHash x0 q115) (Value.str q115 24) (Value.builtin "globals")), (DictEntry.mk (PyData.keyHash x0 q116) (Value.str q116 25) (Value.builtin "hasattr")), (DictEntry.mk (PyData.keyHash x0 q54) (Value.str q54 26) (Value.builtin "hash")), (DictEntry.mk (PyData.keyHash x0 q117) (Value.str q117 27) (Value.builtin "hex")), (DictEntry.mk (PyData.keyHash x0 q118) (Value.str q118 28) (Value.builtin "id")), (DictEntry.mk (PyData.keyHash x0 q119) (Value.str q119 29) (Value.builtin "input")), (DictEntry.mk (PyData.keyHash x0 q39) (Value.str q39 30) (Value.builtin "isinstance")), (DictEntry.mk (PyData.keyHash x0 q120) (Value.str q120 31) (Value.builtin "issubclass")), (DictEntry.mk (PyData.keyHash x0 q121) (Value.str q121 32) (Value.builtin "iter")), (DictEntry.mk (PyData.keyHash x0 q122) (Value.str q122 33) (Value.builtin "aiter")), (DictEntry.mk (PyData.keyHash x0 q123) (Value.str q123 34) (Value.builtin "len")), (DictEntry.mk (PyData.keyHash x0 q124) (Value.str q124 35) (Value.builtin "locals")), (DictEntry.mk (PyData.keyHash x0 q77) (Value.str q77 36) (Value.builtin "max")), (DictEntry.mk (PyData.keyHash x0 q125) (Value.str q125 37) (Value.builtin "min")), (DictEntry.mk (PyData.keyHash x0 q126) (Value.str q126 38) (Value.builtin "next")), (DictEntry.mk (PyData.keyHash x0 q127) (Value.str q127 39) (Value.builtin "anext")), (DictEntry.mk (PyData.keyHash x0 q128) (Value.str q128 40) (Value.builtin "oct")), (DictEntry.mk (PyData.keyHash x0 q129) (Value.str q129 41) (Value.builtin "ord")), (DictEntry.mk (PyData.keyHash x0 q130) (Value.str q130 42) (Value.builtin "pow")), (DictEntry.mk (PyData.keyHash x0 q131) (Value.str q131 43) (Value.builtin "print")), (DictEntry.mk (PyData.keyHash x0 q132) (Value.str q132 44) (Value.builtin "repr")), (DictEntry.mk (PyData.keyHash x0 q133) (Value.str q133 45) (Value.builtin "round")), (DictEntry.mk (PyData.keyHash x0 q134) (Value.str q134 46) (Value.builtin "setattr")), (DictEntry.mk (PyData.keyHash x0 q135) (Value.str q135 47) (Value.builtin "sorted")), (DictEntry.mk (PyData.keyHash x0 q136) (Value.str q136 48) (Value.builtin "sum")), (DictEntry.mk (PyData.keyHash x0 q137) (Value.str q137 49) (Value.builtin "vars")), (DictEntry.mk (PyData.keyHash x0 q138) (Value.str q138 50) @Value.none), (DictEntry.mk (PyData.keyHash x0 q139) (Value.str q139 51) @Value.ellipsis), (DictEntry.mk (PyData.keyHash x0 q52) (Value.str q52 52) @Value.notImplemented), (DictEntry.mk (PyData.keyHash x0 q140) (Value.str q140 53) (Value.bool @Bool.false)), (DictEntry.mk (PyData.keyHash x0 q141) (Value.str q141 54) (Value.bool @Bool.true)), (DictEntry.mk (PyData.keyHash x0 q142) (Value.str q142 55) (Value.type "bool")), (DictEntry.mk (PyData.keyHash x0 q143) (Value.str q143 56) (Value.type "memoryview")), (DictEntry.mk (PyData.keyHash x0 q144) (Value.str q144 57) (Value.type "bytearray")), (DictEntry.mk (PyData.keyHash x0 q145) (Value.str q145 58) (Value.type "bytes")), (DictEntry.mk (PyData.keyHash x0 q17) (Value.str q17 59) (Value.type "classmethod")), (DictEntry.mk (PyData.keyHash x0 q146) (Value.str q146 60) (Value.type "complex")), (DictEntry.mk (PyData.keyHash x0 q147) (Value.str q147 61) (Value.type "dict")), (DictEntry.mk (PyData.keyHash x0 q148) (Value.str q148 62) (Value.type "enumerate")), (DictEntry.mk (PyData.keyHash x0 q149) (Value.str q149 63) (Value.type "filter")), (DictEntry.mk (PyData.keyHash x0 q12) (Value.str q12 64) (Value.type "float")), (DictEntry.mk (PyData.keyHash x0 q150) (Value.str q150 65) (Value.type "frozenset")), (DictEntry.mk (PyData.keyHash x0 q31) (Value.str q31 66) (Value.type "property")), (DictEntry.mk (PyData.keyHash x0 q151) (Value.str q151 67) (Value.type "int")), (DictEntry.mk (PyData.keyHash x0 q152) (Value.str q152 68) (Value.type "list")), (DictEntry.mk (PyData.keyHash x0 q153) (Value.str q153 69) (Value.type "map")), (DictEntry.mk (PyData.keyHash x0 q154) (Value.str q154 70) (Value.type "object")), (DictEntry.mk (PyData.keyHash x0 q78) (Value.str q78 71) (Value.type "range")), (DictEntry.mk (PyData.keyHash x0 q155) (Value.str q155 72) (Value.type "reversed")), (DictEntry.mk (PyData.keyHash x0 q156) (Value.str q156 73) (Value.type "set")), (DictEntry.mk (PyData.keyHash x0 q157) (Value.str q157 74) (Value.type "slice")), (DictEntry.mk (PyData.keyHash x0 q158) (Value.str q158 75) (Value.type "staticmethod")), (DictEntry.mk (PyData.keyHash x0 q159) (Value.str q159 76) (Value.type "str")), (DictEntry.mk (PyData.keyHash x0 q160) (Value.str q160 77) (Value.type "super")), (DictEntry.mk (PyData.keyHash x0 q161) (Value.str q161 78) (Value.type "tuple")), (DictEntry.mk (PyData.keyHash x0 q56) (Value.str q56 79) (Value.type "type")), (DictEntry.mk (PyData.keyHash x0 q162) (Value.str q162 80) (Value.type "zip")), (DictEntry.mk (PyData.keyHash x0 q163) (Value.str q163 81) (Value.bool @Bool.true)), (DictEntry.mk (PyData.keyHash x0 q164) (Value.str q164 82) (Value.type "BaseException")), (DictEntry.mk (PyData.keyHash x0 q165) (Value.str q165 83) (Value.type "BaseExceptionGroup")), (DictEntry.mk (PyData.keyHash x0 q166) (Value.str q166 84) (Value.type "Exception")), (DictEntry.mk (PyData.keyHash x0 q167) (Value.str q167 85) (Value.type "GeneratorExit")), (DictEntry.mk (PyData.keyHash x0 q168) (Value.str q168 86) (Value.type "KeyboardInterrupt")), (DictEntry.mk (PyData.keyHash x0 q169) (Value.str q169 87) (Value.type "SystemExit")), (DictEntry.mk (PyData.keyHash x0 q170) (Value.str q170 88) (Value.type "ArithmeticError")), (DictEntry.mk (PyData.keyHash x0 q171) (Value.str q171 89) (Value.type "AssertionError")), (DictEntry.mk (PyData.keyHash x0 q172) (Value.str q172 90) (Value.type "AttributeError")), (DictEntry.mk (PyData.keyHash x0 q173) (Value.str q173 91) (Value.type "BufferError")), (DictEntry.mk (PyData.keyHash x0 q174) (Value.str q174 92) (Value.type "EOFError")), (DictEntry.mk (PyData.keyHash x0 q175) (Value.str q175 93) (Value.type "ImportError")), (DictEntry.mk (PyData.keyHash x0 q176) (Value.str q176 94) (Value.type "LookupError")), (DictEntry.mk (PyData.keyHash x0 q177) (Value.str q177 95) (Value.type "MemoryError")), (DictEntry.mk (PyData.keyHash x0 q178) (Value.str q178 96) (Value.type "NameError")), (DictEntry.mk (PyData.keyHash x0 q179) (Value.str q179 97) (Value.type "OSError")), (DictEntry.mk (PyData.keyHash x0 q180) (Value.str q180 98) (Value.type "ReferenceError")), (DictEntry.mk (PyData.keyHash x0 q181) (Value.str q181 99) (Value.type "RuntimeError")), (DictEntry.mk (PyData.keyHash x0 q182) (Value.str q182 100) (Value.type "StopAsyncIteration")), (DictEntry.mk (PyData.keyHash x0 q183) (Value.str q183 101) (Value.type "StopIteration")), (DictEntry.mk (PyData.keyHash x0 q184) (Value.str q184 102) (Value.type "SyntaxError")), (DictEntry.mk (PyData.keyHash x0 q185) (Value.str q185 103) (Value.type "SystemError")), (DictEntry.mk (PyData.keyHash x0 q186) (Value.str q186 104) (Value.type "TypeError")), (DictEntry.mk (PyData.keyHash x0 q187) (Value.str q187 105) (Value.type "ValueError")), (DictEntry.mk (PyData.keyHash x0 q188) (Value.str q188 106) (Value.type "Warning")), (DictEntry.mk (PyData.keyHash x0 q189) (Value.str q189 107) (Value.type "FloatingPointError")), (DictEntry.mk (PyData.keyHash x0 q190) (Value.str q190 108) (Value.type "OverflowError")), (DictEntry.mk (PyData.keyHash x0 q191) (Value.str q191 109) (Value.type "ZeroDivisionError")), (DictEntry.mk (PyData.keyHash x0 q192) (Value.str q192 110) (Value.type "BytesWarning")), (DictEntry.mk (PyData.keyHash x0 q193) (Value.str q193 111) (Value.type "DeprecationWarning")), (DictEntry.mk (PyData.keyHash x0 q194) (Value.str q194 112) (Value.type "EncodingWarning")), (DictEntry.mk (PyData.keyHash x0 q195) (Value.str q195 113) (Value.type "FutureWarning")), (DictEntry.mk (PyData.keyHash x0 q196) (Value.str q196 114) (Value.type "ImportWarning")), (DictEntry.mk (PyData.keyHash x0 q197) (Value.str q197 115) (Value.type "PendingDeprecationWarning")), (DictEntry.mk (PyData.keyHash x0 q198) (Value.str q198 116) (Value.type "ResourceWarning")), (DictEntry.mk (PyData.keyHash x0 q199) (Value.str q199 117) (Value.type "RuntimeWarning")), (DictEntry.mk (PyData.keyHash x0 q200) (Value.str q200 118) (Value.type "SyntaxWarning")), (DictEntry.mk (PyData.keyHash x0 q201) (Value.str q201 119) (Value.type "UnicodeWarning")), (DictEntry.mk (PyData.keyHash x0 q202) (Value.str q202 120) (Value.type "UserWarning")), (DictEntry.mk (PyData.keyHash x0 q203) (Value.str q203 121) (Value.type "BlockingIOError")), (DictEntry.mk (PyData.keyHash x0 q204) (Value.str q204 122) (Value.type "ChildProcessError")), (DictEntry.mk (PyData.keyHash x0 q205) (Value.str q205 123) (Value.type "ConnectionError")), (DictEntry.mk (PyData.keyHash x0 q206) (Value.str q206 124) (Value.type "FileExistsError")), (DictEntry.mk (PyData.keyHash x0 q207) (Value.str q207 125) (Value.type "FileNotFoundError")), (DictEntry.mk (PyData.keyHash x0 q208) (Value.str q208 126) (Value.type "InterruptedError")), (DictEntry.mk (PyData.keyHash x0 q209) (Value.str q209 127) (Value.type "IsADirectoryError")), (DictEntry.mk (PyData.keyHash x0 q210) (Value.str q210 128) (Value.type "NotADirectoryError")), (DictEntry.mk (PyData.keyHash x0 q211) (Value.str q211 129) (Value.type "PermissionError")), (DictEntry.mk (PyData.keyHash x0 q212) (Value.str q212 130) (Value.type "ProcessLookupError")), (DictEntry.mk (PyData.keyHash x0 q213) (Value.str q213 131) (Value.type "TimeoutError")), (DictEntry.mk (PyData.keyHash x0 q214) (Value.str q214 132) (Value.type "IndentationError")), (DictEntry.mk (PyData.keyHash x0 q215) (Value.str q215 133) (Value.type "_IncompleteInputError")), (DictEntry.mk (PyData.keyHash x0 q216) (Value.str q216 134) (Value.type "IndexError")), (DictEntry.mk (PyData.keyHash x0 q217) (Value.str q217 135) (Value.type "KeyError")), (DictEntry.mk (PyData.keyHash x0 q218) (Value.str q218 136) (Value.type "ModuleNotFoundError")), (DictEntry.mk (PyData.keyHash x0 q219) (Value.str q219 137) (Value.type "NotImplementedError")), (DictEntry.mk (PyData.keyHash x0 q220) (Value.str q220 138) (Value.type "PythonFinalizationError")), (DictEntry.mk (PyData.keyHash x0 q221) (Value.str q221 139) (Value.type "RecursionError")), (DictEntry.mk (PyData.keyHash x0 q222) (Value.str q222 140) (Value.type "UnboundLocalError")), (DictEntry.mk (PyData.keyHash x0 q223) (Value.str q223 141) (Value.type "UnicodeError")), (DictEntry.mk (PyData.keyHash x0 q224) (Value.str q224 142) (Value.type "BrokenPipeError")), (DictEntry.mk (PyData.keyHash x0 q225) (Value.str q225 143) (Value.type "ConnectionAbortedError")), (DictEntry.mk (PyData.keyHash x0 q226) (Value.str q226 144) (Value.type "ConnectionRefusedError")), (DictEntry.mk (PyData.keyHash x0 q227) (Value.str q227 145) (Value.type "ConnectionResetError")), (DictEntry.mk (PyData.keyHash x0 q228) (Value.str q228 146) (Value.type "TabError")), (DictEntry.mk (PyData.keyHash x0 q229) (Value.str q229 147) (Value.type "UnicodeDecodeError")), (DictEntry.mk (PyData.keyHash x0 q230) (Value.str q230 148) (Value.type "UnicodeEncodeError")), (DictEntry.mk (PyData.keyHash x0 q231) (Value.str q231 149) (Value.type "UnicodeTranslateError")), (DictEntry.mk (PyData.keyHash x0 q232) (Value.str q232 150) (Value.type "ExceptionGroup")), (DictEntry.mk (PyData.keyHash x0 q233) (Value.str q233 151) (Value.type "OSError")), (DictEntry.mk (PyData.keyHash x0 q234) (Value.str q234 152) (Value.type "OSError")), (DictEntry.mk (PyData.keyHash x0 q235) (Value.str q235 153) (Value.builtin "open")), (DictEntry.mk (PyData.keyHash x0 q236) (Value.str q236 154) (Value.builtin "builtins.quit#opaque")), (DictEntry.mk (PyData.keyHash x0 q237) (Value.str q237 155) (Value.builtin "builtins.exit#opaque")), (DictEntry.mk (PyData.keyHash x0 q238) (Value.str q238 156) (Value.builtin "builtins.copyright#opaque")), (DictEntry.mk (PyData.keyHash x0 q239) (Value.str q239 157) (Value.builtin "builtins.credits#opaque")), (DictEntry.mk (PyData.keyHash x0 q240) (Value.str q240 158) (Value.builtin "builtins.license#opaque")), (DictEntry.mk (PyData.keyHash x0 q241) (Value.str q241 159) (Value.builtin "builtins.help#opaque"))]) 159) (@List.toArray.{0} (Option @Value) [])))
noncomputable def o622 : ((x0 : @Params) → @Obj) := (fun (x0 : @Params) => (Obj.mk (Value.type "dict") none (Data.dict (@List.toArray.{0} @DictEntry [(DictEntry.mk (PyData.keyHash x0 q93) (Value.str q93 162) (Value.ref 4)), (DictEntry.mk (PyData.keyHash x0 q242) (Value.str q242 163) (Value.ref 5)), (DictEntry.mk (PyData.keyHash x0 q243) (Value.str q243 285) (Value.ref 13))]) 3) (@List.toArray.{0} (Option @Value) [])))
noncomputable def o640 : ((x0 : @Params) → @Obj) := (fun (x0 : @Params) => (Obj.mk (Value.type "dict") none (Data.dict (@List.toArray.{0} @DictEntry [(DictEntry.mk (PyData.keyHash x0 q57) (Value.str q57 165) (Value.str q242 164)), (DictEntry.mk (PyData.keyHash x0 q94) (Value.str q94 166) @Value.none), (DictEntry.mk (PyData.keyHash x0 q95) (Value.str q95 167) @Value.none), (DictEntry.mk (PyData.keyHash x0 q96) (Value.str q96 168) (Value.builtin "__main__.__loader__#opaque")), (DictEntry.mk (PyData.keyHash x0 q97) (Value.str q97 169) @Value.none), (DictEntry.mk (PyData.keyHash x0 q255) (Value.str q255 170) (Value.ref 6)), (DictEntry.mk (PyData.keyHash x0 q256) (Value.str q256 171) (Value.ref 4)), (DictEntry.mk (PyData.keyHash x0 q257) (Value.str q257 173) (Value.str q258 172)), (DictEntry.mk (PyData.keyHash x0 q259) (Value.str q259 174) @Value.none), (DictEntry.mk (PyData.keyHash x0 q44) (Value.str q44 370) (Value.builtin "math.fabs")), (DictEntry.mk (PyData.keyHash x0 q41) (Value.str q41 373) (Value.builtin "math.hypot"))]) 11) (@List.toArray.{0} (Option @Value) [])))
noncomputable def o577 : ((x0 : @Params) → @Obj) := (fun (x0 : @Params) => (Obj.mk (Value.type "tuple") none (Data.seq (@List.toArray.{0} @Value []) 0) (@List.toArray.{0} (Option @Value) [])))
noncomputable def o592 : ((x0 : @Params) → @Obj) := (fun (x0 : @Params) => (Obj.mk (Value.type "dict") none (Data.dict (@List.toArray.{0} @DictEntry [(DictEntry.mk (PyData.keyHash x0 q324) (Value.str q324 194) (Value.str q325 192)), (DictEntry.mk (PyData.keyHash x0 q326) (Value.str q326 195) (Value.int 1001 193)), (DictEntry.mk (PyData.keyHash x0 q94) (Value.str q94 196) (Value.builtin "_frozen_importlib_external._LoaderBasics.__doc__:str#opaque")), (DictEntry.mk (PyData.keyHash x0 q327) (Value.str q327 197) (Value.builtin "_frozen_importlib_external._LoaderBasics.is_package#opaque")), (DictEntry.mk (PyData.keyHash x0 q328) (Value.str q328 198) (Value.builtin "_frozen_importlib_external._LoaderBasics.create_module#opaque")), (DictEntry.mk (PyData.keyHash x0 q329) (Value.str q329 199) (Value.builtin "_frozen_importlib_external._LoaderBasics.exec_module#opaque")), (DictEntry.mk (PyData.keyHash x0 q330) (Value.str q330 200) (Value.builtin "_frozen_importlib_external._LoaderBasics.load_module#opaque")), (DictEntry.mk (PyData.keyHash x0 q331) (Value.str q331 201) (Value.ref 17)), (DictEntry.mk (PyData.keyHash x0 q332) (Value.str q332 203) (Value.ref 18)), (DictEntry.mk (PyData.keyHash x0 q333) (Value.str q333 205) (Value.ref 19))]) 10) (@List.toArray.{0} (Option @Value) [])))
noncomputable def o637 : ((x0 : @Params) → @Obj) := (fun (x0 : @Params) => (Obj.mk (Value.type "dict") none (Data.dict (@List.toArray.{0} @DictEntry [(DictEntry.mk (PyData.keyHash x0 q322) (Value.str q322 249) (Value.str q243 248)), (DictEntry.mk (PyData.keyHash x0 q346) (Value.str q346 250) (Value.ref 29)), (DictEntry.mk (PyData.keyHash x0 q347) (Value.str q347 251) (Value.str q316 187)), (DictEntry.mk (PyData.keyHash x0 q348) (Value.str q348 252) @Value.none), (DictEntry.mk (PyData.keyHash x0 q349) (Value.str q349 253) @Value.none), (DictEntry.mk (PyData.keyHash x0 q350) (Value.str q350 254) (Value.ref 30)), (DictEntry.mk (PyData.keyHash x0 q351) (Value.str q351 255) (Value.bool @Bool.true)), (DictEntry.mk (PyData.keyHash x0 q352) (Value.str q352 256) @Value.none), (DictEntry.mk (PyData.keyHash x0 q353) (Value.str q353 284) (Value.bool @Bool.false))]) 9) (@List.toArray.{0} (Option @Value) [])))
noncomputable def o599 : ((x0 : @Params) → @Obj) := (fun (x0 : @Params) => (Obj.mk (Value.type "tuple") none (Data.seq (@List.toArray.{0} @Value [(Value.str q322 211), (Value.str q323 212)]) 0) (@List.toArray.{0} (Option @Value) [])))
noncomputable def o581 : ((x0 : @Params) → @Obj) := (fun (x0 : @Params) => (Obj.mk (Value.type "tuple") none (Data.seq (@List.toArray.{0} @Value [(Value.str q44 182), (Value.str q41 183)]) 0) (@List.toArray.{0} (Option @Value) [])))
noncomputable def o594 : ((x0 : @Params) → @Obj) := (fun (x0 : @Params) => (Obj.mk (Value.type "getset_descriptor") none (Data.fields (@List.toArray.{0} @Value [(Value.str q333 204), (Value.ref 16), (Value.builtin "ExceptionGroup.__weakref__"), @Value.none])) (@List.toArray.{0} (Option @Value) [])))
noncomputable def o620 : ((x0 : @Params) → @Obj) := (fun (x0 : @Params) => (Obj.mk (Value.type "getset_descriptor") none (Data.fields (@List.toArray.{0} @Value [(Value.str q332 278), (Value.ref 33), (Value.builtin "function.__dict__"), (Value.builtin "function.__dict__#set")])) (@List.toArray.{0} (Option @Value) [])))
noncomputable def o606 : ((x0 : @Params) → @Obj) := (fun (x0 : @Params) => (Obj.mk (Value.type "type") none (Data.cls (ClassData.mk q345 [(Value.ref 22), (Value.ref 16)] [(Value.ref 27), (Value.ref 22), (Value.ref 16), (Value.type "object")] 26 q345 @Bool.true [] [] @Bool.false none @Bool.false)) (@List.toArray.{0} (Option @Value) [])))
noncomputable def o574 : ((x0 : @Params) → @Obj) := (fun (x0 : @Params) => (Obj.mk (Value.type "module") (some 3) @Data.plain (@List.toArray.{0} (Option @Value) [])))
noncomputable def o579 : ((x0 : @Params) → @Obj) := (fun (x0 : @Params) => (Obj.mk (Value.type "code") none (Data.fields (@List.toArray.{0} @Value [(Value.str q260 176), (Value.str q260 177), (Value.str q258 178), (Value.int 1 0), (Value.int 0 0), (Value.int 0 0), (Value.int 0 0), (Value.int 0 0), (Value.ref 7), (Value.bool @Bool.false), (Value.int 175 0), (Value.ref 8), @Value.none, @Value.none, @Value.none, @Value.none, (Value.int 179 0), (Value.int 1 0), (Value.str q258 180)])) (@List.toArray.{0} (Option @Value) [])))
noncomputable def o590 : ((x0 : @Params) → @Obj) := (fun (x0 : @Params) => (Obj.mk (Value.type "tuple") none (Data.seq (@List.toArray.{0} @Value []) 0) (@List.toArray.{0} (Option @Value) [])))
noncomputable def o617 : ((x0 : @Params) → @Obj) := (fun (x0 : @Params) => (Obj.mk (Value.type "type") none (Data.cls (ClassData.mk q358 [(Value.type "object")] [(Value.ref 33), (Value.type "object")] 32 q358 @Bool.true [] [] @Bool.false none @Bool.false)) (@List.toArray.{0} (Option @Value) [])))
noncomputable def o603 : ((x0 : @Params) → @Obj) := (fun (x0 : @Params) => (Obj.mk (Value.type "getset_descriptor") none (Data.fields (@List.toArray.{0} @Value [(Value.str q333 226), (Value.ref 22), (Value.builtin "ExceptionGroup.__weakref__"), @Value.none])) (@List.toArray.{0} (Option @Value) [])))
noncomputable def o586 : ((x0 : @Params) → @Obj) := (fun (x0 : @Params) => (Obj.mk (Value.type "module") (some 12) @Data.plain (@List.toArray.{0} (Option @Value) [])))
noncomputable def o601 : ((x0 : @Params) → @Obj) := (fun (x0 : @Params) => (Obj.mk (Value.type "dict") none (Data.dict (@List.toArray.{0} @DictEntry [(DictEntry.mk (PyData.keyHash x0 q324) (Value.str q324 213) (Value.str q325 209)), (DictEntry.mk (PyData.keyHash x0 q326) (Value.str q326 214) (Value.int 1176 210)), (DictEntry.mk (PyData.keyHash x0 q94) (Value.str q94 215) (Value.builtin "_frozen_importlib_external.FileLoader.__doc__:str#opaque")), (DictEntry.mk (PyData.keyHash x0 q6) (Value.str q6 216) (Value.builtin "_frozen_importlib_external.FileLoader.__init__#opaque")), (DictEntry.mk (PyData.keyHash x0 q51) (Value.str q51 217) (Value.builtin "_frozen_importlib_external.FileLoader.__eq__#opaque")), (DictEntry.mk (PyData.keyHash x0 q53) (Value.str q53 218) (Value.builtin "_frozen_importlib_external.FileLoader.__hash__#opaque")), (DictEntry.mk (PyData.keyHash x0 q330) (Value.str q330 219) (Value.builtin "_frozen_importlib_external.FileLoader.load_module#opaque")), (DictEntry.mk (PyData.keyHash x0 q339) (Value.str q339 220) (Value.builtin "_frozen_importlib_external.FileLoader.get_filename#opaque")), (DictEntry.mk (PyData.keyHash x0 q340) (Value.str q340 221) (Value.builtin "_frozen_importlib_external.FileLoader.get_data#opaque")), (DictEntry.mk (PyData.keyHash x0 q341) (Value.str q341 222) (Value.builtin "_frozen_importlib_external.FileLoader.get_resource_reader#opaque")), (DictEntry.mk (PyData.keyHash x0 q331) (Value.str q331 223) (Value.ref 23)), (DictEntry.mk (PyData.keyHash x0 q332) (Value.str q332 225) (Value.ref 24)), (DictEntry.mk (PyData.keyHash x0 q333) (Value.str q333 227) (Value.ref 25))]) 13) (@List.toArray.{0} (Option @Value) [])))
noncomputable def o626 : ((x0 : @Params) → @Obj) := (fun (x0 : @Params) => (Obj.mk (Value.ref 33) (some 31) @Data.plain (@List.toArray.{0} (Option @Value) [])))
noncomputable def o612 : ((x0 : @Params) → @Obj) := (fun (x0 : @Params) => (Obj.mk (Value.ref 27) (some 14) @Data.plain (@List.toArray.{0} (Option @Value) [])))
noncomputable def o636 : ((x0 : @Params) → @Obj) := (fun (x0 : @Params) => (Obj.mk @Value.none none (Data.dict (@List.toArray.{0} @DictEntry [(DictEntry.mk (PyData.keyHash x0 q244) (Value.str q244 186) (Value.bool @Bool.true)), (DictEntry.mk (PyData.keyHash x0 q245) (Value.str q245 191) (Value.ref 16)), (DictEntry.mk (PyData.keyHash x0 q246) (Value.str q246 207) (Value.ref 20)), (DictEntry.mk (PyData.keyHash x0 q247) (Value.str q247 208) (Value.ref 22)), (DictEntry.mk (PyData.keyHash x0 q248) (Value.str q248 229) (Value.ref 27)), (DictEntry.mk (PyData.keyHash x0 q249) (Value.str q249 257) (Value.ref 33)), (DictEntry.mk (PyData.keyHash x0 q250) (Value.str q250 286) (Value.int 3 0)), (DictEntry.mk (PyData.keyHash x0 q251) (Value.str q251 362) (Value.bool @Bool.true)), (DictEntry.mk (PyData.keyHash x0 q252) (Value.str q252 364) (Value.ref 38)), (DictEntry.mk (PyData.keyHash x0 q253) (Value.str q253 0) (Value.str q254 0))]) 10) (@List.toArray.{0} (Option @Value) [])))
noncomputable def o573 : ((x0 : @Params) → @Obj) := (fun (x0 : @Params) => (Obj.mk (Value.type "module") (some 0) @Data.plain (@List.toArray.{0} (Option @Value) [])))
noncomputable def o578 : ((x0 : @Params) → @Obj) := (fun (x0 : @Params) => (Obj.mk @Value.none none (Data.fields (@List.toArray.{0} @Value [])) (@List.toArray.{0} (Option @Value) [])))
noncomputable def o608 : ((x0 : @Params) → @Obj) := (fun (x0 : @Params) => (Obj.mk (Value.type "type") none (Data.cls (ClassData.mk q334 [(Value.type "object")] [(Value.ref 16), (Value.type "object")] 15 q334 @Bool.true [] [(Value.ref 27)] @Bool.false none @Bool.false)) (@List.toArray.{0} (Option @Value) [])))
noncomputable def o619 : ((x0 : @Params) → @Obj) := (fun (x0 : @Params) => (Obj.mk (Value.type "dict") none (Data.dict (@List.toArray.{0} @DictEntry [(DictEntry.mk (PyData.keyHash x0 q324) (Value.str q324 268) (Value.str q354 258)), (DictEntry.mk (PyData.keyHash x0 q326) (Value.str q326 269) (Value.int 562 259)), (DictEntry.mk (PyData.keyHash x0 q94) (Value.str q94 270) (Value.builtin "_frozen_importlib.ModuleSpec.__doc__:str#opaque")), (DictEntry.mk (PyData.keyHash x0 q6) (Value.str q6 271) (Value.builtin "_frozen_importlib.ModuleSpec.__init__#opaque")), (DictEntry.mk (PyData.keyHash x0 q55) (Value.str q55 272) (Value.builtin "_frozen_importlib.ModuleSpec.__repr__#opaque")), (DictEntry.mk (PyData.keyHash x0 q51) (Value.str q51 273) (Value.builtin "_frozen_importlib.ModuleSpec.__eq__#opaque")), (DictEntry.mk (PyData.keyHash x0 q355) (Value.str q355 274) (Value.builtin "_frozen_importlib.ModuleSpec.cached#opaque")), (DictEntry.mk (PyData.keyHash x0 q356) (Value.str q356 275) (Value.builtin "_frozen_importlib.ModuleSpec.parent#opaque")), (DictEntry.mk (PyData.keyHash x0 q357) (Value.str q357 276) (Value.builtin "_frozen_importlib.ModuleSpec.has_location#opaque")), (DictEntry.mk (PyData.keyHash x0 q331) (Value.str q331 277) (Value.ref 34)), (DictEntry.mk (PyData.keyHash x0 q332) (Value.str q332 279) (Value.ref 35)), (DictEntry.mk (PyData.keyHash x0 q333) (Value.str q333 281) (Value.ref 36)), (DictEntry.mk (PyData.keyHash x0 q53) (Value.str q53 282) @Value.none)]) 13) (@List.toArray.{0} (Option @Value) [])))
noncomputable def o602 : ((x0 : @Params) → @Obj) := (fun (x0 : @Params) => (Obj.mk (Value.type "getset_descriptor") none (Data.fields (@List.toArray.{0} @Value [(Value.str q332 224), (Value.ref 22), (Value.builtin "function.__dict__"), (Value.builtin "function.__dict__#set")])) (@List.toArray.{0} (Option @Value) [])))
noncomputable def o634 : ((x0 : @Params) → @Obj) := (fun (x0 : @Params) => (Obj.mk (Value.type "dict") none (Data.dict (@List.toArray.{0} @DictEntry [(DictEntry.mk (PyData.keyHash x0 q57) (Value.str q57 288) (Value.str q243 287)), (DictEntry.mk (PyData.keyHash x0 q94) (Value.str q94 289) (Value.builtin "math.__doc__:str#opaque")), (DictEntry.mk (PyData.keyHash x0 q95) (Value.str q95 291) (Value.str q261 290)), (DictEntry.mk (PyData.keyHash x0 q96) (Value.str q96 292) (Value.ref 29)), (DictEntry.mk (PyData.keyHash x0 q97) (Value.str q97 293) (Value.ref 37)), (DictEntry.mk (PyData.keyHash x0 q262) (Value.str q262 294) (Value.builtin "math.acos")), (DictEntry.mk (PyData.keyHash x0 q263) (Value.str q263 295) (Value.builtin "math.acosh")), (DictEntry.mk (PyData.keyHash x0 q264) (Value.str q264 296) (Value.builtin "math.asin")), (DictEntry.mk (PyData.keyHash x0 q265) (Value.str q265 297) (Value.builtin "math.asinh")), (DictEntry.mk (PyData.keyHash x0 q266) (Value.str q266 298) (Value.builtin "math.atan")), (DictEntry.mk (PyData.keyHash x0 q267) (Value.str q267 299) (Value.builtin "math.atan2")), (DictEntry.mk (PyData.keyHash x0 q268) (Value.str q268 300) (Value.builtin "math.atanh")), (DictEntry.mk (PyData.keyHash x0 q269) (Value.str q269 301) (Value.builtin "math.cbrt")), (DictEntry.mk (PyData.keyHash x0 q270) (Value.str q270 302) (Value.builtin "math.ceil")), (DictEntry.mk (PyData.keyHash x0 q271) (Value.str q271 303) (Value.builtin "math.copysign")), (DictEntry.mk (PyData.keyHash x0 q272) (Value.str q272 304) (Value.builtin "math.cos")), (DictEntry.mk (PyData.keyHash x0 q273) (Value.str q273 305) (Value.builtin "math.cosh")), (DictEntry.mk (PyData.keyHash x0 q274) (Value.str q274 306) (Value.builtin "math.degrees")), (DictEntry.mk (PyData.keyHash x0 q275) (Value.str q275 307) (Value.builtin "math.dist")), (DictEntry.mk (PyData.keyHash x0 q276) (Value.str q276 308) (Value.builtin "math.erf")), (DictEntry.mk (PyData.keyHash x0 q277) (Value.str q277 309) (Value.builtin "math.erfc")), (DictEntry.mk (PyData.keyHash x0 q278) (Value.str q278 310) (Value.builtin "math.exp")), (DictEntry.mk (PyData.keyHash x0 q279) (Value.str q279 311) (Value.builtin "math.exp2")), (DictEntry.mk (PyData.keyHash x0 q280) (Value.str q280 312) (Value.builtin "math.expm1")), (DictEntry.mk (PyData.keyHash x0 q44) (Value.str q44 313) (Value.builtin "math.fabs")), (DictEntry.mk (PyData.keyHash x0 q281) (Value.str q281 314) (Value.builtin "math.factorial")), (DictEntry.mk (PyData.keyHash x0 q282) (Value.str q282 315) (Value.builtin "math.floor")), (DictEntry.mk (PyData.keyHash x0 q283) (Value.str q283 316) (Value.builtin "math.fma")), (DictEntry.mk (PyData.keyHash x0 q284) (Value.str q284 317) (Value.builtin "math.fmod")), (DictEntry.mk (PyData.keyHash x0 q285) (Value.str q285 318) (Value.builtin "math.frexp")), (DictEntry.mk (PyData.keyHash x0 q286) (Value.str q286 319) (Value.builtin "math.fsum")), (DictEntry.mk (PyData.keyHash x0 q287) (Value.str q287 320) (Value.builtin "math.gamma")), (DictEntry.mk (PyData.keyHash x0 q288) (Value.str q288 321) (Value.builtin "math.gcd")), (DictEntry.mk (PyData.keyHash x0 q41) (Value.str q41 322) (Value.builtin "math.hypot")), (DictEntry.mk (PyData.keyHash x0 q289) (Value.str q289 323) (Value.builtin "math.isclose")), (DictEntry.mk (PyData.keyHash x0 q290) (Value.str q290 324) (Value.builtin "math.isfinite")), (DictEntry.mk (PyData.keyHash x0 q291) (Value.str q291 325) (Value.builtin "math.isinf")), (DictEntry.mk (PyData.keyHash x0 q292) (Value.str q292 326) (Value.builtin "math.isnan")), (DictEntry.mk (PyData.keyHash x0 q293) (Value.str q293 327) (Value.builtin "math.isqrt")), (DictEntry.mk (PyData.keyHash x0 q294) (Value.str q294 328) (Value.builtin "math.lcm")), (DictEntry.mk (PyData.keyHash x0 q295) (Value.str q295 329) (Value.builtin "math.ldexp")), (DictEntry.mk (PyData.keyHash x0 q296) (Value.str q296 330) (Value.builtin "math.lgamma")), (DictEntry.mk (PyData.keyHash x0 q297) (Value.str q297 331) (Value.builtin "math.log")), (DictEntry.mk (PyData.keyHash x0 q298) (Value.str q298 332) (Value.builtin "math.log1p")), (DictEntry.mk (PyData.keyHash x0 q299) (Value.str q299 333) (Value.builtin "math.log10")), (DictEntry.mk (PyData.keyHash x0 q300) (Value.str q300 334) (Value.builtin "math.log2")), (DictEntry.mk (PyData.keyHash x0 q301) (Value.str q301 335) (Value.builtin "math.modf")), (DictEntry.mk (PyData.keyHash x0 q130) (Value.str q130 336) (Value.builtin "math.pow")), (DictEntry.mk (PyData.keyHash x0 q302) (Value.str q302 337) (Value.builtin "math.radians")), (DictEntry.mk (PyData.keyHash x0 q303) (Value.str q303 338) (Value.builtin "math.remainder")), (DictEntry.mk (PyData.keyHash x0 q304) (Value.str q304 339) (Value.builtin "math.sin")), (DictEntry.mk (PyData.keyHash x0 q305) (Value.str q305 340) (Value.builtin "math.sinh")), (DictEntry.mk (PyData.keyHash x0 q306) (Value.str q306 341) (Value.builtin "math.sqrt")), (DictEntry.mk (PyData.keyHash x0 q307) (Value.str q307 342) (Value.builtin "math.tan")), (DictEntry.mk (PyData.keyHash x0 q308) (Value.str q308 343) (Value.builtin "math.tanh")), (DictEntry.mk (PyData.keyHash x0 q309) (Value.str q309 344) (Value.builtin "math.sumprod")), (DictEntry.mk (PyData.keyHash x0 q310) (Value.str q310 345) (Value.builtin "math.trunc")), (DictEntry.mk (PyData.keyHash x0 q311) (Value.str q311 346) (Value.builtin "math.prod")), (DictEntry.mk (PyData.keyHash x0 q312) (Value.str q312 347) (Value.builtin "math.perm")), (DictEntry.mk (PyData.keyHash x0 q313) (Value.str q313 348) (Value.builtin "math.comb")), (DictEntry.mk (PyData.keyHash x0 q314) (Value.str q314 349) (Value.builtin "math.nextafter")), (DictEntry.mk (PyData.keyHash x0 q315) (Value.str q315 350) (Value.builtin "math.ulp")), (DictEntry.mk (PyData.keyHash x0 q257) (Value.str q257 351) (Value.str q316 187)), (DictEntry.mk (PyData.keyHash x0 q317) (Value.str q317 353) (Value.float (@OfNat.ofNat.{0} @UInt64 (nat_lit 4614256656552045848) (@UInt64.instOfNat (nat_lit 4614256656552045848))) 352)), (DictEntry.mk (PyData.keyHash x0 q318) (Value.str q318 355) (Value.float (@OfNat.ofNat.{0} @UInt64 (nat_lit 4613303445314885481) (@UInt64.instOfNat (nat_lit 4613303445314885481))) 354)), (DictEntry.mk (PyData.keyHash x0 q319) (Value.str q319 357) (Value.float (@OfNat.ofNat.{0} @UInt64 (nat_lit 4618760256179416344) (@UInt64.instOfNat (nat_lit 4618760256179416344))) 356)), (DictEntry.mk (PyData.keyHash x0 q320) (Value.str q320 359) (Value.float (@OfNat.ofNat.{0} @UInt64 (nat_lit 9218868437227405312) (@UInt64.instOfNat (nat_lit 9218868437227405312))) 358)), (DictEntry.mk (PyData.keyHash x0 q321) (Value.str q321 361) (Value.float (@OfNat.ofNat.{0} @UInt64 (nat_lit 9221120237041090560) (@UInt64.instOfNat (nat_lit 9221120237041090560))) 360))]) 68) (@List.toArray.{0} (Option @Value) [])))
noncomputable def o624 : ((x0 : @Params) → @Obj) := (fun (x0 : @Params) => (Obj.mk @Value.none none (Data.seq (@List.toArray.{0} @Value [(Value.int 15 0), (Value.str q335 0), (Value.bool @Bool.true), (Value.bool @Bool.true), (Value.str q261 206), (Value.int 21 0), (Value.str q336 0), (Value.bool @Bool.true), (Value.bool @Bool.true), (Value.str q261 228), (Value.int 26 0), (Value.str q337 0), (Value.bool @Bool.true), (Value.bool @Bool.true), (Value.str q261 247), (Value.int 32 0), (Value.str q338 0), (Value.bool @Bool.true), (Value.bool @Bool.true), (Value.str q261 283)]) 3) (@List.toArray.{0} (Option @Value) [])))
noncomputable def o621 : ((x0 : @Params) → @Obj) := (fun (x0 : @Params) => (Obj.mk (Value.type "getset_descriptor") none (Data.fields (@List.toArray.{0} @Value [(Value.str q333 280), (Value.ref 33), (Value.builtin "ExceptionGroup.__weakref__"), @Value.none])) (@List.toArray.{0} (Option @Value) [])))
noncomputable def o607 : ((x0 : @Params) → @Obj) := (fun (x0 : @Params) => (Obj.mk (Value.type "tuple") none (Data.seq (@List.toArray.{0} @Value [(Value.str q322 232), (Value.str q323 233)]) 0) (@List.toArray.{0} (Option @Value) [])))
noncomputable def o575 : ((x0 : @Params) → @Obj) := (fun (x0 : @Params) => (Obj.mk (Value.type "dict") none (Data.dict (@List.toArray.{0} @DictEntry []) 0) (@List.toArray.{0} (Option @Value) [])))
noncomputable def o580 : ((x0 : @Params) → @Obj) := (fun (x0 : @Params) => (Obj.mk (Value.type "frame") none @Data.plain (@List.toArray.{0} (Option @Value) [(some (Value.ref 9)), (some (Value.ref 3)), (some (Value.ref 3)), none, (some (Value.str q242 164)), none, (some (Value.ref 0))])))
noncomputable def o593 : ((x0 : @Params) → @Obj) := (fun (x0 : @Params) => (Obj.mk (Value.type "getset_descriptor") none (Data.fields (@List.toArray.{0} @Value [(Value.str q332 202), (Value.ref 16), (Value.builtin "function.__dict__"), (Value.builtin "function.__dict__#set")])) (@List.toArray.{0} (Option @Value) [])))
noncomputable def o618 : ((x0 : @Params) → @Obj) := (fun (x0 : @Params) => (Obj.mk (Value.type "tuple") none (Data.seq (@List.toArray.{0} @Value [(Value.str q352 260), (Value.str q351 261), (Value.str q350 262), (Value.str q346 263), (Value.str q348 264), (Value.str q322 265), (Value.str q347 266), (Value.str q349 267)]) 0) (@List.toArray.{0} (Option @Value) [])))
noncomputable def o611 : ((x0 : @Params) → @Obj) := (fun (x0 : @Params) => (Obj.mk (Value.type "dict") none (Data.dict (@List.toArray.{0} @DictEntry [(DictEntry.mk (PyData.keyHash x0 q324) (Value.str q324 234) (Value.str q325 230)), (DictEntry.mk (PyData.keyHash x0 q326) (Value.str q326 235) (Value.int 1296 231)), (DictEntry.mk (PyData.keyHash x0 q94) (Value.str q94 236) (Value.builtin "_frozen_importlib_external.ExtensionFileLoader.__doc__:str#opaque")), (DictEntry.mk (PyData.keyHash x0 q6) (Value.str q6 237) (Value.builtin "_frozen_importlib_external.ExtensionFileLoader.__init__#opaque")), (DictEntry.mk (PyData.keyHash x0 q51) (Value.str q51 238) (Value.builtin "_frozen_importlib_external.ExtensionFileLoader.__eq__#opaque")), (DictEntry.mk (PyData.keyHash x0 q53) (Value.str q53 239) (Value.builtin "_frozen_importlib_external.ExtensionFileLoader.__hash__#opaque")), (DictEntry.mk (PyData.keyHash x0 q328) (Value.str q328 240) (Value.builtin "_frozen_importlib_external.ExtensionFileLoader.create_module#opaque")), (DictEntry.mk (PyData.keyHash x0 q329) (Value.str q329 241) (Value.builtin "_frozen_importlib_external.ExtensionFileLoader.exec_module#opaque")), (DictEntry.mk (PyData.keyHash x0 q327) (Value.str q327 242) (Value.builtin "_frozen_importlib_external.ExtensionFileLoader.is_package#opaque")), (DictEntry.mk (PyData.keyHash x0 q343) (Value.str q343 243) (Value.builtin "_frozen_importlib_external.ExtensionFileLoader.get_code#opaque")), (DictEntry.mk (PyData.keyHash x0 q344) (Value.str q344 244) (Value.builtin "_frozen_importlib_external.ExtensionFileLoader.get_source#opaque")), (DictEntry.mk (PyData.keyHash x0 q339) (Value.str q339 245) (Value.builtin "_frozen_importlib_external.ExtensionFileLoader.get_filename#opaque")), (DictEntry.mk (PyData.keyHash x0 q331) (Value.str q331 246) (Value.ref 28))]) 13) (@List.toArray.{0} (Option @Value) [])))
noncomputable def o587 : ((x0 : @Params) → @Obj) := (fun (x0 : @Params) => (Obj.mk (Value.type "dict") none (Data.dict (@List.toArray.{0} @DictEntry [(DictEntry.mk (PyData.keyHash x0 q322) (Value.str q322 189) (Value.str q243 188)), (DictEntry.mk (PyData.keyHash x0 q323) (Value.str q323 190) (Value.str q316 187))]) 2) (@List.toArray.{0} (Option @Value) [])))
noncomputable def o610 : ((x0 : @Params) → @Obj) := (fun (x0 : @Params) => (Obj.mk (Value.type "type") none (Data.cls (ClassData.mk q342 [(Value.type "object")] [(Value.ref 22), (Value.type "object")] 21 q342 @Bool.true [] [(Value.ref 27)] @Bool.false none @Bool.false)) (@List.toArray.{0} (Option @Value) [])))
noncomputable def o635 : ((x0 : @Params) → @Obj) := (fun (x0 : @Params) => (Obj.mk @Value.none none (Data.seq (@List.toArray.{0} @Value [(Value.int 12 0), (Value.str (Str.mk (@List.toArray.{0} @Nat [6, 288, 8, 95, 95, 110, 97, 109, 101, 95, 95, 6, 287, 4, 109, 97, 116, 104, 6, 289, 7, 95, 95, 100, 111, 99, 95, 95, 9, 23, 109, 97, 116, 104, 46, 95, 95, 100, 111, 99, 95, 95, 58, 115, 116, 114, 35, 111, 112, 97, 113, 117, 101, 6, 291, 11, 95, 95, 112, 97, 99, 107, 97, 103, 101, 95, 95, 6, 290, 0, 6, 292, 10, 95, 95, 108, 111, 97, 100, 101, 114, 95, 95, 4, 0, 0, 29, 6, 293, 8, 95, 95, 115, 112, 101, 99, 95, 95, 4, 0, 0, 37, 6, 294, 4, 97, 99, 111, 115, 9, 9, 109, 97, 116, 104, 46, 97, 99, 111, 115, 6, 295, 5, 97, 99, 111, 115, 104, 9, 10, 109, 97, 116, 104, 46, 97, 99, 111, 115, 104, 6, 296, 4, 97, 115, 105, 110, 9, 9, 109, 97, 116, 104, 46, 97, 115, 105, 110, 6, 297, 5, 97, 115, 105, 110, 104, 9, 10, 109, 97, 116, 104, 46, 97, 115, 105, 110, 104, 6, 298, 4, 97, 116, 97, 110, 9, 9, 109, 97, 116, 104, 46, 97, 116, 97, 110, 6, 299, 5, 97, 116, 97, 110, 50, 9, 10, 109, 97, 116, 104, 46, 97, 116, 97, 110, 50, 6, 300, 5, 97, 116, 97, 110, 104, 9, 10, 109, 97, 116, 104, 46, 97, 116, 97, 110, 104, 6, 301, 4, 99, 98, 114, 116, 9, 9, 109, 97, 116, 104, 46, 99, 98, 114, 116, 6, 302, 4, 99, 101, 105, 108, 9, 9, 109, 97, 116, 104, 46, 99, 101, 105, 108, 6, 303, 8, 99, 111, 112, 121, 115, 105, 103, 110, 9, 13, 109, 97, 116, 104, 46, 99, 111, 112, 121, 115, 105, 103, 110, 6, 304, 3, 99, 111, 115, 9, 8, 109, 97, 116, 104, 46, 99, 111, 115, 6, 305, 4, 99, 111, 115, 104, 9, 9, 109, 97, 116, 104, 46, 99, 111, 115, 104, 6, 306, 7, 100, 101, 103, 114, 101, 101, 115, 9, 12, 109, 97, 116, 104, 46, 100, 101, 103, 114, 101, 101, 115, 6, 307, 4, 100, 105, 115, 116, 9, 9, 109, 97, 116, 104, 46, 100, 105, 115, 116, 6, 308, 3, 101, 114, 102, 9, 8, 109, 97, 116, 104, 46, 101, 114, 102, 6, 309, 4, 101, 114, 102, 99, 9, 9, 109, 97, 116, 104, 46, 101, 114, 102, 99, 6, 310, 3, 101, 120, 112, 9, 8, 109, 97, 116, 104, 46, 101, 120, 112, 6, 311, 4, 101, 120, 112, 50, 9, 9, 109, 97, 116, 104, 46, 101, 120, 112, 50, 6, 312, 5, 101, 120, 112, 109, 49, 9, 10, 109, 97, 116, 104, 46, 101, 120, 112, 109, 49, 6, 313, 4, 102, 97, 98, 115, 9, 9, 109, 97, 116, 104, 46, 102, 97, 98, 115, 6, 314, 9, 102, 97, 99, 116, 111, 114, 105, 97, 108, 9, 14, 109, 97, 116, 104, 46, 102, 97, 99, 116, 111, 114, 105, 97, 108, 6, 315, 5, 102, 108, 111, 111, 114, 9, 10, 109, 97, 116, 104, 46, 102, 108, 111, 111, 114, 6, 316, 3, 102, 109, 97, 9, 8, 109, 97, 116, 104, 46, 102, 109, 97, 6, 317, 4, 102, 109, 111, 100, 9, 9, 109, 97, 116, 104, 46, 102, 109, 111, 100, 6, 318, 5, 102, 114, 101, 120, 112, 9, 10, 109, 97, 116, 104, 46, 102, 114, 101, 120, 112, 6, 319, 4, 102, 115, 117, 109, 9, 9, 109, 97, 116, 104, 46, 102, 115, 117, 109, 6, 320, 5, 103, 97, 109, 109, 97, 9, 10, 109, 97, 116, 104, 46, 103, 97, 109, 109, 97, 6, 321, 3, 103, 99, 100, 9, 8, 109, 97, 116, 104, 46, 103, 99, 100, 6, 322, 5, 104, 121, 112, 111, 116, 9, 10, 109, 97, 116, 104, 46, 104, 121, 112, 111, 116, 6, 323, 7, 105, 115, 99, 108, 111, 115, 101, 9, 12, 109, 97, 116, 104, 46, 105, 115, 99, 108, 111, 115, 101, 6, 324, 8, 105, 115, 102, 105, 110, 105, 116, 101, 9, 13, 109, 97, 116, 104, 46, 105, 115, 102, 105, 110, 105, 116, 101, 6, 325, 5, 105, 115, 105, 110, 102, 9, 10, 109, 97, 116, 104, 46, 105, 115, 105, 110, 102, 6, 326, 5, 105, 115, 110, 97, 110, 9, 10, 109, 97, 116, 104, 46, 105, 115, 110, 97, 110, 6, 327, 5, 105, 115, 113, 114, 116, 9, 10, 109, 97, 116, 104, 46, 105, 115, 113, 114, 116, 6, 328, 3, 108, 99, 109, 9, 8, 109, 97, 116, 104, 46, 108, 99, 109, 6, 329, 5, 108, 100, 101, 120, 112, 9, 10, 109, 97, 116, 104, 46, 108, 100, 101, 120, 112, 6, 330, 6, 108, 103, 97, 109, 109, 97, 9, 11, 109, 97, 116, 104, 46, 108, 103, 97, 109, 109, 97, 6, 331, 3, 108, 111, 103, 9, 8, 109, 97, 116, 104, 46, 108, 111, 103, 6, 332, 5, 108, 111, 103, 49, 112, 9, 10, 109, 97, 116, 104, 46, 108, 111, 103, 49, 112, 6, 333, 5, 108, 111, 103, 49, 48, 9, 10, 109, 97, 116, 104, 46, 108, 111, 103, 49, 48, 6, 334, 4, 108, 111, 103, 50, 9, 9, 109, 97, 116, 104, 46, 108, 111, 103, 50, 6, 335, 4, 109, 111, 100, 102, 9, 9, 109, 97, 116, 104, 46, 109, 111, 100, 102, 6, 336, 3, 112, 111, 119, 9, 8, 109, 97, 116, 104, 46, 112, 111, 119, 6, 337, 7, 114, 97, 100, 105, 97, 110, 115, 9, 12, 109, 97, 116, 104, 46, 114, 97, 100, 105, 97, 110, 115, 6, 338, 9, 114, 101, 109, 97, 105, 110, 100, 101, 114, 9, 14, 109, 97, 116, 104, 46, 114, 101, 109, 97, 105, 110, 100, 101, 114, 6, 339, 3, 115, 105, 110, 9, 8, 109, 97, 116, 104, 46, 115, 105, 110, 6, 340, 4, 115, 105, 110, 104, 9, 9, 109, 97, 116, 104, 46, 115, 105, 110, 104, 6, 341, 4, 115, 113, 114, 116, 9, 9, 109, 97, 116, 104, 46, 115, 113, 114, 116, 6, 342, 3, 116, 97, 110, 9, 8, 109, 97, 116, 104, 46, 116, 97, 110, 6, 343, 4, 116, 97, 110, 104, 9, 9, 109, 97, 116, 104, 46, 116, 97, 110, 104, 6, 344, 7, 115, 117, 109, 112, 114, 111, 100, 9, 12, 109, 97, 116, 104, 46, 115, 117, 109, 112, 114, 111, 100, 6, 345, 5, 116, 114, 117, 110, 99, 9, 10, 109, 97, 116, 104, 46, 116, 114, 117, 110, 99, 6, 346, 4, 112, 114, 111, 100, 9, 9, 109, 97, 116, 104, 46, 112, 114, 111, 100, 6, 347, 4, 112, 101, 114, 109, 9, 9, 109, 97, 116, 104, 46, 112, 101, 114, 109, 6, 348, 4, 99, 111, 109, 98, 9, 9, 109, 97, 116, 104, 46, 99, 111, 109, 98, 6, 349, 9, 110, 101, 120, 116, 97, 102, 116, 101, 114, 9, 14, 109, 97, 116, 104, 46, 110, 101, 120, 116, 97, 102, 116, 101, 114, 6, 350, 3, 117, 108, 112, 9, 8, 109, 97, 116, 104, 46, 117, 108, 112, 6, 351, 8, 95, 95, 102, 105, 108, 101, 95, 95, 6, 187, 123, 47, 110, 105, 120, 47, 115, 116, 111, 114, 101, 47, 119, 106, 49, 102, 53, 54, 113, 107, 121, 52, 112, 109, 106, 99, 55, 108, 48, 114, 54, 98, 54, 108, 55, 119, 104, 110, 110, 119, 55, 104, 112, 54, 45, 112, 121, 116, 104, 111, 110, 51, 45, 51, 46, 49, 51, 46, 49, 53, 47, 108, 105, 98, 47, 112, 121, 116, 104, 111, 110, 51, 46, 49, 51, 47, 108, 105, 98, 45, 100, 121, 110, 108, 111, 97, 100, 47, 109, 97, 116, 104, 46, 99, 112, 121, 116, 104, 111, 110, 45, 51, 49, 51, 45, 120, 56, 54, 95, 54, 52, 45, 108, 105, 110, 117, 120, 45, 103, 110, 117, 46, 115, 111, 6, 353, 2, 112, 105, 5, 352, 4614256656552045848, 6, 355, 1, 101, 5, 354, 4613303445314885481, 6, 357, 3, 116, 97, 117, 5, 356, 4618760256179416344, 6, 359, 3, 105, 110, 102, 5, 358, 9218868437227405312, 6, 361, 3, 110, 97, 110, 5, 360, 9221120237041090560])) 0), (Value.bool @Bool.true), (Value.bool @Bool.false), (Value.str q243 363)]) 0) (@List.toArray.{0} (Option @Value) [])))
noncomputable def o613 : ((x0 : @Params) → @Obj) := (fun (x0 : @Params) => (Obj.mk (Value.type "list") none (Data.seq (@List.toArray.{0} @Value []) 0) (@List.toArray.{0} (Option @Value) [])))
noncomputable def tree640 : ((x0 : @Params) → @BT) := (fun (x0 : @Params) => (BT.node (o570 x0) (BT.node (o622 x0) (BT.node (o640 x0) (BT.node (o577 x0) (BT.node (o592 x0) (BT.node (o637 x0) @BT.nil @BT.nil) @BT.nil) (BT.node (o599 x0) @BT.nil @BT.nil)) (BT.node (o581 x0) (BT.node (o594 x0) (BT.node (o620 x0) @BT.nil @BT.nil) @BT.nil) (BT.node (o606 x0) @BT.nil @BT.nil))) (BT.node (o574 x0) (BT.node (o579 x0) (BT.node (o590 x0) (BT.node (o617 x0) @BT.nil @BT.nil) @BT.nil) (BT.node (o603 x0) @BT.nil @BT.nil)) (BT.node (o586 x0) (BT.node (o601 x0) (BT.node (o626 x0) @BT.nil @BT.nil) @BT.nil) (BT.node (o612 x0) @BT.nil @BT.nil)))) (BT.node (o636 x0) (BT.node (o573 x0) (BT.node (o578 x0) (BT.node (o608 x0) (BT.node (o619 x0) @BT.nil @BT.nil) @BT.nil) (BT.node (o602 x0) @BT.nil @BT.nil)) (BT.node (o634 x0) (BT.node (o624 x0) (BT.node (o621 x0) @BT.nil @BT.nil) @BT.nil) (BT.node (o607 x0) @BT.nil @BT.nil))) (BT.node (o575 x0) (BT.node (o580 x0) (BT.node (o593 x0) (BT.node (o618 x0) @BT.nil @BT.nil) @BT.nil) (BT.node (o611 x0) @BT.nil @BT.nil)) (BT.node (o587 x0) (BT.node (o610 x0) (BT.node (o635 x0) @BT.nil @BT.nil) @BT.nil) (BT.node (o613 x0) @BT.nil @BT.nil))))))
noncomputable def sts86 : (List @Stmt) := [(nth pb 1), (nth pb 2), (nth pb 3)]
noncomputable def sts108 : (List @Stmt) := [(nth pb 4)]
noncomputable def sts531 : (List @Stmt) := [(nth pb 5), (nth pb 6), (nth pb 7), (nth pb 8)]
noncomputable def env41 : @Env := (Env.mk (Module.scope pwq.main) @mainNs @mainNs [] @Str.empty none (Value.ref 41) (some (@OfNat.ofNat.{0} @Addr (nat_lit 42) (instOfNatNat (nat_lit 42)))) (@OfNat.ofNat.{0} @Addr (nat_lit 0) (instOfNatNat (nat_lit 0))))
end Mine
end

section
open PySem PySem.W PyProof.Rows
set_option Elab.async false
set_option linter.unusedVariables false
set_option maxRecDepth 100000
set_option maxHeartbeats 0
namespace Mine
abbrev posA : Pos := Pos.mk 0 0 0 0
abbrev ann : Option Value := some (.ref 6)
noncomputable abbrev cE : Code := .body bq env41
end Mine
end

section
open PySem PySem.W PyProof.Rows
set_option Elab.async false
set_option linter.unusedVariables false
set_option maxRecDepth 100000
set_option maxHeartbeats 0
namespace Mine
theorem pre_q (w : World) (os : OsState) : PySem.W.Fast.tw15667345088766844465 PySem.W.Fast.tw14364793385576792824 pwq w 39 ann 12 ⟨heap79 w.params, #[], {}, 374, os⟩ (topStub pwq) =
    some (⟨heap83 w.params, #[], {}, 380, os⟩, ⟨PySem.W.Fast.tw11892475500146522536 PySem.W.Fast.tw14364793385576792824 cE, cE, posA, [topFrame posA]⟩) := by kernel_rfl
theorem pre (w : World) (os : OsState) : topGo treeTable pwq w 39 ann 12 ⟨heap79 w.params, #[], {}, 374, os⟩ (topStub pwq) =
    some (⟨heap83 w.params, #[], {}, 380, os⟩, ⟨denote treeTable cE, cE, posA, [topFrame posA]⟩) := by
  have h := pre_q w os
  rw [← PySem.W.Fast.te15667345088766844465, ← PySem.W.Fast.te14364793385576792824, ← PySem.W.Fast.te11892475500146522536] at h
  exact h
theorem block_q (w : World) (os : OsState) : PySem.W.Fast.tw14374325043358763698 PySem.W.Fast.tw14364793385576792824 pwq w 39 ann 1 1 ⟨heap83 w.params, #[], {}, 380, os⟩ (blockOf bq env41 cE posA [topFrame posA]) =
    some (.next, SharedT.abs ⟨tree84 w.params, 43, {}, #[], {}, 380, os⟩, cE, posA) := by kernel_rfl
theorem block (w : World) (os : OsState) : segRun treeTable pwq w 39 ann 1 1 ⟨heap83 w.params, #[], {}, 380, os⟩ (blockOf bq env41 cE posA [topFrame posA]) =
    some (.next, SharedT.abs ⟨tree84 w.params, 43, {}, #[], {}, 380, os⟩, cE, posA) := by
  have h := block_q w os
  rw [← PySem.W.Fast.te14374325043358763698, ← PySem.W.Fast.te14364793385576792824] at h
  exact h
end Mine
end

section
open PySem PySem.W PyProof.Rows
set_option Elab.async false
set_option linter.unusedVariables false
set_option maxRecDepth 100000
set_option maxHeartbeats 0
namespace Mine
theorem g1_q (w : World) (os : OsState) : PySem.W.Fast.tw10110043849684766642 PySem.W.Fast.tw14364793385576792824 pwq w 39 ann 1 225 ⟨tree84 w.params, 43, {}, #[], {}, 380, os⟩ (piecesOf sts86 env41 cE posA [topFrame posA]) =
    some (.next, ⟨tree107 w.params, 63, {}, #[], {}, 407, os⟩, cE, Pos.mk 6 0 7 8) := by kernel_rfl
end Mine
end

section
open PySem PySem.W PyProof.Rows
set_option Elab.async false
set_option linter.unusedVariables false
set_option maxRecDepth 100000
set_option maxHeartbeats 0
namespace Mine
theorem cls_f (w : World) (os : OsState) : PySem.W.Fast.tw10110043849684766642 PySem.W.Fast.tw14364793385576792824 pwq (w.withFollow "special-get-raises" false) 39 ann 1 1602 ⟨tree107 (w.withFollow "special-get-raises" false).params, 63, {}, #[], {}, 407, os⟩ (piecesOf sts108 env41 cE (Pos.mk 6 0 7 8) [topFrame posA]) =
    some (.next, ⟨tree321 (w.withFollow "special-get-raises" false).params, 275, {}, #[], {}, 659, os⟩, cE, Pos.mk 8 0 104 37) := by kernel_rfl
end Mine
end

section
open PySem PySem.W PyProof.Rows
set_option Elab.async false
set_option linter.unusedVariables false
set_option maxRecDepth 100000
set_option maxHeartbeats 0
namespace Mine
theorem imp_q (w : World) (os : OsState) : (PySem.W.Fast.tw14789777615569096658 PySem.W.Fast.tw14364793385576792824 (opening pwq) w 1120 ⟨tree553 w.params, 0, {}, #[], {}, 1, os⟩ (PySem.W.Fast.tw1435165496053646825 (opening pwq)).2).map (fun r => (r.1, r.2.atExitBegin)) =
    some (⟨tree640 w.params, 39, {}, #[], {}, 374, os⟩, some []) := by kernel_rfl
end Mine
end

section
open PySem PySem.W PyProof.Rows
set_option Elab.async false
set_option linter.unusedVariables false
set_option maxRecDepth 100000
set_option maxHeartbeats 0
namespace Mine
theorem fence_q (w : World) (os : OsState) : (PySem.W.Fast.tw14289696077712309145 pwq ⟨absHeap (tree640 w.params) 39 {}, #[], {}, 374, os⟩).map (fun s => (s.heap, s.gens, s.drawn, s.toks)) = some (heap79 w.params, #[], {}, 374) := by kernel_rfl
theorem size_ (w : World) : ((heap79 w.params).isNs mainGlobals && (#[] : Array GenState).size == 0, (heap79 w.params).objs.size, (heap79 w.params).nsMap mainGlobals "__annotations__") = (true, 39, ann) := by kernel_rfl
theorem g3_q (w : World) (os : OsState) : PySem.W.Fast.tw10110043849684766642 PySem.W.Fast.tw14364793385576792824 pwq w 39 ann 1 105 ⟨tree321 w.params, 275, {}, #[], {}, 659, os⟩ (piecesOf sts531 env41 cE (Pos.mk 8 0 104 37) [topFrame posA]) =
    some (.next, ⟨tree549 w.params, 292, {}, #[], {}, 694, os⟩, cE, Pos.mk 123 0 145 15) := by kernel_rfl
theorem fin_ (w : World) (os : OsState) : topRun treeTable pwq w 39 ann 2 (SharedT.abs ⟨tree549 w.params, 292, {}, #[], {}, 694, os⟩) ⟨doneF .next, cE, Pos.mk 123 0 145 15, [topFrame posA]⟩ =
    some ⟨heap550 w.params, #[], {}, 694, os⟩ := by kernel_rfl
end Mine
end

section
open PySem PySem.W PyProof.Rows
set_option Elab.async false
set_option linter.unusedVariables false
set_option maxRecDepth 100000
set_option maxHeartbeats 0
namespace Mine
theorem cls_t (w : World) (os : OsState) : PySem.W.Fast.tw10110043849684766642 PySem.W.Fast.tw14364793385576792824 pwq (w.withFollow "special-get-raises" true) 39 ann 1 1602 ⟨tree107 (w.withFollow "special-get-raises" true).params, 63, {}, #[], {}, 407, os⟩ (piecesOf sts108 env41 cE (Pos.mk 6 0 7 8) [topFrame posA]) =
    some (.next, ⟨tree321 (w.withFollow "special-get-raises" true).params, 275, {}, #[], {}, 659, os⟩, cE, Pos.mk 8 0 104 37) := by kernel_rfl
theorem cls_q (w : World) : ∀ os : OsState, PySem.W.Fast.tw10110043849684766642 PySem.W.Fast.tw14364793385576792824 pwq w 39 ann 1 1602 ⟨tree107 w.params, 63, {}, #[], {}, 407, os⟩ (piecesOf sts108 env41 cE (Pos.mk 6 0 7 8) [topFrame posA]) =
    some (.next, ⟨tree321 w.params, 275, {}, #[], {}, 659, os⟩, cE, Pos.mk 8 0 104 37) :=
  byRow2 "special-get-raises" (P := fun w => ∀ os : OsState, PySem.W.Fast.tw10110043849684766642 PySem.W.Fast.tw14364793385576792824 pwq w 39 ann 1 1602 ⟨tree107 w.params, 63, {}, #[], {}, 407, os⟩ (piecesOf sts108 env41 cE (Pos.mk 6 0 7 8) [topFrame posA]) =
    some (.next, ⟨tree321 w.params, 275, {}, #[], {}, 659, os⟩, cE, Pos.mk 8 0 104 37)) cls_f cls_t w
end Mine
end

section
open PySem PySem.W PyProof.Rows
set_option Elab.async false
set_option linter.unusedVariables false
set_option maxRecDepth 100000
set_option maxHeartbeats 0
namespace Mine
theorem seg_of {w : World} {n k k' m m' : Nat} {T T' : BT} {os : OsState} {l : List Stmt} {p p' : Pos}
    (h : PySem.W.Fast.tw10110043849684766642 PySem.W.Fast.tw14364793385576792824 pwq w 39 ann 1 n ⟨T, k, {}, #[], {}, m, os⟩ (piecesOf l env41 cE p [topFrame posA]) = some (.next, ⟨T', k', {}, #[], {}, m', os⟩, cE, p')) :
    segRun treeTable pwq w 39 ann 1 n (SharedT.abs ⟨T, k, {}, #[], {}, m, os⟩) (piecesOf l env41 cE p [topFrame posA]) = some (.next, SharedT.abs ⟨T', k', {}, #[], {}, m', os⟩, cE, p') := by
  rw [← PySem.W.Fast.te10110043849684766642, ← PySem.W.Fast.te14364793385576792824] at h
  exact segRun_of h
theorem run (w : World) (os : OsState) : topRun treeTable pwq w 39 ann (12 + (1 + (225 + (1602 + (105 + 2))))) ⟨heap79 w.params, #[], {}, 374, os⟩ (topStub pwq) = some ⟨heap550 w.params, #[], {}, 694, os⟩ :=
  go_top (pre w os) (piece_block (block w os) (piece_app (rest := sts108 ++ (sts531 ++ [])) (seg_of (g1_q w os)) (piece_app (rest := sts531 ++ []) (seg_of (cls_q w os)) (piece_app (rest := []) (seg_of (g3_q w os)) (piece_nil (fin_ w os))))))
end Mine
end

section
open PySem PySem.W PyProof.Rows
set_option Elab.async false
set_option linter.unusedVariables false
set_option maxRecDepth 100000
set_option maxHeartbeats 0
namespace Mine
theorem start_eq (w : World) : SharedT.abs ⟨tree553 w.params, 0, {}, #[], {}, 1, (start (opening pwq)).1.os⟩ = (start (opening pwq)).1 := by kernel_rfl
theorem ends_one {tb : String → Option Builtin} {p : Program} {w : World} {s : Shared} {t : Thread} (h : t.atExitBegin = some []) : importEnds tb p w 1 s t = some s := by
  unfold importEnds; rw [h]
theorem imp_of {p : Program} {w : World} {n : Nat} {s s' : SharedT} {t : Thread} (h : (PySem.W.Fast.tw14789777615569096658 PySem.W.Fast.tw14364793385576792824 p w n s t).map (fun r => (r.1, r.2.atExitBegin)) = some (s', some [])) :
    importEnds treeTable p w (n + 1) s.abs t = some s'.abs := by
  rw [← PySem.W.Fast.te14789777615569096658, ← PySem.W.Fast.te14364793385576792824] at h
  obtain ⟨⟨s2, t'⟩, e1, e2⟩ := Option.map_eq_some_iff.mp h
  obtain ⟨rfl, e3⟩ := Prod.mk.inj e2
  exact imp_go (impGo_of e1) (ends_one e3)
theorem imp_run (w : World) : importEnds treeTable (opening pwq) w (1120 + 1) (start (opening pwq)).1 (start (opening pwq)).2 = some ⟨absHeap (tree640 w.params) 39 {}, #[], {}, 374, (start (opening pwq)).1.os⟩ := by
  have h := imp_q w (start (opening pwq)).1.os
  rw [← PySem.W.Fast.te1435165496053646825] at h
  have k := imp_of h
  rw [start_eq] at k
  exact k
end Mine
end

section
open PySem PySem.W PyProof.Rows
set_option Elab.async false
set_option linter.unusedVariables false
set_option maxRecDepth 100000
set_option maxHeartbeats 0
namespace Mine
theorem fence (w : World) : (fun os => (fenceModules? pwq ⟨absHeap (tree640 w.params) 39 {}, #[], {}, 374, os⟩).map (fun s => (s.heap, s.gens, s.drawn, s.toks))) = fun _ => some (heap79 w.params, #[], {}, 374) := by
  funext os
  have h := fence_q w os
  rw [← PySem.W.Fast.te14289696077712309145] at h
  exact h
end Mine
end

section
open PySem PySem.W PyProof.Rows
set_option Elab.async false
set_option linter.unusedVariables false
set_option maxRecDepth 100000
set_option maxHeartbeats 0
namespace Mine
def asK : List Addr := [2, 3, 43, 45, 46, 48, 49, 50, 57, 58, 59, 60, 70, 71, 72, 74, 75, 77, 78, 79, 81, 82, 84, 85, 86, 87, 88, 89, 90, 92, 93, 95, 96, 97, 99, 100, 102, 103, 104, 106, 107, 109, 110, 111, 113, 114, 116, 117, 118, 119, 121, 122, 124, 125, 126, 128, 129, 131, 132, 133, 135, 136, 138, 139, 140, 142, 143, 145, 146, 147, 148, 150, 151, 153, 154, 155, 156, 158, 159, 161, 162, 163, 164, 166, 167, 169, 170, 171, 172, 174, 175, 177, 178, 179, 180, 182, 183, 185, 186, 187, 189, 190, 192, 193, 194, 196, 197, 199, 200, 201, 203, 204, 206, 207, 208, 210, 211, 213, 214, 215, 217, 218, 220, 221, 222, 224, 225, 227, 228, 229, 231, 232, 234, 235, 236, 238, 239, 241, 242, 243, 245, 246, 248, 249, 250, 252, 253, 255, 256, 257, 259, 260, 262, 263, 264, 269, 270, 271, 272, 275, 278, 279, 280, 283, 284, 285, 287, 288, 290, 291]
abbrev loose : List Str := [Str.ofString "NormalDist"]
theorem asK_eq (P : Params) : asK = (seed.heap_39 P).map (·.1) := by kernel_rfl
noncomputable abbrev hookK : Hook := kHook seed.heap_39 asK asK_eq
abbrev Xq (q : Program) : Shared → Bool := fun s => xlAt q [] s && recOk (RowW.records (OpenRow.toRowW PySem.Challenge.rw_io0019_02.row)) s
end Mine
end

section
open PySem PySem.W PyProof.Rows
set_option Elab.async false
set_option linter.unusedVariables false
set_option maxRecDepth 100000
set_option maxHeartbeats 0
namespace Mine
theorem looks1 (w : World) (os : OsState) : (staticsOk (importedModules pwq.main.body) (heap79 w.params) (heap550 w.params) && namesBound pwq (heap550 w.params) && gensDone ⟨heap550 w.params, #[], {}, 694, os⟩ && laidKept (heap79 w.params) (heap550 w.params)) = true := by kernel_rfl
end Mine
end

section
open PySem PySem.W PyProof.Rows
set_option Elab.async false
set_option linter.unusedVariables false
set_option maxRecDepth 100000
set_option maxHeartbeats 0
namespace Mine
theorem looks2 (w : World) (os : OsState) : openSeen vwq loose (importedModules pwq.main.body) (Xq vwq) true ⟨heap550 w.params, #[], {}, 694, os⟩ = openGood vwq loose := by kernel_rfl
end Mine
end

section
open PySem PySem.W PyProof.Rows
set_option Elab.async false
set_option linter.unusedVariables false
set_option maxRecDepth 100000
set_option maxHeartbeats 0
namespace Mine
theorem looks3 (w : World) (os : OsState) : Hook.obs hookK ⟨heap550 w.params, #[], {}, 694, os⟩ = Hook.val hookK w := by kernel_rfl
end Mine
end

section
open PySem PySem.W PyProof.Rows
set_option Elab.async false
set_option linter.unusedVariables false
set_option maxRecDepth 100000
set_option maxHeartbeats 0
namespace Mine
theorem leftq : LeftO pwq vwq loose (Xq vwq) hookK.obs hookK.val 3984 :=
  LeftO.of_pieces (H₀ := heap79) (H₁ := heap550) (open_cut (He := fun P => absHeap (tree640 P) 39 {}) (H₀ := heap79) imp_run (show Nat.ble (1120 + 1) 3984 = true from rfl) fence) size_ run (show Nat.ble (12 + (1 + (225 + (1602 + (105 + 2))))) 3984 = true from rfl)
    (fun w => funext fun os => Prod.ext (looks1 w os) (Prod.ext (looks2 w os) (looks3 w os)))
theorem left : LeftO PySem.Challenge.pw_io0019_02 vw loose (Xq vw) hookK.obs hookK.val 3984 := by
  rw [vw_eq, pw_eq]; exact leftq
end Mine
end

section
open PySem PySem.W PyProof.Rows PySem.Calls
set_option Elab.async false
set_option pp.deepTerms false
set_option pp.maxSteps 3000
set_option maxRecDepth 100000
namespace Mine
theorem all_ne {news : List (Addr × Obj)} {d x : Nat} (h : ∀ p ∈ news, p.1 < d) (h2 : d ≤ x) : ∀ p ∈ news, p.1 ≠ x := fun p hp => Nat.ne_of_lt (Nat.lt_of_lt_of_le (h p hp) h2)
local macro_rules | `(tactic| k_all) => `(tactic| (refine' all_ne ?h ?k; (case h => assumption); (case k => omega)))
local macro_rules | `(tactic| k_room) => `(tactic| ktr_room)
local macro_rules | `(tactic| walk_at "execs cons") => `(tactic| ((with_reducible show wpAny _ _ _ _ _ (Shared.mk _ _ _ (_ + _) _)); refine' gen_toks ?h ?_; (case h => omega); intro tk' htk'))
local macro_rules | `(tactic| walk_at "execs nil") => `(tactic| ((with_reducible show wpAny _ _ _ _ _ (Shared.mk _ _ _ (_ + _) _)); refine' gen_toks ?h ?_; (case h => omega); intro tk' htk'))

abbrev ndObj (d : Addr) (mu sg : UInt64) (t1 t2 : Tok) : Obj := { cls := .ref 270, dict := some d, slots := #[some (.float mu t1), some (.float sg t2)] }

set_option maxHeartbeats 8000000 in
theorem nd_ff {w : World} {news : List (Addr × Obj)} {mu sg : UInt64} {t1 t2 : Tok} {mea : ExcName → Option Value} {mg mb : Str → Option Value} {dp un : Nat} {gd : Option (List Code)} {cn : Str} {nms : List (Str × NameKind)} {ig ic : Bool} {mr : List (Str × Const)} {a : Addr} {ccd : Value} {cl : List (Str × Addr)} {outer : List Env} {A₀ : Around} {base h₀ : Heap} {L : Addr} {m : Str → Option Value} {s : Shared} {Q E : Value → Shared → Prop}
    (h0 : (Float64.cmp sg 0 == some Ordering.lt) = false) (B : Below A₀ base outer h₀) (F : Fr h₀ L s.heap m) (X : (seed.heap_39 w.params).In h₀) (N : News h₀ L s.heap news)
    (T : Top vw (looseW vw [Str.ofString "NormalDist"]) mea mg mb h₀) (hdp : dp + 8 < recursionLimit) (hun : un + 64 < cLine)
    (h : ∀ x d h' tk', Fr h₀ L h' m → News h₀ L h' ((x, ndObj d mu sg t1 t2) :: (d, dictOf [] 0) :: news) → (∀ p ∈ news, p.1 < d) → @LT.lt Nat _ d x → 1 ≤ tk' → Q (.ref x) { s with heap := h', toks := tk' }) :
    wpAny (model PySem.Challenge.rw_io0019_02.row.prog w) (ktrTop dp un gd cn ⟨.function, nms, ig, ic, mr⟩ L a ccd cl outer) (call (.ref 270) [.float mu t1, .float sg t2]) Q E s := by
  revert X; k_fill; intro X
  k_steps
  exact h _ _ _ _ (by assumption) (by assumption) (by assumption) (by assumption) (by omega)

local macro_rules | `(tactic| k_units) => `(tactic| ktr_units)
local macro_rules | `(tactic| walk_at "call builtin:isinstance") => `(tactic| (k_here; k_dflt (refine' isi_call ?k1 ?k2 ?k3 ?k4 ?_; (case k1 => k_in); (case k2 => k_types); (case k3 => k_is); (case k4 => intro e; cases e); k_whole)))
local macro_rules | `(tactic| walk_at "compareOp Eq float float") => `(tactic| (refine' eq_known ?h ?_; (case h => assumption)))
set_option maxHeartbeats 8000000 in
theorem nd_eq {w : World} {news : List (Addr × Obj)} {x y dx dy : Addr} {mu sg mu' sg' : UInt64} {t1 t2 t3 t4 : Tok} {b1 b2 : Bool} {mea : ExcName → Option Value} {mg mb : Str → Option Value} {dp un : Nat} {gd : Option (List Code)} {cn : Str} {nms : List (Str × NameKind)} {ig ic : Bool} {mr : List (Str × Const)} {a : Addr} {ccd : Value} {cl : List (Str × Addr)} {outer : List Env} {A₀ : Around} {base h₀ : Heap} {L : Addr} {m : Str → Option Value} {s : Shared} {Q E : Value → Shared → Prop}
    (hx : (x, ndObj dx mu sg t1 t2) ∈ news) (hdx : (dx, dictOf [] 0) ∈ news) (hy : (y, ndObj dy mu' sg' t3 t4) ∈ news) (hdy : (dy, dictOf [] 0) ∈ news)
    (h1 : (Float64.cmp mu mu' == some Ordering.eq) = b1) (h2 : (Float64.cmp sg sg' == some Ordering.eq) = b2)
    (B : Below A₀ base outer h₀) (F : Fr h₀ L s.heap m) (X : (seed.heap_39 w.params).In h₀) (N : News h₀ L s.heap news)
    (T : Top vw (looseW vw [Str.ofString "NormalDist"]) mea mg mb h₀) (hdp : dp + 8 < recursionLimit) (hun : un + 64 < cLine)
    (h : ∀ h' tk', Fr h₀ L h' m → News h₀ L h' news → 1 ≤ tk' → Q (.bool (b1 && b2)) { s with heap := h', toks := tk' }) :
    wpAny (model PySem.Challenge.rw_io0019_02.row.prog w) (ktrTop dp un gd cn ⟨.function, nms, ig, ic, mr⟩ L a ccd cl outer) (compareOp .Eq (.ref x) (.ref y)) Q E s := by
  revert X; k_fill; intro X
  have N2 : News h₀ L s.heap ((x, ndObj dx mu sg t1 t2) :: (dx, dictOf [] 0) :: (y, ndObj dy mu' sg' t3 t4) :: (dy, dictOf [] 0) :: news) := fun p hp => by
    rcases List.mem_cons.mp hp with rfl | hp
    · exact N _ hx
    rcases List.mem_cons.mp hp with rfl | hp
    · exact N _ hdx
    rcases List.mem_cons.mp hp with rfl | hp
    · exact N _ hy
    rcases List.mem_cons.mp hp with rfl | hp
    · exact N _ hdy
    · exact N p hp
  replace h : ∀ h' tk', Fr h₀ L h' m → News h₀ L h' ((x, ndObj dx mu sg t1 t2) :: (dx, dictOf [] 0) :: (y, ndObj dy mu' sg' t3 t4) :: (dy, dictOf [] 0) :: news) → 1 ≤ tk' → Q (.bool (b1 && b2)) { s with heap := h', toks := tk' } :=
    fun h' tk' F' N' => h h' tk' F' fun p hp => N' p (.tail _ (.tail _ (.tail _ (.tail _ hp))))
  clear N hx hdx hy hdy
  k_steps
  all_goals first
    | (have e : b1 = true := by assumption
       rw [e, Bool.true_and] at h
       exact h _ _ (by assumption) (by assumption) (by omega))
    | (have e : b1 = false := by first | assumption | (simp_all; done)
       rw [e, Bool.false_and] at h
       rw [e]
       exact h _ _ (by assumption) (by assumption) (by omega))
end Mine
end

section
open PySem PySem.W PyProof.Rows PySem.Calls
set_option Elab.async false
set_option pp.deepTerms false
set_option pp.maxSteps 3000
set_option maxRecDepth 100000
namespace Mine
local macro_rules | `(tactic| k_room) => `(tactic| ktr_room)
local macro_rules | `(tactic| k_units) => `(tactic| ktr_units)
local macro_rules | `(tactic| k_all) => `(tactic| (refine' all_ne ?h ?k; (case h => assumption); (case k => omega)))
local macro_rules | `(tactic| walk_at "binaryOp Pow int int") => `(tactic| first
  | (with_reducible refine pow_20 ?_) | (with_reducible refine pow_30 ?_) | (with_reducible refine pow_40 ?_) | (with_reducible refine pow_600 ?_) | (with_reducible refine pow_21 ?_) | (with_reducible refine pow_18 ?_) | (with_reducible refine pow_16 ?_)
  | (refine' pow_sq ?h0 ?h1 ?_; (case h0 => omega); (case h1 => omega)))
local macro_rules | `(tactic| walk_at "binaryOp Div int int") => `(tactic| first
  | (refine' div_20 ?d ?n ?_; (case d => decide); (case n => omega))
  | (refine' div_30 ?d ?n ?_; (case d => decide); (case n => omega))
  | (refine' div_40 ?d ?m ?h0 ?n ?_; (case d => decide); (case m => rfl); (case h0 => omega); (case n => omega)))
local macro_rules | `(tactic| walk_at "binaryOp Mult float float") => `(tactic| (refine' mul_float_dy ?h0 ?h1 ?_; (case h0 => omega); (case h1 => omega)))
local macro_rules | `(tactic| walk_at "binaryOp Add float float") => `(tactic| (refine' add_float_off ?h0 ?_; (case h0 => omega)))

local macro_rules | `(tactic| walk_at "getAttr ref") => `(tactic| (k_here; k_dflt (refine' prop_slots ?k1 ?k2 ?k3 ?k4 ?k5 ?k6 ?k7 ?k8 ?k9 ?_; (case k1 => k_asm); (case k2 => k_asm); (case k3 => k_inst); (case k4 => k_is); (case k5 => k_is); (case k6 => k_is); (case k7 => k_is); (case k8 => k_is); (case k9 => k_is); k_whole; k_enter)))

local macro_rules | `(tactic| walk_at "execs cons") => `(tactic| ((with_reducible show wpAny _ _ _ _ _ (Shared.mk _ _ _ (_ + _) _)); refine' gen_toks ?h ?_; (case h => omega); intro tk' htk'))
local macro_rules | `(tactic| walk_at "execs nil") => `(tactic| ((with_reducible show wpAny _ _ _ _ _ (Shared.mk _ _ _ (_ + _) _)); refine' gen_toks ?h ?_; (case h => omega); intro tk' htk'))
local macro_rules | `(tactic| walk_at "compareOp NotEq ref ref") => `(tactic| (k_here; k_dflt (first
  | (refine' ne_nil ?l ?b ?u ?_; (case l => is_list); (case b => is_list); (case u => ktr_units); k_whole)
  | (refine' ne_floats3K ?F ?X ?l ?b ?hb ?t1 ?t2 ?t3 ?u1 ?u2 ?u3 ?x ?y ?z ?u ?_; (case l => is_list); (case b => is_list); (case F => k_asm); (case X => k_asm); (case hb => k_is); (case t1 => first | exact Nat.succ_ne_zero _ | exact ne_of_one (by assumption) | omega); (case t2 => first | exact Nat.succ_ne_zero _ | exact ne_of_one (by assumption) | omega); (case t3 => first | exact Nat.succ_ne_zero _ | exact ne_of_one (by assumption) | omega); (case u1 => first | exact Nat.succ_ne_zero _ | exact ne_of_one (by assumption) | omega); (case u2 => first | exact Nat.succ_ne_zero _ | exact ne_of_one (by assumption) | omega); (case u3 => first | exact Nat.succ_ne_zero _ | exact ne_of_one (by assumption) | omega); (case x => exact cmp_self (by omega) (by decide) (by decide)); (case y => exact cmp_self (by omega) (by decide) (by decide)); (case z => exact cmp_self_sq (by omega) (by omega)); (case u => ktr_units); k_whole))))
local macro_rules | `(tactic| walk_at "compareOp Eq ref ref") => `(tactic| (k_here; k_dflt (refine' nd_eq ?m1 ?m2 ?m3 ?m4 ?h1 ?h2 ?k1 ?k2 ?k3 ?k4 ?k5 ?k6 ?k7 ?_; (case k1 => k_asm); (case k2 => k_asm); (case k3 => k_asm); (case k4 => k_asm); (case k5 => k_asm); (case m1 => k_mem); (case m2 => k_mem); (case m3 => k_mem); (case m4 => k_mem); (case h1 => (first | exact cmp_self (by omega) (by decide) (by decide) | exact (dy_off_ne (by omega)).1 | exact (dy_off_ne (by omega)).2)); (case h2 => (first | exact cmp_self (by omega) (by decide) (by decide) | exact (dy_off_ne (by omega)).1 | exact (dy_off_ne (by omega)).2)); (case k6 => ktr_room); (case k7 => ktr_units); k_whole); intro h' tk' F' N' htk'; (try k_sweep); (try dsimp only); (try k_fold)))
local macro_rules | `(tactic| walk_at "call ref") => `(tactic| (k_here; (with_reducible show wpAny _ _ (call (Value.ref 270) [Value.float _ _, Value.float _ _]) _ _ _); k_dflt (refine' nd_ff ?k0 ?k1 ?k2 ?k3 ?k4 ?k5 ?k6 ?k7 ?_; (case k1 => k_asm); (case k2 => k_asm); (case k3 => k_asm); (case k4 => k_asm); (case k5 => k_asm); (case k0 => exact dy_not_lt (by omega) (by omega) (by decide) (by decide)); (case k6 => ktr_room); (case k7 => ktr_units); k_whole); intro x' d' h' tk' F' N' l1 l2 htk'; (try k_lt l1); (try k_lt2 l2); (try k_sweep); (try dsimp only); (try k_fold)))

local macro_rules | `(tactic| lcg_off) => `(tactic| ((simp only [LCg.Off3, and_true]); assumption))
local macro_rules | `(tactic| k_ne) => `(tactic| ((try dsimp only); assumption))

set_option maxHeartbeats 8000000 in
theorem law_is {w : World} {news : List (Addr × Obj)} {tl dl : Addr} {ta tb tm ts : Tok} {mean spread : Int} {mea : ExcName → Option Value} {mg mb : Str → Option Value} {dp un : Nat} {gd : Option (List Code)} {cn : Str} {nms : List (Str × NameKind)} {ig ic : Bool} {mr : List (Str × Const)} {a : Addr} {ccd : Value} {cl : List (Str × Addr)} {outer : List Env} {A₀ : Around} {base h₀ : Heap} {L : Addr} {m : Str → Option Value} {s : Shared} {Q E : Value → Shared → Prop}
    (hm1 : -2147483648 < mean) (hm2 : mean < 2147483648) (hs0 : 0 ≤ spread) (hs1 : spread < 67108864) (hta : @LE.le Nat _ 1 ta) (htb : @LE.le Nat _ 1 tb)
    (hm : (tl, ndObj dl (dy 1054 mean) (dy 1054 spread) ta tb) ∈ news) (hdd : (dl, dictOf [] 0) ∈ news)
    (B : Below A₀ base outer h₀) (F : Fr h₀ L s.heap m) (X : (seed.heap_39 w.params).In h₀) (N : News h₀ L s.heap news)
    (T : Top vw (looseW vw [Str.ofString "NormalDist"]) mea mg mb h₀) (hdp : dp + 20 < recursionLimit) (hun : un + 128 < cLine)
    (hret : ∀ h' tk', Fr h₀ L h' m → News h₀ L h' news → 1 ≤ tk' → Q (.bool true) { s with heap := h', toks := tk' }) :
    wpAny (model PySem.Challenge.rw_io0019_02.row.prog w) (ktrTop dp un gd cn ⟨.function, nms, ig, ic, mr⟩ L a ccd cl outer) (call (.ref 279) [.ref tl, .int mean tm, .int spread ts]) Q E s := by
  revert X; k_fill; intro X
  obtain ⟨rest, hrest⟩ : ∃ rest, rest = news.filter (fun p => decide (p.1 ≠ tl) && decide (p.1 ≠ dl)) := ⟨_, rfl⟩
  have hsub : ∀ p ∈ rest, p ∈ news ∧ p.1 ≠ tl ∧ p.1 ≠ dl := by
    intro p hp
    rw [hrest] at hp
    simpa using List.mem_filter.mp hp
  have hback : ∀ p ∈ news, p ∈ rest ∨ p = (tl, ndObj dl (dy 1054 mean) (dy 1054 spread) ta tb) ∨ p = (dl, dictOf [] 0) := by
    intro p hp
    by_cases h1 : p.1 = tl
    · refine .inr (.inl ?_)
      have e := (N p hp).1
      rw [h1, (N _ hm).1] at e
      exact Prod.ext h1 (Option.some.inj e).symm
    · by_cases h2 : p.1 = dl
      · refine .inr (.inr ?_)
        have e := (N p hp).1
        rw [h2, (N _ hdd).1] at e
        exact Prod.ext h2 (Option.some.inj e).symm
      · refine .inl ?_
        rw [hrest]
        exact List.mem_filter.mpr ⟨hp, by simp [h1, h2]⟩
  have NR : News h₀ L s.heap rest := fun p hp => N p (hsub p hp).1
  have NN : News h₀ L s.heap ((tl, ndObj dl (dy 1054 mean) (dy 1054 spread) ta tb) :: (dl, dictOf [] 0) :: rest) := fun p hp => by
    rcases List.mem_cons.mp hp with rfl | hp
    · exact N _ hm
    · rcases List.mem_cons.mp hp with rfl | hp
      · exact N _ hdd
      · exact NR p hp
  have hfin : ∀ h' tk', Fr h₀ L h' m → News h₀ L h' [(tl, ndObj dl (dy 1054 mean) (dy 1054 spread) ta tb), (dl, dictOf [] 0)] → News h₀ L h' rest → 1 ≤ tk' → Q (.bool true) { s with heap := h', toks := tk' } := by
    intro h' tk' F' N1 N2 htk'
    refine hret h' tk' F' (fun p hp => ?_) htk'
    rcases hback p hp with h | rfl | rfl
    · exact N2 p h
    · exact N1 _ (.head _)
    · exact N1 _ (.tail _ (.head _))
  have hne : dl ≠ tl := by
    intro e
    have h1 := (N _ hm).1
    rw [← e, (N _ hdd).1] at h1
    have h2 := congrArg Obj.cls (Option.some.inj h1)
    cases h2
  clear N hm hdd hret hback hrest
  refine wpAny_call ?_
  k_dflt (refine' code_defC ?k1 ?k2 ?k3 ?k4 ?k5 ?kA ?kF ?kK ?k6 ?k7 ?k8 ?k9 ?kB ?kD ?_ ?c2 ?c3 ?c4; (case kA => exact rfl); (case kF => exact rfl); (case kK => exact rfl); (case k1 => exact B); (case k2 => exact F); (case k3 => exact X); (case k4 => exact NN); (case k5 => exact T); (case k6 => k_is); (case k7 => k_is); (case k8 => k_room); (case k9 => exact BindsTo.of_eq rfl); (case kB => exact rfl); (case kD => decide +kernel); (case c2 => exact rfl); (case c3 => exact rfl); (case c4 => exact rfl); k_whole)
  intro g' L' h' tk' cells' FG' F' N' Y' B' X' T' l1
  obtain ⟨o1, hE, d1⟩ := CellsAre.one Y'
  subst hE
  have NA : News g' L' h' [(L' + 1, o1), (tl, ndObj dl (dy 1054 mean) (dy 1054 spread) ta tb), (dl, dictOf [] 0)] := fun p hp => by
    rcases List.mem_cons.mp hp with rfl | hp
    · exact N' _ (.head _)
    · rcases List.mem_cons.mp hp with rfl | hp
      · exact N' _ (.tail _ (.head _))
      · rw [List.mem_singleton.mp hp]; exact N' _ (.tail _ (.tail _ (.head _)))
  have NB : News g' L' h' rest := fun p hp => N' p (.tail _ (.tail _ (.tail _ hp)))
  have lr : ∀ p ∈ rest, p.1 < L' := fun p hp => l1 p (.tail _ (.tail _ hp))
  have l2 : @LT.lt Nat _ tl L' := l1 _ (.head _)
  have l3 : @LT.lt Nat _ dl L' := l1 _ (.tail _ (.head _))
  have l4 : @Ne Nat dl tl := hne
  refine walk_sub [(L' + 1, o1), (tl, ndObj dl (dy 1054 mean) (dy 1054 spread) ta tb), (dl, dictOf [] 0)] rest F' NA NB ?_ lr ?_
  · intro p hp hq
    have h1 := hsub p hp
    have h2 := lr p hp
    simp only [List.map_cons, List.map_nil, List.mem_cons, List.not_mem_nil, or_false] at hq
    rcases hq with e | e | e
    · rw [e] at h2; exact absurd h2 (by simp)
    · exact h1.2.1 e
    · exact h1.2.2 e
  intro g2 st F2 N2
  have B2 := below_up B' st
  have X2 := X'.keeps st
  have T2 := T'.keeps st
  clear B' X' T' F' N' NA NB FG' B F X T NN NR Y' l1 lr
  dsimp only at F2 N2
  (try dsimp only)
  k_unmd
  k_fold
  k_steps
  refine leaveK_ (by assumption) (by assumption) (fun kF kN NR2 => ?_)
  refine hfin _ _ kF (fun p hp => ?_) NR2 (by omega)
  rcases List.mem_cons.mp hp with rfl | hp
  · exact kN _ (by k_mem)
  · rw [List.mem_singleton.mp hp]
    exact kN _ (by k_mem)
end Mine
end

section
open PySem PySem.W PyProof.Rows PySem.Calls
set_option Elab.async false
set_option pp.deepTerms false
set_option pp.maxSteps 3000
set_option maxRecDepth 100000
namespace Mine
local macro_rules | `(tactic| k_room) => `(tactic| ktr_room)
local macro_rules | `(tactic| k_units) => `(tactic| ktr_units)
local macro_rules | `(tactic| k_all) => `(tactic| (refine' all_ne ?h ?k; (case h => assumption); (case k => omega)))
local macro_rules | `(tactic| walk_at "binaryOp Pow int int") => `(tactic| first
  | (with_reducible refine pow_20 ?_) | (with_reducible refine pow_30 ?_) | (with_reducible refine pow_40 ?_) | (with_reducible refine pow_600 ?_) | (with_reducible refine pow_21 ?_) | (with_reducible refine pow_18 ?_) | (with_reducible refine pow_16 ?_)
  | (refine' pow_sq ?h0 ?h1 ?_; (case h0 => omega); (case h1 => omega)))
local macro_rules | `(tactic| walk_at "binaryOp Div int int") => `(tactic| first
  | (refine' div_20 ?d ?n ?_; (case d => decide); (case n => omega))
  | (refine' div_30 ?d ?n ?_; (case d => decide); (case n => omega))
  | (refine' div_40 ?d ?m ?h0 ?n ?_; (case d => decide); (case m => rfl); (case h0 => omega); (case n => omega)))
local macro_rules | `(tactic| walk_at "binaryOp Mult float float") => `(tactic| (refine' mul_float_dy ?h0 ?h1 ?_; (case h0 => omega); (case h1 => omega)))
local macro_rules | `(tactic| walk_at "binaryOp Add float float") => `(tactic| (refine' add_float_off ?h0 ?_; (case h0 => omega)))

local macro_rules | `(tactic| walk_at "getAttr ref") => `(tactic| (k_here; k_dflt (refine' prop_slots ?k1 ?k2 ?k3 ?k4 ?k5 ?k6 ?k7 ?k8 ?k9 ?_; (case k1 => k_asm); (case k2 => k_asm); (case k3 => k_inst); (case k4 => k_is); (case k5 => k_is); (case k6 => k_is); (case k7 => k_is); (case k8 => k_is); (case k9 => k_is); k_whole; k_enter)))

local macro_rules | `(tactic| walk_at "execs cons") => `(tactic| ((with_reducible show wpAny _ _ _ _ _ (Shared.mk _ _ _ (_ + _) _)); refine' gen_toks ?h ?_; (case h => omega); intro tk' htk'))
local macro_rules | `(tactic| walk_at "execs nil") => `(tactic| ((with_reducible show wpAny _ _ _ _ _ (Shared.mk _ _ _ (_ + _) _)); refine' gen_toks ?h ?_; (case h => omega); intro tk' htk'))
local macro_rules | `(tactic| walk_at "compareOp NotEq ref ref") => `(tactic| (k_here; k_dflt (first
  | (refine' ne_nil ?l ?b ?u ?_; (case l => is_list); (case b => is_list); (case u => ktr_units); k_whole)
  | (refine' ne_floats3K ?F ?X ?l ?b ?hb ?t1 ?t2 ?t3 ?u1 ?u2 ?u3 ?x ?y ?z ?u ?_; (case l => is_list); (case b => is_list); (case F => k_asm); (case X => k_asm); (case hb => k_is); (case t1 => first | exact Nat.succ_ne_zero _ | exact ne_of_one (by assumption) | omega); (case t2 => first | exact Nat.succ_ne_zero _ | exact ne_of_one (by assumption) | omega); (case t3 => first | exact Nat.succ_ne_zero _ | exact ne_of_one (by assumption) | omega); (case u1 => first | exact Nat.succ_ne_zero _ | exact ne_of_one (by assumption) | omega); (case u2 => first | exact Nat.succ_ne_zero _ | exact ne_of_one (by assumption) | omega); (case u3 => first | exact Nat.succ_ne_zero _ | exact ne_of_one (by assumption) | omega); (case x => exact cmp_self (by omega) (by decide) (by decide)); (case y => exact cmp_self (by omega) (by decide) (by decide)); (case z => exact cmp_self_sq (by omega) (by omega)); (case u => ktr_units); k_whole))))
local macro_rules | `(tactic| walk_at "compareOp Eq ref ref") => `(tactic| (k_here; k_dflt (refine' nd_eq ?m1 ?m2 ?m3 ?m4 ?h1 ?h2 ?k1 ?k2 ?k3 ?k4 ?k5 ?k6 ?k7 ?_; (case k1 => k_asm); (case k2 => k_asm); (case k3 => k_asm); (case k4 => k_asm); (case k5 => k_asm); (case m1 => k_mem); (case m2 => k_mem); (case m3 => k_mem); (case m4 => k_mem); (case h1 => (first | exact cmp_self (by omega) (by decide) (by decide) | exact (dy_off_ne (by omega)).1 | exact (dy_off_ne (by omega)).2)); (case h2 => (first | exact cmp_self (by omega) (by decide) (by decide) | exact (dy_off_ne (by omega)).1 | exact (dy_off_ne (by omega)).2)); (case k6 => ktr_room); (case k7 => ktr_units); k_whole); intro h' tk' F' N' htk'; (try k_sweep); (try dsimp only); (try k_fold)))
local macro_rules | `(tactic| walk_at "call ref") => `(tactic| (k_here; (with_reducible show wpAny _ _ (call (Value.ref 270) [Value.float _ _, Value.float _ _]) _ _ _); k_dflt (refine' nd_ff ?k0 ?k1 ?k2 ?k3 ?k4 ?k5 ?k6 ?k7 ?_; (case k1 => k_asm); (case k2 => k_asm); (case k3 => k_asm); (case k4 => k_asm); (case k5 => k_asm); (case k0 => exact dy_not_lt (by omega) (by omega) (by decide) (by decide)); (case k6 => ktr_room); (case k7 => ktr_units); k_whole); intro x' d' h' tk' F' N' l1 l2 htk'; (try k_lt l1); (try k_lt2 l2); (try k_sweep); (try dsimp only); (try k_fold)))

local macro_rules | `(tactic| lcg_off) => `(tactic| ((simp only [LCg.Off3, and_true]); assumption))
local macro_rules | `(tactic| k_ne) => `(tactic| ((try dsimp only); assumption))


local macro_rules | `(tactic| walk_at "call builtin:max") => `(tactic| (k_here; (with_unfolding_all refine' max_divs ?k1 ?k2 ?k3 ?k4 ?k5 ?k6 ?k7 ?k8 ?k9 ?_; (case k1 => k_asm); (case k2 => k_asm); (case k3 => kso_list); (case k4 => l_ints); (case k5 => omega); (case k6 => omega); (case k7 => assumption); (case k8 => assumption); (case k9 => with_unfolding_all rfl); k_whole); intro h' M' t' k' F' N' hM1 hM2 hMe hMp hMq; (try k_sweep)))

set_option maxHeartbeats 8000000 in
theorem legs {w : World} {news : List (Addr × Obj)} {ts tv : Tok} {spread v : Int} {mea : ExcName → Option Value} {mg mb : Str → Option Value} {dp un : Nat} {gd : Option (List Code)} {cn : Str} {nms : List (Str × NameKind)} {ig ic : Bool} {mr : List (Str × Const)} {a : Addr} {ccd : Value} {cl : List (Str × Addr)} {outer : List Env} {A₀ : Around} {base h₀ : Heap} {L : Addr} {m : Str → Option Value} {s : Shared} {Q E : Value → Shared → Prop}
    (hs0 : 0 ≤ spread) (hs1 : spread < 2097152) (hv0 : -65536 ≤ v) (hv1 : v < 65536)
    (B : Below A₀ base outer h₀) (F : Fr h₀ L s.heap m) (X : (seed.heap_39 w.params).In h₀) (N : News h₀ L s.heap news)
    (T : Top vw (looseW vw [Str.ofString "NormalDist"]) mea mg mb h₀) (hdp : dp + 20 < recursionLimit) (hun : un + 128 < cLine)
    (hret : ∀ (D : Addr) (b l : Int) (t1 t2 : Tok) (h' : Heap) (tk' : Nat), 0 ≤ b → b < 33554432 → 0 ≤ l → l < 33554432 → spread * spread + b * b = l * l → Fr h₀ L h' m → News h₀ L h' ((D, ({ cls := .type "tuple", data := .seq #[.int b t1, .int l t2] } : Obj)) :: news) → (∀ p ∈ news, p.1 < D) → Q (.ref D) { s with heap := h', toks := tk' }) :
    wpAny (model PySem.Challenge.rw_io0019_02.row.prog w) (ktrTop dp un gd cn ⟨.function, nms, ig, ic, mr⟩ L a ccd cl outer) (call (.ref 284) [.int spread ts, .int v tv]) Q E s := by
  revert X; k_fill; intro X
  refine wpAny_call ?_
  k_dflt (refine' code_defC ?k1 ?k2 ?k3 ?k4 ?k5 ?kA ?kF ?kK ?k6 ?k7 ?k8 ?k9 ?kB ?kD ?_ ?c2 ?c3 ?c4; (case kA => exact rfl); (case kF => exact rfl); (case kK => exact rfl); (case k1 => exact B); (case k2 => exact F); (case k3 => exact X); (case k4 => exact N); (case k5 => exact T); (case k6 => k_is); (case k7 => k_is); (case k8 => k_room); (case k9 => exact BindsTo.of_eq rfl); (case kB => exact rfl); (case kD => decide +kernel); (case c2 => exact rfl); (case c3 => exact rfl); (case c4 => exact rfl); k_whole)
  intro g' L' h' tk' cells' FG' F' N' Y' B' X' T' l1
  obtain ⟨o1, hE, d1⟩ := CellsAre.one Y'
  subst hE
  refine walk_sub [(L' + 1, o1)] news F' (fun p hp => ?_) (fun p hp => N' p (.tail _ hp)) (fun p hp hq => ?_) l1 ?_
  · rw [List.mem_singleton.mp hp]; exact N' _ (.head _)
  · have h2 := l1 p hp
    simp only [List.map_cons, List.map_nil, List.mem_cons, List.not_mem_nil, or_false] at hq
    rw [hq] at h2; exact absurd h2 (by simp)
  intro g2 st F2 N2
  have B2 := below_up B' st
  have X2 := X'.keeps st
  have T2 := T'.keeps st
  clear B' X' T' F' N' FG' B F X T N Y'
  dsimp only at F2 N2
  (try dsimp only)
  k_unmd
  k_fold
  k_steps
  all_goals (try dsimp only)
  all_goals (refine leaveK_ (by assumption) (by assumption) (fun kF kN NR2 => ?_))
  all_goals (have hN := news_head kN NR2)
  all_goals (have hD : ∀ p ∈ news, p.1 < L' := l1)
  all_goals first
    | (rename _ * Int.fdiv spread _ = spread => hMe
       rename Int.fmod _ 2 = 1 => hM
       obtain ⟨q1, q2, q3, q4, q5⟩ := legs_odd (he := hMe) (hM := hM) (by assumption) (by assumption) (by assumption) hs1
       exact hret _ _ _ _ _ _ _ q1 q2 q3 q4 q5 kF hN (fun p hp => Nat.lt_trans (hD p hp) (by omega)))
    | (rename _ * Int.fdiv spread _ = spread => hMe
       rename ¬ Int.fmod _ 2 = 1 => hM
       obtain ⟨q1, q2, q3, q4, q5⟩ := legs_even (he := hMe) (hM := hM) (by assumption) (by assumption) (by assumption) hs1
       exact hret _ _ _ _ _ _ _ q1 q2 q3 q4 q5 kF hN (fun p hp => Nat.lt_trans (hD p hp) (by omega)))
    | (have e0 : spread = 0 := by assumption
       have f1 : 0 ≤ v.fmod 1024 := Int.fmod_nonneg_of_pos _ (by decide)
       have f2 : v.fmod 1024 < 1024 := Int.fmod_lt_of_pos _ (by decide)
       exact hret _ _ _ _ _ _ _ f1 (by omega) f1 (by omega) (by rw [e0, Int.zero_mul, Int.zero_add]) kF hN (fun p hp => Nat.lt_trans (hD p hp) (by omega)))
    | skip

end Mine
end

section
open PySem PySem.W PyProof.Rows PySem.Calls
set_option Elab.async false
set_option pp.deepTerms false
set_option pp.maxSteps 3000
set_option maxRecDepth 100000
namespace Mine
local macro_rules | `(tactic| k_room) => `(tactic| ktr_room)
local macro_rules | `(tactic| k_units) => `(tactic| ktr_units)
local macro_rules | `(tactic| k_all) => `(tactic| (refine' all_ne ?h ?k; (case h => assumption); (case k => omega)))
local macro_rules | `(tactic| walk_at "execs cons") => `(tactic| ((with_reducible show wpAny _ _ _ _ _ (Shared.mk _ _ _ (_ + _) _)); refine' gen_toks ?h ?_; (case h => omega); intro tk' htk'))
local macro_rules | `(tactic| walk_at "execs nil") => `(tactic| ((with_reducible show wpAny _ _ _ _ _ (Shared.mk _ _ _ (_ + _) _)); refine' gen_toks ?h ?_; (case h => omega); intro tk' htk'))
local macro_rules | `(tactic| walk_at "call builtin:isinstance") => `(tactic| (k_here; k_dflt (refine' isi_call ?k1 ?k2 ?k3 ?k4 ?_; (case k1 => k_in); (case k2 => k_types); (case k3 => k_is); (case k4 => intro e; cases e); k_whole)))
local macro_rules | `(tactic| walk_at "call builtin:math.hypot") => `(tactic| (refine' hypot_dy ?k1 ?k2 ?k3 ?k4 ?k5 ?k6 ?k7 ?k8 ?_; (case k6 => assumption); (case k1 => assumption); (case k2 => assumption); (case k3 => assumption); (case k4 => omega); (case k5 => omega); (case k7 => assumption); (case k8 => assumption)))
local macro_rules | `(tactic| walk_at "binaryOp Add float float") => `(tactic| (refine' add_float_dy ?k1 ?k2 ?k3 ?k4 ?_; (case k1 => omega); (case k2 => omega); (case k3 => omega); (case k4 => omega)))
local macro_rules | `(tactic| walk_at "binaryOp Sub float float") => `(tactic| (refine' sub_float_dy ?k1 ?k2 ?k3 ?k4 ?_; (case k1 => omega); (case k2 => omega); (case k3 => omega); (case k4 => omega)))
local macro_rules | `(tactic| walk_at "call ref") => `(tactic| (k_here; (with_reducible show wpAny _ _ (call (Value.ref 270) [Value.float _ _, Value.float _ _]) _ _ _); k_dflt (refine' nd_ff ?k0 ?k1 ?k2 ?k3 ?k4 ?k5 ?k6 ?k7 ?_; (case k1 => k_asm); (case k2 => k_asm); (case k3 => k_asm); (case k4 => k_asm); (case k5 => k_asm); (case k0 => exact dy_not_lt (by omega) (by omega) (by omega) (by omega)); (case k6 => ktr_room); (case k7 => ktr_units); k_whole); intro x' d' h' tk' F' N' l1 l2 htk'; (try k_sweep); (try dsimp only); (try k_fold)))

set_option maxHeartbeats 8000000 in
theorem nd_add {w : World} {news : List (Addr × Obj)} {mea : ExcName → Option Value} {mg mb : Str → Option Value} {dp un : Nat} {gd : Option (List Code)} {cn : Str} {nms : List (Str × NameKind)} {ig ic : Bool} {mr : List (Str × Const)} {a : Addr} {ccd : Value} {cl : List (Str × Addr)} {outer : List Env} {A₀ : Around} {base h₀ : Heap} {L : Addr} {m : Str → Option Value} {s : Shared} {Q E : Value → Shared → Prop}
    {x y dx dy' : Addr} {c : Nat} {a1 a2 s1 s2 r : Int} {t1 t2 t3 t4 : Tok} (ha1 : -1099511627776 < a1) (ha2 : a1 < 1099511627776) (hb1 : -1099511627776 < a2) (hb2 : a2 < 1099511627776)
    (hs0 : 0 ≤ s1) (hs1 : s1 < 33554432) (hs2 : 0 ≤ s2) (hs3 : s2 < 33554432) (hr0 : 0 ≤ r) (hr1 : r < 67108864) (hrr : s1 * s1 + s2 * s2 = r * r) (hc1 : 1000 ≤ c) (hc2 : c ≤ 1700)
    (hx : (x, ndObj dx (dy c a1) (dy c s1) t1 t2) ∈ news) (hdx : (dx, dictOf [] 0) ∈ news) (hy : (y, ndObj dy' (dy c a2) (dy c s2) t3 t4) ∈ news) (hdy : (dy', dictOf [] 0) ∈ news)
    (B : Below A₀ base outer h₀) (F : Fr h₀ L s.heap m) (X : (seed.heap_39 w.params).In h₀) (N : News h₀ L s.heap news)
    (T : Top vw (looseW vw [Str.ofString "NormalDist"]) mea mg mb h₀) (hdp : dp + 20 < recursionLimit) (hun : un + 128 < cLine)
    (h : ∀ z d u1 u2 h' tk', Fr h₀ L h' m → News h₀ L h' ((z, ndObj d (dy c (a1 + a2)) (dy c r) u1 u2) :: (d, dictOf [] 0) :: news) → (∀ p ∈ news, p.1 < d) → @LT.lt Nat _ d z → @LE.le Nat _ 1 u1 → @LE.le Nat _ 1 u2 → 1 ≤ tk' → Q (.ref z) { s with heap := h', toks := tk' }) :
    wpAny (model PySem.Challenge.rw_io0019_02.row.prog w) (ktrTop dp un gd cn ⟨.function, nms, ig, ic, mr⟩ L a ccd cl outer) (binaryOp .Add (.ref x) (.ref y)) Q E s := by
  revert X; k_fill; intro X
  have N2 : News h₀ L s.heap ((x, ndObj dx (dy c a1) (dy c s1) t1 t2) :: (dx, dictOf [] 0) :: (y, ndObj dy' (dy c a2) (dy c s2) t3 t4) :: (dy', dictOf [] 0) :: news) := fun p hp => by
    rcases List.mem_cons.mp hp with rfl | hp
    · exact N _ hx
    rcases List.mem_cons.mp hp with rfl | hp
    · exact N _ hdx
    rcases List.mem_cons.mp hp with rfl | hp
    · exact N _ hy
    rcases List.mem_cons.mp hp with rfl | hp
    · exact N _ hdy
    · exact N p hp
  clear N hx hdx hy hdy
  replace h : ∀ z d u1 u2 h' tk', Fr h₀ L h' m → News h₀ L h' ((z, ndObj d (dy c (a1 + a2)) (dy c r) u1 u2) :: (d, dictOf [] 0) :: (x, ndObj dx (dy c a1) (dy c s1) t1 t2) :: (dx, dictOf [] 0) :: (y, ndObj dy' (dy c a2) (dy c s2) t3 t4) :: (dy', dictOf [] 0) :: news) → (∀ p ∈ (x, ndObj dx (dy c a1) (dy c s1) t1 t2) :: (dx, dictOf [] 0) :: (y, ndObj dy' (dy c a2) (dy c s2) t3 t4) :: (dy', dictOf [] 0) :: news, p.1 < d) → @LT.lt Nat _ d z → @LE.le Nat _ 1 u1 → @LE.le Nat _ 1 u2 → 1 ≤ tk' → Q (.ref z) { s with heap := h', toks := tk' } := by
    intro z d u1 u2 h' tk' F' N' hd1 hd2 hu1 hu2 htk
    refine h z d u1 u2 h' tk' F' ?_ (fun p hp => hd1 p (List.mem_cons_of_mem _ (List.mem_cons_of_mem _ (List.mem_cons_of_mem _ (List.mem_cons_of_mem _ hp))))) hd2 hu1 hu2 htk
    intro p hp
    rcases List.mem_cons.mp hp with rfl | hp
    · exact N' _ (List.mem_cons_self ..)
    rcases List.mem_cons.mp hp with rfl | hp
    · exact N' _ (List.mem_cons_of_mem _ (List.mem_cons_self ..))
    · exact N' p (List.mem_cons_of_mem _ (List.mem_cons_of_mem _ (List.mem_cons_of_mem _ (List.mem_cons_of_mem _ (List.mem_cons_of_mem _ (List.mem_cons_of_mem _ hp))))))
  k_steps
  exact h _ _ _ _ _ _ (by assumption) (by assumption) (by assumption) (by assumption) (by omega) (by omega) (by omega)

set_option maxHeartbeats 8000000 in
theorem nd_sub {w : World} {news : List (Addr × Obj)} {mea : ExcName → Option Value} {mg mb : Str → Option Value} {dp un : Nat} {gd : Option (List Code)} {cn : Str} {nms : List (Str × NameKind)} {ig ic : Bool} {mr : List (Str × Const)} {a : Addr} {ccd : Value} {cl : List (Str × Addr)} {outer : List Env} {A₀ : Around} {base h₀ : Heap} {L : Addr} {m : Str → Option Value} {s : Shared} {Q E : Value → Shared → Prop}
    {x y dx dy' : Addr} {c : Nat} {a1 a2 s1 s2 r : Int} {t1 t2 t3 t4 : Tok} (ha1 : -1099511627776 < a1) (ha2 : a1 < 1099511627776) (hb1 : -1099511627776 < a2) (hb2 : a2 < 1099511627776)
    (hs0 : 0 ≤ s1) (hs1 : s1 < 33554432) (hs2 : 0 ≤ s2) (hs3 : s2 < 33554432) (hr0 : 0 ≤ r) (hr1 : r < 67108864) (hrr : s1 * s1 + s2 * s2 = r * r) (hc1 : 1000 ≤ c) (hc2 : c ≤ 1700)
    (hx : (x, ndObj dx (dy c a1) (dy c s1) t1 t2) ∈ news) (hdx : (dx, dictOf [] 0) ∈ news) (hy : (y, ndObj dy' (dy c a2) (dy c s2) t3 t4) ∈ news) (hdy : (dy', dictOf [] 0) ∈ news)
    (B : Below A₀ base outer h₀) (F : Fr h₀ L s.heap m) (X : (seed.heap_39 w.params).In h₀) (N : News h₀ L s.heap news)
    (T : Top vw (looseW vw [Str.ofString "NormalDist"]) mea mg mb h₀) (hdp : dp + 20 < recursionLimit) (hun : un + 128 < cLine)
    (h : ∀ z d u1 u2 h' tk', Fr h₀ L h' m → News h₀ L h' ((z, ndObj d (dy c (a1 - a2)) (dy c r) u1 u2) :: (d, dictOf [] 0) :: news) → (∀ p ∈ news, p.1 < d) → @LT.lt Nat _ d z → @LE.le Nat _ 1 u1 → @LE.le Nat _ 1 u2 → 1 ≤ tk' → Q (.ref z) { s with heap := h', toks := tk' }) :
    wpAny (model PySem.Challenge.rw_io0019_02.row.prog w) (ktrTop dp un gd cn ⟨.function, nms, ig, ic, mr⟩ L a ccd cl outer) (binaryOp .Sub (.ref x) (.ref y)) Q E s := by
  revert X; k_fill; intro X
  have N2 : News h₀ L s.heap ((x, ndObj dx (dy c a1) (dy c s1) t1 t2) :: (dx, dictOf [] 0) :: (y, ndObj dy' (dy c a2) (dy c s2) t3 t4) :: (dy', dictOf [] 0) :: news) := fun p hp => by
    rcases List.mem_cons.mp hp with rfl | hp
    · exact N _ hx
    rcases List.mem_cons.mp hp with rfl | hp
    · exact N _ hdx
    rcases List.mem_cons.mp hp with rfl | hp
    · exact N _ hy
    rcases List.mem_cons.mp hp with rfl | hp
    · exact N _ hdy
    · exact N p hp
  clear N hx hdx hy hdy
  replace h : ∀ z d u1 u2 h' tk', Fr h₀ L h' m → News h₀ L h' ((z, ndObj d (dy c (a1 - a2)) (dy c r) u1 u2) :: (d, dictOf [] 0) :: (x, ndObj dx (dy c a1) (dy c s1) t1 t2) :: (dx, dictOf [] 0) :: (y, ndObj dy' (dy c a2) (dy c s2) t3 t4) :: (dy', dictOf [] 0) :: news) → (∀ p ∈ (x, ndObj dx (dy c a1) (dy c s1) t1 t2) :: (dx, dictOf [] 0) :: (y, ndObj dy' (dy c a2) (dy c s2) t3 t4) :: (dy', dictOf [] 0) :: news, p.1 < d) → @LT.lt Nat _ d z → @LE.le Nat _ 1 u1 → @LE.le Nat _ 1 u2 → 1 ≤ tk' → Q (.ref z) { s with heap := h', toks := tk' } := by
    intro z d u1 u2 h' tk' F' N' hd1 hd2 hu1 hu2 htk
    refine h z d u1 u2 h' tk' F' ?_ (fun p hp => hd1 p (List.mem_cons_of_mem _ (List.mem_cons_of_mem _ (List.mem_cons_of_mem _ (List.mem_cons_of_mem _ hp))))) hd2 hu1 hu2 htk
    intro p hp
    rcases List.mem_cons.mp hp with rfl | hp
    · exact N' _ (List.mem_cons_self ..)
    rcases List.mem_cons.mp hp with rfl | hp
    · exact N' _ (List.mem_cons_of_mem _ (List.mem_cons_self ..))
    · exact N' p (List.mem_cons_of_mem _ (List.mem_cons_of_mem _ (List.mem_cons_of_mem _ (List.mem_cons_of_mem _ (List.mem_cons_of_mem _ (List.mem_cons_of_mem _ hp))))))
  k_steps
  exact h _ _ _ _ _ _ (by assumption) (by assumption) (by assumption) (by assumption) (by omega) (by omega) (by omega)
end Mine
end

section
open PySem PySem.W PyProof.Rows PySem.Calls
set_option Elab.async false
set_option pp.deepTerms false
set_option pp.maxSteps 3000
set_option maxRecDepth 100000
namespace Mine
local macro_rules | `(tactic| k_all) => `(tactic| (refine' all_ne ?h ?k; (case h => assumption); (case k => omega)))
local macro_rules | `(tactic| k_room) => `(tactic| ktr_room)
local macro_rules | `(tactic| k_units) => `(tactic| ktr_units)
local macro_rules | `(tactic| walk_at "execs cons") => `(tactic| ((with_reducible show wpAny _ _ _ _ _ (Shared.mk _ _ _ (_ + _) _)); refine' gen_toks ?h ?_; (case h => omega); intro tk' htk'))
local macro_rules | `(tactic| walk_at "execs nil") => `(tactic| ((with_reducible show wpAny _ _ _ _ _ (Shared.mk _ _ _ (_ + _) _)); refine' gen_toks ?h ?_; (case h => omega); intro tk' htk'))
local macro_rules | `(tactic| walk_at "compareOp Lt int float") => `(tactic| (refine' lt_zero_int ?h ?_; (case h => assumption)))
local macro_rules | `(tactic| walk_at "call type:float") => `(tactic| first | (refine' float_big ?h ?_; (case h => assumption)) | (refine' float_nought (c := 1674) ?h1 ?h2 ?_; (case h1 => decide); (case h2 => decide)))

set_option maxHeartbeats 8000000 in
theorem nd_big {w : World} {news : List (Addr × Obj)} {t1 t2 : Tok} {mea : ExcName → Option Value} {mg mb : Str → Option Value} {dp un : Nat} {gd : Option (List Code)} {cn : Str} {nms : List (Str × NameKind)} {ig ic : Bool} {mr : List (Str × Const)} {a : Addr} {ccd : Value} {cl : List (Str × Addr)} {outer : List Env} {A₀ : Around} {base h₀ : Heap} {L : Addr} {m : Str → Option Value} {s : Shared} {Q E : Value → Shared → Prop}
    {n : Int} (h0 : 0 ≤ n * 2 ^ 600) (hn : n.natAbs < 2 ^ 53) (B : Below A₀ base outer h₀) (F : Fr h₀ L s.heap m) (X : (seed.heap_39 w.params).In h₀) (N : News h₀ L s.heap news)
    (T : Top vw (looseW vw [Str.ofString "NormalDist"]) mea mg mb h₀) (hdp : dp + 8 < recursionLimit) (hun : un + 64 < cLine)
    (h : ∀ x d u1 u2 h' tk', Fr h₀ L h' m → News h₀ L h' ((x, ndObj d (dy 1674 0) (dy 1674 n) u1 u2) :: (d, dictOf [] 0) :: news) → (∀ p ∈ news, p.1 < d) → @LT.lt Nat _ d x → @LE.le Nat _ 1 u1 → @LE.le Nat _ 1 u2 → 1 ≤ tk' → Q (.ref x) { s with heap := h', toks := tk' }) :
    wpAny (model PySem.Challenge.rw_io0019_02.row.prog w) (ktrTop dp un gd cn ⟨.function, nms, ig, ic, mr⟩ L a ccd cl outer) (call (.ref 270) [.int 0 t1, .int (n * 2 ^ 600) t2]) Q E s := by
  revert X; k_fill; intro X
  k_steps
  exact h _ _ _ _ _ _ (by assumption) (by assumption) (by assumption) (by assumption) (by first | assumption | (dsimp only; omega)) (by first | assumption | (dsimp only; omega)) (by omega)

local macro_rules | `(tactic| walk_at "call type:float") => `(tactic| (refine' float_nought (c := 1054) ?h1 ?h2 ?_; (case h1 => decide); (case h2 => decide)))
local macro_rules | `(tactic| walk_at "compareOp Lt int float") => `(tactic| (refine' lt_zero_int ?h ?_; (case h => decide)))
set_option maxHeartbeats 8000000 in
theorem nd_00 {w : World} {news : List (Addr × Obj)} {t1 t2 : Tok} {mea : ExcName → Option Value} {mg mb : Str → Option Value} {dp un : Nat} {gd : Option (List Code)} {cn : Str} {nms : List (Str × NameKind)} {ig ic : Bool} {mr : List (Str × Const)} {a : Addr} {ccd : Value} {cl : List (Str × Addr)} {outer : List Env} {A₀ : Around} {base h₀ : Heap} {L : Addr} {m : Str → Option Value} {s : Shared} {Q E : Value → Shared → Prop}
    (B : Below A₀ base outer h₀) (F : Fr h₀ L s.heap m) (X : (seed.heap_39 w.params).In h₀) (N : News h₀ L s.heap news)
    (T : Top vw (looseW vw [Str.ofString "NormalDist"]) mea mg mb h₀) (hdp : dp + 8 < recursionLimit) (hun : un + 64 < cLine)
    (h : ∀ x d u1 u2 h' tk', Fr h₀ L h' m → News h₀ L h' ((x, ndObj d (dy 1054 0) (dy 1054 0) u1 u2) :: (d, dictOf [] 0) :: news) → (∀ p ∈ news, p.1 < d) → @LT.lt Nat _ d x → @LE.le Nat _ 1 u1 → @LE.le Nat _ 1 u2 → 1 ≤ tk' → Q (.ref x) { s with heap := h', toks := tk' }) :
    wpAny (model PySem.Challenge.rw_io0019_02.row.prog w) (ktrTop dp un gd cn ⟨.function, nms, ig, ic, mr⟩ L a ccd cl outer) (call (.ref 270) [.int 0 t1, .int 0 t2]) Q E s := by
  revert X; k_fill; intro X
  k_steps
  exact h _ _ _ _ _ _ (by assumption) (by assumption) (by assumption) (by assumption) (by first | assumption | (dsimp only; omega)) (by first | assumption | (dsimp only; omega)) (by omega)

end Mine
end

section
open PySem PySem.W PyProof.Rows PySem.Calls
set_option Elab.async false
set_option pp.deepTerms false
set_option pp.maxSteps 3000
set_option maxRecDepth 100000
namespace Mine
def TurnPost (h₀ : Heap) (L : Addr) (k : Int) (p q : Addr × Obj) (s₁ : Shared) (f : Flow) (s₂ : Shared) : Prop :=
  f = .next ∧ ∃ (h' : Heap) (tk : Nat) (mean spread : Int) (tm ts v1 v2 : Tok) (x d : Addr) (m : Str → Option Value), s₂ = { s₁ with heap := h', toks := tk } ∧ -(k + 65536) ≤ mean ∧ mean ≤ k + 65536 ∧ 0 ≤ spread ∧ spread < 2097152 ∧ @LE.le Nat _ 1 v1 ∧ @LE.le Nat _ 1 v2 ∧
    m "told" = some (.ref x) ∧ m "mean" = some (.int mean tm) ∧ m "spread" = some (.int spread ts) ∧ Fr h₀ L h' m ∧ News h₀ L h' [(x, ndObj d (dy 1054 mean) (dy 1054 spread) v1 v2), (d, dictOf [] 0), p, q]

theorem TurnPost.intro {h₀ : Heap} {L : Addr} {k : Int} {p q : Addr × Obj} {s₁ : Shared} {h' : Heap} {tk : Nat} {mean spread : Int} {tm ts v1 v2 : Tok} {x d : Addr} {m : Str → Option Value} {news : List (Addr × Obj)}
    (F : Fr h₀ L h' m) (N : News h₀ L h' news) (h1 : -(k + 65536) ≤ mean) (h2 : mean ≤ k + 65536) (h3 : 0 ≤ spread) (h4 : spread < 2097152) (h5 : @LE.le Nat _ 1 v1) (h6 : @LE.le Nat _ 1 v2)
    (m1 : m "told" = some (.ref x)) (m2 : m "mean" = some (.int mean tm)) (m3 : m "spread" = some (.int spread ts))
    (n1 : (x, ndObj d (dy 1054 mean) (dy 1054 spread) v1 v2) ∈ news) (n2 : (d, dictOf [] 0) ∈ news) (n3 : p ∈ news) (n4 : q ∈ news) : TurnPost h₀ L k p q s₁ .next { s₁ with heap := h', toks := tk } :=
  ⟨rfl, h', tk, mean, spread, tm, ts, v1, v2, x, d, m, rfl, h1, h2, h3, h4, h5, h6, m1, m2, m3, F, fun r hr => by
    rcases List.mem_cons.mp hr with rfl | hr
    · exact N _ n1
    rcases List.mem_cons.mp hr with rfl | hr
    · exact N _ n2
    rcases List.mem_cons.mp hr with rfl | hr
    · exact N _ n3
    rcases List.mem_cons.mp hr with rfl | hr
    · exact N _ n4
    · cases hr⟩

theorem loop_told {prog : Program} {w : World} {A : Around} {E : Value → Shared → Prop} {s : Shared} {env : Env} {h₀ : Heap} {body : List Stmt} {Q : Flow → Shared → Prop} {l x0 d0 : Addr} {vs : List Value} {ns : List Int} {nn : Nat} {m₀ : Str → Option Value} {news : List (Addr × Obj)} {u1 u2 t1 t2 : Tok}
    (hh : A.handled = none) (hl : (l, listOf vs.toArray nn) ∈ news) (hi : IntsAre vs ns) (hlen : ns.length ≤ 17) (F : Fr h₀ env.locals s.heap m₀) (N : News h₀ env.locals s.heap news)
    (hx : (x0, ndObj d0 (dy 1054 0) (dy 1054 0) u1 u2) ∈ news) (hd : (d0, dictOf [] 0) ∈ news) (hu1 : @LE.le Nat _ 1 u1) (hu2 : @LE.le Nat _ 1 u2)
    (m1 : m₀ "told" = some (.ref x0)) (m2 : m₀ "mean" = some (.int 0 t1)) (m3 : m₀ "spread" = some (.int 0 t2))
    (turn : ∀ (k n mean spread : Int) (tz tm ts v1 v2 : Tok) (x d I : Addr) (oI : Obj) (u : Str → Option Value) (s₁ : Shared), 0 ≤ k → k ≤ 1048576 → -k ≤ mean → mean ≤ k → 0 ≤ spread → spread < 2097152 → @LE.le Nat _ 1 v1 → @LE.le Nat _ 1 v2 →
      Fr h₀ env.locals s₁.heap (fun (y : Str) => if y = "z" then some (.int n tz) else if y = "told" then some (.ref x) else if y = "mean" then some (.int mean tm) else if y = "spread" then some (.int spread ts) else u y) →
      News h₀ env.locals s₁.heap [(x, ndObj d (dy 1054 mean) (dy 1054 spread) v1 v2), (d, dictOf [] 0), (l, listOf vs.toArray nn), (I, oI)] →
      wpAny (model prog w) A (execs body env) (TurnPost h₀ env.locals k (l, listOf vs.toArray nn) (I, oI) s₁) (fun _ _ => False) s₁)
    (done : ∀ m₁ h tk, Fr h₀ env.locals h m₁ → News h₀ env.locals h [(l, listOf vs.toArray nn)] → Q .next { s with heap := h, toks := tk }) :
    wpAny (model prog w) A (pyIter (.ref l)) (fun it s₂ => LoopAtU prog w A h₀ env "z" body Q E it s₂) E s := by
  have hol : s.heap.get? l = some (listOf vs.toArray nn) := (N _ hl).1
  have hls : s.heap.IsList l vs.toArray := ⟨_, hol, rfl, nn, rfl⟩
  have hne : l ≠ s.heap.objs.size := Nat.ne_of_lt (Heap.lt_size hol)
  refine wpAny_pyIter_list hls ?_
  have W := Walks.list (prog := prog) (w := w) hh s.heap.objs.size l hne vs.toArray
  have hlen' : vs.toArray.size = ns.length := by simp [hi.length]
  rw [hlen'] at W
  refine ⟨_, _, _, ns.length, _, _, m₀, news, (fun (i : Nat) m nx => (l, listOf vs.toArray nn) ∈ nx ∧ ∃ (mean spread : Int) (tm ts v1 v2 : Tok) (x d : Addr), -((i : Int) * 65536) ≤ mean ∧ mean ≤ (i : Int) * 65536 ∧ 0 ≤ spread ∧ spread < 2097152 ∧ @LE.le Nat _ 1 v1 ∧ @LE.le Nat _ 1 v2 ∧
    m "told" = some (.ref x) ∧ m "mean" = some (.int mean tm) ∧ m "spread" = some (.int spread ts) ∧ (x, ndObj d (dy 1054 mean) (dy 1054 spread) v1 v2) ∈ nx ∧ (d, dictOf [] 0) ∈ nx), rfl, W, ?_, ?_, ?_, ⟨⟨_, Heap.get?_push_size _ rfl, rfl, rfl⟩, hls.at fun o e => Heap.get?_push_of_some _ e⟩, F.push _, (fun p hp => ⟨Heap.get?_push_of_some _ (N p hp).1, (N p hp).2⟩),
    ⟨hl, 0, 0, t1, t2, u1, u2, x0, d0, by decide, by decide, by decide, by decide, hu1, hu2, m1, m2, m3, hx, hd⟩, ?_, ?_⟩
  · intro hm
    rcases List.mem_cons.mp hm with e | hm
    · exact absurd F.ns.lt (e ▸ Nat.lt_irrefl _)
    · exact (N _ hl).2.1 ((List.mem_singleton.mp hm).symm)
  · intro b hb
    rw [List.mem_singleton.mp hb]
    exact next_is_new F
  · intro p hp hI
    exact absurd (Heap.lt_size (N p hp).1) ((List.mem_singleton.mp hI) ▸ Nat.lt_irrefl _)
  · rintro i v m₁ news₁ s₁ own hin hP ⟨hl₁, mean, spread, tm, ts, v1, v2, x, d, b1, b2, b3, b4, b5, b6, e1, e2, e3, n1, n2⟩ hoff hown hget hfp hSt F₁ N₁
    have hlt' : i < ns.length := hin
    obtain ⟨t, hxv⟩ := hi.get i ns[i] (by simp [hlt'])
    have hv : v = .int ns[i] t := by
      have hP' : vs[i]? = some v := by simpa using hP
      rw [hxv] at hP'; exact (Option.some.inj hP').symm
    subst hv
    obtain ⟨oI, hgI, hcI, hdI⟩ := hSt.1
    have hIo : (s.heap.objs.size, oI) ∈ own := hfp _ (List.mem_cons_self ..) (next_is_new F) oI hgI
    have hfun : (fun (y : Str) => if y = "z" then some (Value.int ns[i] t) else m₁ y) = fun (y : Str) => if y = "z" then some (.int ns[i] t) else if y = "told" then some (.ref x) else if y = "mean" then some (.int mean tm) else if y = "spread" then some (.int spread ts) else m₁ y := by
      funext y
      by_cases h0 : y = "z" <;> simp only [h0, if_true, if_false]
      by_cases h1 : y = "told" <;> simp only [h1, if_true, if_false, e1]
      by_cases h2 : y = "mean" <;> simp only [h2, if_true, if_false, e2]
      by_cases h3 : y = "spread" <;> simp only [h3, if_true, if_false, e3]
    rw [hfun] at F₁
    have N₂ : News h₀ env.locals s₁.heap [(x, ndObj d (dy 1054 mean) (dy 1054 spread) v1 v2), (d, dictOf [] 0), (l, listOf vs.toArray nn), (s.heap.objs.size, oI)] := fun r hr => by
      rcases List.mem_cons.mp hr with rfl | hr
      · exact N₁ _ (List.mem_append_right _ n1)
      rcases List.mem_cons.mp hr with rfl | hr
      · exact N₁ _ (List.mem_append_right _ n2)
      rcases List.mem_cons.mp hr with rfl | hr
      · exact N₁ _ (List.mem_append_right _ hl₁)
      rcases List.mem_cons.mp hr with rfl | hr
      · exact N₁ _ (List.mem_append_left _ hIo)
      · cases hr
    refine wpAny_mono (turn ((i : Int) * 65536) ns[i] mean spread t tm ts v1 v2 x d _ oI m₁ s₁ (by omega) (by omega) b1 b2 b3 b4 b5 b6 F₁ N₂) (fun f s₂ p => ?_) fun _ _ e => e.elim
    obtain ⟨rfl, h', tk, mean', spread', tm', ts', v1', v2', x', d', m', rfl, c1, c2, c3, c4, c5, c6, g1, g2, g3, F', N'⟩ := p
    have hx' := (N' _ (List.mem_cons_self ..)).1
    have hd' := (N' _ (List.mem_cons_of_mem _ (List.mem_cons_self ..))).1
    have hl' := N' _ (List.mem_cons_of_mem _ (List.mem_cons_of_mem _ (List.mem_cons_self ..)))
    have hI' := N' _ (List.mem_cons_of_mem _ (List.mem_cons_of_mem _ (List.mem_cons_of_mem _ (List.mem_cons_self ..))))
    have hlo : s₁.heap.get? l = some (listOf vs.toArray nn) := (N₁ _ (List.mem_append_right _ hl₁)).1
    have offI : ∀ (q : Addr) (o : Obj), h'.get? q = some o → o.data ≠ oI.data → q ≠ s.heap.objs.size := by
      rintro q o hq hne rfl
      rw [hI'.1] at hq
      exact hne (congrArg Obj.data (Option.some.inj hq)).symm
    refine LoopStepU.intro (news₂ := [(x', ndObj d' (dy 1054 mean') (dy 1054 spread') v1' v2'), (d', dictOf [] 0), (l, listOf vs.toArray nn)]) F' (fun p hp => ?_) (fun p hp => ?_) ⟨by simp, mean', spread', tm', ts', v1', v2', x', d', by push_cast; omega, by push_cast; omega, c3, c4, c5, c6, g1, g2, g3, by simp, by simp⟩
    · rcases List.mem_append.mp hp with h | h
      · rcases List.mem_cons.mp (hown p h) with h2 | h2
        · have h3 : s₁.heap.get? p.1 = some p.2 := hget p h
          rw [h2, hgI] at h3
          have h4 : p = (s.heap.objs.size, oI) := Prod.ext h2 (Option.some.inj h3).symm
          rw [h4]; exact hI'
        · have h1 : p.1 = l := List.mem_singleton.mp h2
          have h3 : s₁.heap.get? p.1 = some p.2 := hget p h
          rw [h1, hlo] at h3
          have h4 : p = (l, listOf vs.toArray nn) := Prod.ext h1 (Option.some.inj h3).symm
          rw [h4]; exact hl'
      · refine N' p ?_
        rcases List.mem_cons.mp h with rfl | h
        · simp
        rcases List.mem_cons.mp h with rfl | h
        · simp
        rcases List.mem_cons.mp h with rfl | h
        · simp
        · cases h
    · intro hI
      have hI := List.mem_singleton.mp hI
      rcases List.mem_cons.mp hp with rfl | h
      · exact offI _ _ hx' (by rw [hdI]; intro e; cases e) hI
      rcases List.mem_cons.mp h with rfl | h
      · exact offI _ _ hd' (by rw [hdI]; intro e; cases e) hI
      rcases List.mem_cons.mp h with rfl | h
      · exact offI _ _ hl'.1 (by rw [hdI]; intro e; cases e) hI
      · cases h
  · rintro h' tk m' news' F' N' _ ⟨hl', _⟩
    exact done m' h' tk F' fun p hp => by
      rw [List.mem_singleton.mp hp]; exact N' _ hl'
end Mine
end

section
open PySem PySem.W PyProof.Rows PySem.Calls
set_option Elab.async false
set_option pp.deepTerms false
set_option pp.maxSteps 3000
set_option maxRecDepth 100000
namespace Mine
local macro_rules | `(tactic| k_all) => `(tactic| (refine' all_ne ?h ?k; (case h => assumption); (case k => omega)))
local macro_rules | `(tactic| k_room) => `(tactic| ktr_room)
local macro_rules | `(tactic| k_units) => `(tactic| ktr_units)
def VPost (s : Shared) (r : Value) (s' : Shared) : Prop := ∃ (v : Int) (k : Tok) (tk : Nat), r = .int v k ∧ -65536 ≤ v ∧ v < 65536 ∧ s' = { s with toks := tk + 1 }
theorem VPost.intro {s : Shared} {v : Int} {k : Tok} {tk : Nat} (h1 : -65536 ≤ v) (h2 : v < 65536) : VPost s (.int v k) { s with toks := tk + 1 } := ⟨v, k, tk, rfl, h1, h2, rfl⟩
theorem cut_v {M : Model} {A : Around} {t : Sem Value} {Q E : Value → Shared → Prop} {s : Shared}
    (h2 : ∀ v k tk, -65536 ≤ v → v < 65536 → Q (.int v k) { s with toks := tk + 1 }) (h : wpAny M A t (VPost s) (fun _ _ => False) s) : wpAny M A t Q E s :=
  wpAny_mono h (fun r s' p => by obtain ⟨v, k, tk, rfl, h3, h4, rfl⟩ := p; exact h2 v k tk h3 h4) fun _ _ e => e.elim
theorem ne_floats2K {prog : Program} {w : World} {A : Around} {s : Shared} {E : Value → Shared → Prop} {Q : Value → Shared → Prop} {l b : Addr} {h₀ : Heap} {L : Addr} {m : Str → Option Value} {x y x' y' : UInt64} {t1 t2 u1 u2 : Tok} {K : Frag} (F : Fr h₀ L s.heap m) (X : K.In h₀) (hl : s.heap.IsList l #[.float x t1, .float y t2]) (hb : s.heap.IsList b #[.float x' u1, .float y' u2])
    (hb0 : nsIn K cStatics sharingNotToldKey = some none) (ht1 : @Ne Nat t1 0) (ht2 : @Ne Nat t2 0) (hu1 : @Ne Nat u1 0) (hu2 : @Ne Nat u2 0) (hx : (Float64.cmp x x' == some Ordering.eq) = true) (hy : (Float64.cmp y y' == some Ordering.eq) = true) (hu : A.units < cLine) (h : Q (.bool false) s) : wpAny (model prog w) A (compareOp .NotEq (.ref l) (.ref b)) Q E s :=
  ne_floats2 hl hb (X.keeps F.keep) hb0 ht1 ht2 hu1 hu2 hx hy hu h
theorem abs_lt {l : Int} (h0 : 0 ≤ l) (h1 : l < 33554432) : l.natAbs < 2 ^ 53 := by omega
theorem abs_lt2 {l : Int} (h0 : 0 ≤ l) (h1 : l < 2097152) : l.natAbs < 2 ^ 53 := by omega
theorem int_arg {M : Model} {A : Around} {Q E : Value → Shared → Prop} {s : Shared} {f x y : Value} {e v : Int} {t : Tok} (he : e = v) (h : wpAny M A (call f [x, .int v t, y]) Q E s) : wpAny M A (call f [x, .int e t, y]) Q E s := by rw [he]; exact h
theorem in_two {prog : Program} {w : World} {A : Around} {E : Value → Shared → Prop} {s : Shared} {Q : Value → Shared → Prop} {d : Addr} {p q x : Int} {t1 t2 u : Tok} {b : Bool} (ht : IsTup s.heap d #[.int p t1, .int q t2]) (hb : ([p, q].any (· == x)) = b) (h : Q (.bool b) s) : wpAny (model prog w) A (compareOp .In (.int x u) (.ref d)) Q E s :=
  in_tuple_ints (ns := [p, q]) ht (by repeat constructor) (by rw [hb]; exact h)
local macro_rules | `(tactic| walk_at "compareOp In int ref") => `(tactic| (k_here; k_dflt (first | (refine' in_two (b := true) ?t ?b ?_; (case t => exact News.isTup (by k_asm) (by k_mem)); (case b => decide); k_whole) | (refine' in_two (b := false) ?t ?b ?_; (case t => exact News.isTup (by k_asm) (by k_mem)); (case b => decide); k_whole))))
local macro_rules | `(tactic| walk_at "execs cons") => `(tactic| ((with_reducible show wpAny _ _ _ _ _ (Shared.mk _ _ _ (_ + _) _)); refine' gen_toks ?h ?_; (case h => omega); intro tk' htk'))
local macro_rules | `(tactic| walk_at "execs nil") => `(tactic| ((with_reducible show wpAny _ _ _ _ _ (Shared.mk _ _ _ (_ + _) _)); refine' gen_toks ?h ?_; (case h => omega); intro tk' htk'))
local macro_rules | `(tactic| walk_at "eval IfExp") => `(tactic| ((show wpAny _ _ (eval (Expr.IfExp (Expr.Compare (Expr.Call _ _ _ _) _ _ _) _ _ _) _) _ _ _); refine' cut_v ?h2 ?h; rotate_left 1; rotate_left 1; intro v tv tk hv0 hv1; (try dsimp only); (try k_fold)))
local macro_rules | `(tactic| walk_at "binaryOp Pow int int") => `(tactic| first | (with_reducible refine pow_20 ?_) | (with_reducible refine pow_600 ?_) | (with_reducible refine pow_21 ?_) | (with_reducible refine pow_18 ?_) | (with_reducible refine pow_16 ?_))
local macro_rules | `(tactic| walk_at "binaryOp Div int int") => `(tactic| (refine' div_20 ?d ?n ?_; (case d => decide); (case n => omega)))
local macro_rules | `(tactic| walk_at "getAttr ref") => `(tactic| (k_here; k_dflt (refine' prop_slots ?k1 ?k2 ?k3 ?k4 ?k5 ?k6 ?k7 ?k8 ?k9 ?_; (case k1 => k_asm); (case k2 => k_asm); (case k3 => k_inst); (case k4 => k_is); (case k5 => k_is); (case k6 => k_is); (case k7 => k_is); (case k8 => k_is); (case k9 => k_is); k_whole; k_enter)))
local macro_rules | `(tactic| walk_at "call type:float") => `(tactic| (refine' float_big ?h ?_; (case h => exact abs_lt (by assumption) (by assumption))))
local macro_rules | `(tactic| walk_at "compareOp NotEq ref ref") => `(tactic| (k_here; k_dflt (refine' ne_floats2K ?qF ?qX ?ql ?qb ?qhb ?qt1 ?qt2 ?qu1 ?qu2 ?qx ?qy ?qu ?_; (case qF => k_asm); (case qX => k_asm); (case ql => exact News.isList (by k_asm) (by k_mem)); (case qb => exact News.isList (by k_asm) (by k_mem)); (case qhb => k_is); (case qt1 => first | exact Nat.succ_ne_zero _ | exact ne_of_one (by assumption)); (case qt2 => first | exact Nat.succ_ne_zero _ | exact ne_of_one (by assumption)); (case qu1 => first | exact Nat.succ_ne_zero _ | exact ne_of_one (by assumption)); (case qu2 => first | exact Nat.succ_ne_zero _ | exact ne_of_one (by assumption)); (case qx => exact cmp_nought (by decide) (by decide)); (case qy => exact cmp_self (abs_lt (by assumption) (by assumption)) (by decide) (by decide)); (case qu => ktr_units); k_whole)))
theorem mod_known {prog : Program} {w : World} {A : Around} {E : Value → Shared → Prop} {s : Shared} {Q : Value → Shared → Prop} {t u : Tok} {n b c : Int} (h : n.fmod b = c) (hb : b ≠ 0) (hQ : Q (.int c s.toks) { s with toks := s.toks + 1 }) :
    wpAny (model prog w) A (binaryOp .Mod (.int n t) (.int b u)) Q E s := mod_int' hb (by rw [h]; exact hQ)
theorem mod4_split {prog : Program} {w : World} {A : Around} {E : Value → Shared → Prop} {s : Shared} {Q : Value → Shared → Prop} {t u : Tok} {n : Int} (h0 : n.fmod 4 = 0 → Q (.int 0 s.toks) { s with toks := s.toks + 1 }) (h1 : n.fmod 4 = 1 → Q (.int 1 s.toks) { s with toks := s.toks + 1 })
    (h2 : n.fmod 4 = 2 → Q (.int 2 s.toks) { s with toks := s.toks + 1 }) (h3 : n.fmod 4 = 3 → Q (.int 3 s.toks) { s with toks := s.toks + 1 }) :
    wpAny (model prog w) A (binaryOp .Mod (.int n t) (.int 4 u)) Q E s := by
  refine mod_int' (by decide) ?_
  have a1 : 0 ≤ n.fmod 4 := Int.fmod_nonneg_of_pos _ (by decide)
  have a2 : n.fmod 4 < 4 := Int.fmod_lt_of_pos _ (by decide)
  have a3 : n.fmod 4 = 0 ∨ n.fmod 4 = 1 ∨ n.fmod 4 = 2 ∨ n.fmod 4 = 3 := by omega
  rcases a3 with h | h | h | h <;> rw [h]
  · exact h0 h
  · exact h1 h
  · exact h2 h
  · exact h3 h
theorem v_small {n : Int} (h : (if n < 0 then -n else n) < 262144) : -65536 ≤ n.fdiv 4 ∧ n.fdiv 4 < 65536 := by
  rw [Int.fdiv_eq_ediv_of_nonneg _ (by decide)]; split at h <;> omega
theorem v_large {n : Int} : -65536 ≤ n.fmod 65536 ∧ n.fmod 65536 < 65536 := by
  have a1 : 0 ≤ n.fmod 65536 := Int.fmod_nonneg_of_pos _ (by decide)
  have a2 : n.fmod 65536 < 65536 := Int.fmod_lt_of_pos _ (by decide)
  omega
local macro_rules | `(tactic| walk_at "binaryOp Mod int int") => `(tactic| first
  | (refine' mod_known ?h ?hb ?_; (case h => assumption); (case hb => decide))
  | ((with_reducible show wpAny _ _ (binaryOp _ _ (Value.int 4 _)) _ _ _); refine' mod4_split ?_ ?_ ?_ ?_ <;> intro hz4))
local macro_rules | `(tactic| walk_at "TurnPost next") => `(tactic| (refine' TurnPost.intro ?pF ?pN ?p1 ?p2 ?p3 ?p4 ?p5 ?p6 ?p7 ?p8 ?p9 ?q1 ?q2 ?q3 ?q4; (case pF => k_asm); (case pN => k_asm); (case p7 => rfl); (case q1 => k_dflt k_mem); (case p8 => rfl); (case p9 => rfl); (case q2 => k_mem); (case q3 => k_mem); (case q4 => k_mem); (case p5 => assumption); (case p6 => assumption); (case p1 => omega); (case p2 => omega); (case p3 => omega); (case p4 => omega)))
local macro_rules | `(tactic| walk_at "binaryOp Add ref ref") => `(tactic| (k_here; k_dflt (refine' nd_add ?a1 ?a2 ?b1 ?b2 ?s0 ?s1 ?s2 ?s3 ?r0 ?r1 ?rr ?c1 ?c2 ?x1 ?x2 ?x3 ?x4 ?k1 ?k2 ?k3 ?k4 ?k5 ?k6 ?k7 ?_; (case k1 => k_asm); (case k2 => k_asm); (case k3 => k_asm); (case k4 => k_asm); (case k5 => k_asm); (case x1 => k_mem); (case x2 => k_mem); (case x3 => k_mem); (case x4 => k_mem); (case rr => first | assumption | (rw [Int.add_comm]; assumption)); (case a1 => omega); (case a2 => omega); (case b1 => omega); (case b2 => omega); (case s0 => omega); (case s1 => omega); (case s2 => omega); (case s3 => omega); (case r0 => omega); (case r1 => omega); (case c1 => decide); (case c2 => decide); (case k6 => ktr_room); (case k7 => ktr_units); k_whole); intro x' d' u1 u2 h' tk' F' N' l1 l2 hu1 hu2 htk'; (try k_lt l1); (try k_lt2 l2); (try k_sweep); (try dsimp only); (try k_fold)))
local macro_rules | `(tactic| walk_at "binaryOp Sub ref ref") => `(tactic| (k_here; k_dflt (refine' nd_sub ?a1 ?a2 ?b1 ?b2 ?s0 ?s1 ?s2 ?s3 ?r0 ?r1 ?rr ?c1 ?c2 ?x1 ?x2 ?x3 ?x4 ?k1 ?k2 ?k3 ?k4 ?k5 ?k6 ?k7 ?_; (case k1 => k_asm); (case k2 => k_asm); (case k3 => k_asm); (case k4 => k_asm); (case k5 => k_asm); (case x1 => k_mem); (case x2 => k_mem); (case x3 => k_mem); (case x4 => k_mem); (case rr => first | assumption | (rw [Int.add_comm]; assumption)); (case a1 => omega); (case a2 => omega); (case b1 => omega); (case b2 => omega); (case s0 => omega); (case s1 => omega); (case s2 => omega); (case s3 => omega); (case r0 => omega); (case r1 => omega); (case c1 => decide); (case c2 => decide); (case k6 => ktr_room); (case k7 => ktr_units); k_whole); intro x' d' u1 u2 h' tk' F' N' l1 l2 hu1 hu2 htk'; (try k_lt l1); (try k_lt2 l2); (try k_sweep); (try dsimp only); (try k_fold)))
local macro_rules | `(tactic| walk_at "call ref") => `(tactic| first
  | (k_here; (with_reducible show wpAny _ _ (call (Value.ref 270) [Value.float _ _, Value.float _ _]) _ _ _); k_dflt (refine' nd_ff ?k0 ?k1 ?k2 ?k3 ?k4 ?k5 ?k6 ?k7 ?_; (case k1 => k_asm); (case k2 => k_asm); (case k3 => k_asm); (case k4 => k_asm); (case k5 => k_asm); (case k0 => exact dy_not_lt (by omega) (by omega) (by decide) (by decide)); (case k6 => ktr_room); (case k7 => ktr_units); k_whole); intro x' d' h' tk' F' N' l1 l2 htk'; (try k_lt l1); (try k_lt2 l2); (try k_sweep); (try dsimp only); (try k_fold))
  | (k_here; (with_reducible show wpAny _ _ (call (Value.ref 284) [Value.int _ _, Value.int _ _]) _ _ _); k_dflt (refine' legs ?s0 ?s1 ?v0 ?v1 ?k1 ?k2 ?k3 ?k4 ?k5 ?k6 ?k7 ?_; (case k1 => k_asm); (case k2 => k_asm); (case k3 => k_asm); (case k4 => k_asm); (case k5 => k_asm); (case s0 => omega); (case s1 => omega); (case v0 => omega); (case v1 => omega); (case k6 => ktr_room); (case k7 => ktr_units); k_whole); intro D b l t1 t2 h' tk' hb0 hb1 hl0 hl1 hbl F' N' l1; (try k_lt l1); (try k_sweep); (try dsimp only); (try k_fold))
  | (k_here; (with_reducible show wpAny _ _ (call (Value.ref 279) [Value.ref _, Value.int _ _, Value.int _ _]) _ _ _); k_dflt (refine' int_arg ?he (law_is ?m1 ?m2 ?s0 ?s1 ?ta ?tb ?hm ?hdd ?k1 ?k2 ?k3 ?k4 ?k5 ?k6 ?k7 ?_); (case k1 => k_asm); (case k2 => k_asm); (case k3 => k_asm); (case k4 => k_asm); (case k5 => k_asm); (case hm => k_mem); (case hdd => k_mem); (case he => rfl); (case m1 => omega); (case m2 => omega); (case s0 => omega); (case s1 => omega); (case ta => omega); (case tb => omega); (case k6 => ktr_room); (case k7 => ktr_units); k_whole); intro h' tk' F' N' htk'; (try k_sweep); (try dsimp only); (try k_fold))
  | (k_here; (with_reducible show wpAny _ _ (call (Value.ref 270) [Value.int 0 _, Value.int (_ * _) _]) _ _ _); k_dflt (refine' nd_big ?k0 ?kn ?k1 ?k2 ?k3 ?k4 ?k5 ?k6 ?k7 ?_; (case k1 => k_asm); (case k2 => k_asm); (case k3 => k_asm); (case k4 => k_asm); (case k5 => k_asm); (case k0 => exact Int.mul_nonneg (by omega) (by decide)); (case kn => first | exact abs_lt (by assumption) (by assumption) | exact abs_lt2 (by assumption) (by assumption)); (case k6 => ktr_room); (case k7 => ktr_units); k_whole); intro x' d' u1 u2 h' tk' F' N' l1 l2 hu1 hu2 htk'; (try k_lt l1); (try k_lt2 l2); (try k_sweep); (try dsimp only); (try k_fold))
  | (k_here; (with_reducible show wpAny _ _ (call (Value.ref 270) [Value.int 0 _, Value.int 0 _]) _ _ _); k_dflt (refine' nd_00 ?k1 ?k2 ?k3 ?k4 ?k5 ?k6 ?k7 ?_; (case k1 => k_asm); (case k2 => k_asm); (case k3 => k_asm); (case k4 => k_asm); (case k5 => k_asm); (case k6 => ktr_room); (case k7 => ktr_units); k_whole); intro x' d' u1 u2 h' tk' F' N' l1 l2 hu1 hu2 htk'; (try k_lt l1); (try k_lt2 l2); (try k_sweep); (try dsimp only); (try k_fold)))
local macro_rules | `(tactic| lcg_off) => `(tactic| ((simp only [LCg.Off3, and_true]); assumption))
local macro_rules | `(tactic| k_ne) => `(tactic| ((try dsimp only); assumption))
set_option maxHeartbeats 8000000 in
theorem whole : PySem.Challenge.rw_io0019_02.Holds := by
  refine seed (holds_open (q := vw) (loose := loose) (Xt := Xq vw) (XP := XL vw []) (Yf := hookK.obs) (Ya := hookK.val) (N := 3984) left (Hook.of hookK) (Hook.keeps hookK) (fun s e => xl_of s (Bool.and_eq_true_iff.mp e).1) XL.keeps (by rfl) (by rfl) (by rfl) (fun s e => recFacts_of (Bool.and_eq_true_iff.mp e).2) (by rfl) (by first | assumption | decide +kernel) (by decide +kernel) ⟨rfl, rfl, rfl, rfl, rfl, by decide +kernel⟩ ?hw ?hc)
  case hw => w_witness2
  w_strict (
    k_go0
    (all_goals try k_fold)
    k_steps
    refine' loop_told ?hh ?hl ?hi ?hlen ?F ?N ?hx ?hd ?hu1 ?hu2 ?m1 ?m2 ?m3 ?turn ?done
    case F => k_asm
    case N => k_asm
    case hi => assumption
    case hl => k_mem
    case hx => k_mem
    case hd => k_mem
    case hh => rfl
    case hu1 => assumption
    case hu2 => assumption
    case m1 => rfl
    case m2 => rfl
    case m3 => rfl
    case hlen => (rw [List.length_append, List.length_take]; simp only [List.length_cons, List.length_nil]; omega)
    case done =>
      intro m₁ h tk F2 N2
      dsimp only
      k_steps
    intro k n mean spread tz tm ts v1 v2 x d I oI u s₁ hk0 hk1 hm0 hm1 hs0 hs1 hv1 hv2 F2 N2
    (try dsimp only at F2 N2)
    (try k_unmd)
    k_fold
    k_steps
    all_goals (try dsimp only)
    all_goals (first | exact VPost.intro (v_small (by with_reducible assumption)).1 (v_small (by with_reducible assumption)).2 | exact VPost.intro v_large.1 v_large.2 | skip))
end Mine
end
theorem PySem.Challenge.cw_io0019_02_holds : PySem.Challenge.rw_io0019_02.Holds := by
  exact Mine.whole
