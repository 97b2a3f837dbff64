import PyProof.Rows.All
import Wide.All
import OpenK.AllK
import Wide.FinOn
import PySem.Challenge.RW_ak5017_01
set_option Elab.async false
section part_Hd
open PySem PySem.W PyProof.Rows
set_option Elab.async false
namespace Mine
set_option maxRecDepth 100000
set_option maxHeartbeats 8000000
open_top hd for PySem.Challenge.rw_ak5017_01
end Mine
end part_Hd

section part_Fl
open PySem PySem.W PyProof.Rows
set_option Elab.async false
set_option exponentiation.threshold 3000
namespace Mine
open PySem.Float64 PySem.Flt

theorem V_rep {N c : Nat} (hN : N < 2 ^ 53) (hc : 53 ≤ c) (hc2 : c ≤ 1074) : ∃ t, t < infMag ∧ V t = N * 2 ^ c := by
  by_cases h0 : N = 0
  · subst h0; exact ⟨0, by decide, by rw [V_zero, Nat.zero_mul]⟩
  · have h1 := Nat.log2_self_le h0
    have h2 := @Nat.lt_log2_self N
    have hL : N.log2 ≤ 52 := by
      have : N.log2 < 53 := (Nat.log2_lt h0).mpr hN
      omega
    have e1 : 2 ^ N.log2 * 2 ^ (52 - N.log2) = 2 ^ 52 := by rw [← Nat.pow_add]; congr 1; omega
    have e2 : 2 ^ (N.log2 + 1) * 2 ^ (52 - N.log2) = 2 ^ 53 := by rw [← Nat.pow_add]; congr 1; omega
    have hlo : 2 ^ 52 ≤ N * 2 ^ (52 - N.log2) := by rw [← e1]; exact Nat.mul_le_mul_right _ h1
    have hhi : N * 2 ^ (52 - N.log2) < 2 ^ 53 := by rw [← e2]; exact Nat.mul_lt_mul_of_pos_right h2 (Nat.two_pow_pos _)
    refine ⟨(c - (52 - N.log2)) * 2 ^ 52 + N * 2 ^ (52 - N.log2), ?_, ?_⟩
    · have : infMag = 2047 * 2 ^ 52 := rfl
      rw [this]
      have : (c - (52 - N.log2)) * 2 ^ 52 ≤ 1074 * 2 ^ 52 := Nat.mul_le_mul_right _ (by omega)
      omega
    · rw [V_at (Nat.le_of_lt hhi) (.inl hlo), Nat.mul_assoc, ← Nat.pow_add]
      congr 2
      omega

theorem V_inj {t t' : Nat} (h : V t = V t') : t = t' := by
  rcases Nat.lt_trichotomy t t' with x | x | x
  · have := V_lt x; omega
  · exact x
  · have := V_lt x; omega

theorem V_top : V (infMag - 1) = (2 ^ 53 - 1) * 2 ^ 2045 := by
  have e : infMag - 1 = 2045 * 2 ^ 52 + (2 ^ 53 - 1) := by unfold infMag; omega
  rw [e]
  exact V_at (k := 2045) (q := 2 ^ 53 - 1) (by omega) (.inl (by omega))

theorem not_over {t' : Nat} (ht : t' < infMag) : 2 * V t' < (2 ^ 54 - 1) * 2 ^ 2045 := by
  have h := V_mono (show t' ≤ infMag - 1 by omega)
  rw [V_top] at h
  have e : (2 ^ 54 - 1) * 2 ^ 2045 = 2 * ((2 ^ 53 - 1) * 2 ^ 2045) + 2 ^ 2045 := by
    generalize (2 : Nat) ^ 2045 = K
    omega
  have : 0 < 2 ^ 2045 := Nat.two_pow_pos _
  generalize (2 : Nat) ^ 2045 = K at *
  omega

/-- a rounding whose exact value is a float is that float -/
theorem Right_exact {r : UInt64} {neg : Bool} {W D t' : Nat} (h : Right r neg W D) (hD : 0 < D) (ht : t' < infMag) (hW : W = D * V t') : r = pack neg t' := by
  obtain ⟨t, hr, hle, hov, hn⟩ := h
  have hlt : t < infMag := by
    rcases Nat.lt_or_eq_of_le hle with x | x
    · exact x
    · exfalso
      have h1 := hov.mp x
      have h2 := Nat.mul_lt_mul_of_pos_left (not_over ht) hD
      rw [hW] at h1
      have e : 2 * (D * V t') = D * (2 * V t') := by ac_rfl
      omega
  have h1 := (hn hlt t').1
  rw [hW] at h1
  have h2 : PySem.Float64.dist (D * V t') (D * V t') = 0 := by unfold PySem.Float64.dist; omega
  rw [h2] at h1
  have h3 : D * V t = D * V t' := by unfold PySem.Float64.dist at h1; omega
  have h4 : t = t' := V_inj (Nat.eq_of_mul_eq_mul_left hD h3)
  rw [hr, h4]

/-- the float of value n / 2 -/
@[irreducible] def fl2 (n : Int) : UInt64 := ofFrac (decide (n < 0)) n.natAbs 2

theorem fl2_right (n : Int) : Right (fl2 n) (decide (n < 0)) (n.natAbs * 2 ^ 1073) 1 := by
  unfold fl2
  refine ofFrac_right (by decide) ?_ (by decide)
  rw [Nat.mul_one, Nat.mul_assoc, ← Nat.pow_succ]

theorem fl2_pack {n : Int} (h : n.natAbs < 2 ^ 53) : ∃ t, t < infMag ∧ V t = n.natAbs * 2 ^ 1073 ∧ fl2 n = pack (decide (n < 0)) t := by
  obtain ⟨t, ht, hV⟩ := V_rep (c := 1073) h (by decide) (by decide)
  exact ⟨t, ht, hV, Right_exact (fl2_right n) (by decide) ht (by rw [hV, Nat.one_mul])⟩

theorem sgn_abs (n : Int) (k : Nat) : sgn (decide (n < 0)) (n.natAbs * k) = n * (k : Int) := by
  unfold sgn
  by_cases h : n < 0
  · rw [if_pos (by simpa using h), Int.natCast_mul]
    have : (n.natAbs : Int) = -n := by omega
    rw [this, Int.neg_mul, Int.neg_neg]
  · rw [if_neg (by simpa using h), Int.natCast_mul]
    have : (n.natAbs : Int) = n := by omega
    rw [this]

theorem fl2_decode {n : Int} (h : n.natAbs < 2 ^ 53) : ∃ m e, decode (fl2 n) = .fin (decide (n < 0)) m e ∧ val (fl2 n) = n * ((2 ^ 1073 : Nat) : Int) := by
  obtain ⟨t, ht, hV, e⟩ := fl2_pack h
  obtain ⟨m, x, hd, _⟩ := decode_pack (decide (n < 0)) ht
  rw [e]
  exact ⟨m, x, hd, by rw [val_pack _ ht, hV, sgn_abs]⟩

theorem fl2_of_right {r : UInt64} {z : Int} (h : z.natAbs < 2 ^ 53) (hr : Right r (decide (z * ((2 ^ 1073 : Nat) : Int) < 0)) (z * ((2 ^ 1073 : Nat) : Int)).natAbs 1) : r = fl2 z := by
  obtain ⟨t, ht, hV, e⟩ := fl2_pack h
  have hp : (0 : Int) < ((2 ^ 1073 : Nat) : Int) := Int.ofNat_lt.mpr (Nat.two_pow_pos _)
  have hs : decide (z * ((2 ^ 1073 : Nat) : Int) < 0) = decide (z < 0) := by
    apply decide_eq_decide.mpr
    constructor
    · intro x
      by_cases h2 : z < 0
      · exact h2
      · have := Int.mul_nonneg (show 0 ≤ z by omega) (Int.le_of_lt hp); omega
    · intro x; exact Int.mul_neg_of_neg_of_pos x hp
  rw [hs] at hr
  rw [e]
  refine Right_exact hr (by decide) ht ?_
  rw [Int.natAbs_mul, Int.natAbs_natCast, hV, Nat.one_mul]

theorem zero_fl2 : zero false = fl2 0 := by
  unfold fl2 zero ofFrac
  rfl

theorem fl2_add {a b : Int} (ha : a.natAbs < 2 ^ 53) (hb : b.natAbs < 2 ^ 53) (hab : (a + b).natAbs < 2 ^ 53) : add (fl2 a) (fl2 b) = fl2 (a + b) := by
  obtain ⟨m, e, hx, vx⟩ := fl2_decode ha
  obtain ⟨k, f, hy, vy⟩ := fl2_decode hb
  have h := add_right hx hy
  have hp : (0 : Int) < ((2 ^ 1073 : Nat) : Int) := Int.ofNat_lt.mpr (Nat.two_pow_pos _)
  have hs : val (fl2 a) + val (fl2 b) = (a + b) * ((2 ^ 1073 : Nat) : Int) := by rw [vx, vy, Int.add_mul]
  rw [hs] at h
  by_cases h0 : a + b = 0
  · rw [h.1 (by rw [h0, Int.zero_mul]), h0, ← zero_fl2]
    congr 1
    by_cases h1 : a < 0
    · have : ¬ b < 0 := by omega
      simp [this]
    · simp [h1]
  · exact fl2_of_right hab (h.2 (Int.mul_ne_zero h0 (Int.ne_of_gt hp)))

theorem fl2_sub {a b : Int} (ha : a.natAbs < 2 ^ 53) (hb : b.natAbs < 2 ^ 53) (hab : (a - b).natAbs < 2 ^ 53) (hz : a = b → 0 ≤ a) : sub (fl2 a) (fl2 b) = fl2 (a - b) := by
  obtain ⟨m, e, hx, vx⟩ := fl2_decode ha
  obtain ⟨k, f, hy, vy⟩ := fl2_decode hb
  have h := sub_right hx hy
  have hp : (0 : Int) < ((2 ^ 1073 : Nat) : Int) := Int.ofNat_lt.mpr (Nat.two_pow_pos _)
  have hs : val (fl2 a) - val (fl2 b) = (a - b) * ((2 ^ 1073 : Nat) : Int) := by rw [vx, vy, Int.sub_mul]
  rw [hs] at h
  by_cases h0 : a - b = 0
  · rw [h.1 (by rw [h0, Int.zero_mul]), h0, ← zero_fl2]
    congr 1
    have := hz (by omega)
    have : ¬ a < 0 := by omega
    simp [this]
  · exact fl2_of_right hab (h.2 (Int.mul_ne_zero h0 (Int.ne_of_gt hp)))

theorem ofInt_fl2 {i : Int} (h : i.natAbs < 2 ^ 52) : ofInt i = fl2 (2 * i) := by
  have hr := ofInt_right i
  obtain ⟨t, ht, hV, e⟩ := fl2_pack (n := 2 * i) (by omega)
  have hs : decide (2 * i < 0) = decide (i < 0) := by apply decide_eq_decide.mpr; omega
  rw [e, hs]
  refine Right_exact hr (by decide) ht ?_
  rw [hV, Nat.one_mul, show (2 * i).natAbs = i.natAbs * 2 by omega, Nat.mul_assoc, Nat.mul_comm 2, ← Nat.pow_succ]

theorem fl2_mul {a m : Int} (ha0 : 0 ≤ a) (hm0 : 0 ≤ m) (ha : a.natAbs < 2 ^ 53) (hm : m.natAbs < 2 ^ 52) (ham : (a * m).natAbs < 2 ^ 53) : mul (fl2 a) (ofInt m) = fl2 (a * m) := by
  rw [ofInt_fl2 hm]
  obtain ⟨p, e, hx, vx⟩ := fl2_decode ha
  obtain ⟨k, f, hy, vy⟩ := fl2_decode (n := 2 * m) (by omega)
  have h := mul_right hx hy
  obtain ⟨t, ht, hV, e⟩ := fl2_pack ham
  have hz : 0 ≤ a * m := Int.mul_nonneg ha0 hm0
  have s1 : decide (a < 0) = false := by simp; omega
  have s2 : decide (2 * m < 0) = false := by simp; omega
  have s3 : decide (a * m < 0) = false := by simp; omega
  rw [s1, s2] at h
  rw [e, s3]
  refine Right_exact h (Nat.two_pow_pos _) ht ?_
  rw [vx, vy, hV, Int.natAbs_mul, Int.natAbs_natCast, Int.natAbs_mul (2 * m), Int.natAbs_natCast, Int.natAbs_mul a m, show (2 * m).natAbs = 2 * m.natAbs by omega]
  have e2 : (2 : Nat) ^ 1074 = 2 * 2 ^ 1073 := by rw [Nat.pow_succ, Nat.mul_comm]
  rw [e2]
  generalize (2 : Nat) ^ 1073 = K
  ac_rfl

/-- what floor and trunc make of a float that lies at t -/
theorem floor_pack {t : Nat} (ht : t < infMag) : toInt floorOf (pack false t) = ((V t / 2 ^ 1074 : Nat) : Int) ∧ toInt truncOf (pack false t) = ((V t / 2 ^ 1074 : Nat) : Int) ∧ isFinite (pack false t) = true := by
  obtain ⟨m, e, hd, hv⟩ := decode_pack false ht
  have he := decode_ge hd
  have hf : floorOf false m e = ((V t / 2 ^ 1074 : Nat) : Int) := by
    unfold floorOf sgn
    rw [← hv]
    split
    · rename_i h
      have e1 : (e + 1074).toNat = e.toNat + 1074 := by omega
      rw [e1, Nat.pow_add, ← Nat.mul_assoc, Nat.mul_div_cancel _ (Nat.two_pow_pos _)]
      simp
    · rename_i h
      have e1 : 1074 = (e + 1074).toNat + (-e).toNat := by omega
      have e2 : m * 2 ^ (e + 1074).toNat / 2 ^ 1074 = m / 2 ^ (-e).toNat := by
        conv => lhs; rhs; rw [e1]
        rw [Nat.pow_add, Nat.mul_comm m, Nat.mul_div_mul_left _ _ (Nat.two_pow_pos _)]
      rw [e2]
      simp only [Bool.false_eq_true, if_false]
      rw [show ((2 : Int) ^ (-e).toNat) = ((2 ^ (-e).toNat : Nat) : Int) by simp]
      rw [Int.fdiv_eq_ediv_of_nonneg _ (Int.natCast_nonneg _)]
      rfl
  refine ⟨?_, ?_, ?_⟩
  · rw [toInt_fin hd, hf]
  · rw [toInt_fin hd]; unfold truncOf; rw [if_neg Bool.false_ne_true, hf]
  · unfold isFinite; rw [hd]

/-- floor of a rounded quotient: p / d -/
theorem floor_right {x : UInt64} {p d c : Nat} (h : Right x false (p * 2 ^ 1074 * c) (d * c)) (hc : 0 < c) (hd : 0 < d) (hd2 : d < 2 ^ 20) (hp : p < 2 ^ 32) :
    toInt floorOf x = ((p / d : Nat) : Int) ∧ toInt truncOf x = ((p / d : Nat) : Int) ∧ isFinite x = true := by
  obtain ⟨t, hr, hle, hov, hn⟩ := h
  have hq : p / d ≤ p := Nat.div_le_self _ _
  obtain ⟨tq, htq, hVq⟩ := V_rep (N := p / d) (c := 1074) (by omega) (by decide) (by decide)
  obtain ⟨tu, htu, hVu⟩ := V_rep (N := (p / d + 1) * 2 ^ 20 - 1) (c := 1054) (by omega) (by decide) (by decide)
  have hdc : 0 < d * c := Nat.mul_pos hd hc
  have e74 : (2 : Nat) ^ 1074 = 2 ^ 20 * 2 ^ 1054 := by rw [← Nat.pow_add]
  have hmod := Nat.div_add_mod p d
  have hmlt := Nat.mod_lt p hd
  -- below
  have hlow : d * c * V tq ≤ p * 2 ^ 1074 * c := by
    rw [hVq]
    have : d * (p / d) ≤ p := Nat.mul_div_le p d
    generalize (2 : Nat) ^ 1074 = K
    calc d * c * (p / d * K) = d * (p / d) * (K * c) := by ac_rfl
      _ ≤ p * (K * c) := Nat.mul_le_mul_right _ this
      _ = p * K * c := by ac_rfl
  have hup : p * 2 ^ 1074 * c ≤ d * c * V tu := by
    rw [hVu, e74]
    have h1 : p + 1 ≤ d * (p / d + 1) := by rw [Nat.mul_add, Nat.mul_one]; omega
    have h2 : p * 2 ^ 20 ≤ d * ((p / d + 1) * 2 ^ 20 - 1) := by
      rw [Nat.mul_sub, Nat.mul_one, ← Nat.mul_assoc]
      generalize d * (p / d + 1) = z at *
      omega
    generalize (p / d + 1) * 2 ^ 20 - 1 = u at *
    generalize (2 : Nat) ^ 1054 = K
    generalize (2 : Nat) ^ 20 = J at *
    calc p * (J * K) * c = p * J * (K * c) := by ac_rfl
      _ ≤ d * u * (K * c) := Nat.mul_le_mul_right _ h2
      _ = d * c * (u * K) := by ac_rfl
  have hlt : t < infMag := by
    rcases Nat.lt_or_eq_of_le hle with y | y
    · exact y
    · exfalso
      have h1 := hov.mp y
      have h2 := Nat.mul_lt_mul_of_pos_left (not_over htu) hdc
      have e : d * c * (2 * V tu) = 2 * (d * c * V tu) := by ac_rfl
      omega
  have hge : V tq ≤ V t := by
    rcases Nat.lt_or_ge (V t) (V tq) with y | y
    · exfalso
      have h1 := (hn hlt tq).1
      have h2 := Nat.mul_lt_mul_of_pos_left y hdc
      unfold PySem.Float64.dist at h1
      omega
    · exact y
  have hle' : V t ≤ V tu := by
    rcases Nat.lt_or_ge (V tu) (V t) with y | y
    · exfalso
      have h1 := (hn hlt tu).1
      have h2 := Nat.mul_lt_mul_of_pos_left y hdc
      unfold PySem.Float64.dist at h1
      omega
    · exact y
  have hfin : V t / 2 ^ 1074 = p / d := by
    refine Nat.div_eq_of_lt_le ?_ ?_
    · rw [← hVq]; exact hge
    · refine Nat.lt_of_le_of_lt hle' ?_
      rw [hVu, e74, ← Nat.mul_assoc]
      exact Nat.mul_lt_mul_of_pos_right (by omega) (Nat.two_pow_pos _)
  have hfp := floor_pack hlt
  rw [hfin] at hfp
  rw [hr]
  exact hfp

end Mine
end part_Fl

section part_Fl2
open PySem PySem.W PyProof.Rows
set_option Elab.async false
set_option exponentiation.threshold 3000
namespace Mine
open PySem.Float64 PySem.Flt

theorem ofNat_natAbs {a : Int} (h : 0 ≤ a) : ((a.natAbs : Nat) : Int) = a := by omega

theorem quo_floor {a m : Int} (ha : 0 ≤ a) (ha2 : a < 4294967296) (hm : 0 < m) (hm2 : m < 524288) :
    toInt floorOf (div (fl2 a) (ofInt m)) = a / (2 * m) ∧ toInt truncOf (div (fl2 a) (ofInt m)) = a / (2 * m) ∧ isFinite (div (fl2 a) (ofInt m)) = true := by
  rw [ofInt_fl2 (by omega)]
  obtain ⟨p, e, hx, vx⟩ := fl2_decode (n := a) (by omega)
  obtain ⟨k, f, hy, vy⟩ := fl2_decode (n := 2 * m) (by omega)
  have s1 : decide (a < 0) = false := by simp; omega
  have s2 : decide (2 * m < 0) = false := by simp; omega
  have hp : (0 : Int) < ((2 ^ 1073 : Nat) : Int) := Int.ofNat_lt.mpr (Nat.two_pow_pos _)
  have hk : k ≠ 0 := by
    intro h0
    rw [h0] at hy
    have := val_eq hy
    rw [vy, Nat.zero_mul] at this
    have h2 : 2 * m * ((2 ^ 1073 : Nat) : Int) ≠ 0 := Int.mul_ne_zero (by omega) (Int.ne_of_gt hp)
    apply h2
    rw [this]
    unfold sgn
    split <;> rfl
  have h := div_right hx hy hk
  rw [s1, s2, vx, vy, Int.natAbs_mul, Int.natAbs_natCast, Int.natAbs_mul (2 * m), Int.natAbs_natCast, show (2 * m).natAbs = 2 * m.natAbs by omega] at h
  have e1 : a.natAbs * 2 ^ 1073 * 2 ^ 1074 = a.natAbs * 2 ^ 1074 * 2 ^ 1073 := by
    generalize (2 : Nat) ^ 1073 = K
    generalize (2 : Nat) ^ 1074 = J
    ac_rfl
  rw [e1] at h
  have hr := floor_right (x := div (fl2 a) (fl2 (2 * m))) (p := a.natAbs) (d := 2 * m.natAbs) (c := 2 ^ 1073) h (Nat.two_pow_pos _) (by omega) (by omega) (by omega)
  have e2 : ((a.natAbs / (2 * m.natAbs) : Nat) : Int) = a / (2 * m) := by
    rw [Int.natCast_ediv, ofNat_natAbs ha]
    congr 1
    omega
  rw [e2] at hr
  exact hr

theorem quo_int {a m : Int} (ha : 0 ≤ a) (ha2 : a < 4294967296) (hm : 0 < m) (hm2 : m < 1048576) :
    toInt floorOf (ofFrac (decide (a < 0) != decide (m < 0)) a.natAbs m.natAbs) = a / m ∧ isFinite (ofFrac (decide (a < 0) != decide (m < 0)) a.natAbs m.natAbs) = true := by
  have s1 : decide (a < 0) = false := by simp; omega
  have s2 : decide (m < 0) = false := by simp; omega
  rw [s1, s2]
  have h := ofFrac_right (neg := false) (n := a.natAbs) (d := m.natAbs) (W := a.natAbs * 2 ^ 1074 * 1) (D := m.natAbs * 1) (by omega) (by rw [Nat.mul_one, Nat.mul_one]) (by omega)
  have hr := floor_right h (by decide) (by omega) (by omega) (by omega)
  have e2 : ((a.natAbs / m.natAbs : Nat) : Int) = a / m := by
    rw [Int.natCast_ediv, ofNat_natAbs ha]
    congr 1
    omega
  rw [e2] at hr
  exact ⟨hr.1, hr.2.2⟩

theorem fl2_zero_iff {a : Int} (h : a.natAbs < 2 ^ 53) : isZero (fl2 a) = decide (a = 0) := by
  obtain ⟨m, e, hx, vx⟩ := fl2_decode h
  have hp : (0 : Int) < ((2 ^ 1073 : Nat) : Int) := Int.ofNat_lt.mpr (Nat.two_pow_pos _)
  have hv := val_eq hx
  rw [vx] at hv
  unfold isZero
  rw [hx]
  by_cases h0 : a = 0
  · subst h0
    have hm : m = 0 := by
      rw [Int.zero_mul] at hv
      have := congrArg Int.natAbs hv
      rw [sgn_natAbs] at this
      have h2 : 0 < 2 ^ (e + 1074).toNat := Nat.two_pow_pos _
      rcases Nat.eq_zero_or_pos m with x | x
      · exact x
      · have := Nat.mul_pos x h2
        simp at *
        omega
    subst hm
    rfl
  · have hm : m ≠ 0 := by
      intro x
      rw [x, Nat.zero_mul] at hv
      have h2 : a * ((2 ^ 1073 : Nat) : Int) ≠ 0 := Int.mul_ne_zero h0 (Int.ne_of_gt hp)
      apply h2
      rw [hv]
      unfold sgn
      split <;> rfl
    cases m with
    | zero => exact absurd rfl hm
    | succ m => simp [h0]

theorem fl2_floor {a : Int} (ha : a.natAbs < 2 ^ 53) (h0 : 0 ≤ a) : toInt floorOf (fl2 a) = a / 2 ∧ toInt truncOf (fl2 a) = a / 2 ∧ isFinite (fl2 a) = true := by
  obtain ⟨t, ht, hV, e⟩ := fl2_pack ha
  have s1 : decide (a < 0) = false := by simp; omega
  have h := floor_pack ht
  rw [e, s1]
  have e1 : V t / 2 ^ 1074 = a.natAbs / 2 := by
    rw [hV, Nat.pow_succ 2 1073, Nat.mul_comm (2 ^ 1073) 2, Nat.mul_div_mul_right _ _ (Nat.two_pow_pos _)]
  rw [e1] at h
  have e2 : ((a.natAbs / 2 : Nat) : Int) = a / 2 := by omega
  rw [e2] at h
  exact h

theorem fl2_finite {a : Int} (ha : a.natAbs < 2 ^ 53) : isFinite (fl2 a) = true := by
  obtain ⟨m, e, hx, vx⟩ := fl2_decode ha
  unfold isFinite
  rw [hx]

theorem fl2_cmp {a b : Int} (ha : a.natAbs < 2 ^ 53) (hb : b.natAbs < 2 ^ 53) : cmp (fl2 a) (fl2 b) = some (compare a b) := by
  obtain ⟨m, e, hx, vx⟩ := fl2_decode ha
  obtain ⟨k, f, hy, vy⟩ := fl2_decode hb
  rw [cmp_right hx hy, vx, vy]
  have hp : (0 : Int) < ((2 ^ 1073 : Nat) : Int) := Int.ofNat_lt.mpr (Nat.two_pow_pos _)
  generalize ((2 ^ 1073 : Nat) : Int) = K at *
  congr 1
  rcases Int.lt_trichotomy a b with h | h | h
  · rw [Int.compare_eq_lt.mpr h, Int.compare_eq_lt.mpr (Int.mul_lt_mul_of_pos_right h hp)]
  · subst h; simp
  · rw [Int.compare_eq_gt.mpr h, Int.compare_eq_gt.mpr (Int.mul_lt_mul_of_pos_right h hp)]

theorem fl2_cmpInt {a b : Int} (ha : a.natAbs < 2 ^ 53) : cmpInt (fl2 a) b = some (compare a (2 * b)) := by
  obtain ⟨m, e, hx, vx⟩ := fl2_decode ha
  rw [cmpInt_right hx, vx]
  have hp : (0 : Int) < ((2 ^ 1073 : Nat) : Int) := Int.ofNat_lt.mpr (Nat.two_pow_pos _)
  have e1 : b * 2 ^ 1074 = 2 * b * ((2 ^ 1073 : Nat) : Int) := by
    rw [show ((2 ^ 1073 : Nat) : Int) = (2 : Int) ^ 1073 by simp, Int.pow_succ]
    generalize (2 : Int) ^ 1073 = K
    rw [Int.mul_comm K 2, ← Int.mul_assoc, Int.mul_comm b 2]
  rw [e1]
  generalize ((2 ^ 1073 : Nat) : Int) = K at *
  congr 1
  rcases Int.lt_trichotomy a (2 * b) with h | h | h
  · rw [Int.compare_eq_lt.mpr h, Int.compare_eq_lt.mpr (Int.mul_lt_mul_of_pos_right h hp)]
  · rw [h]; simp
  · rw [Int.compare_eq_gt.mpr h, Int.compare_eq_gt.mpr (Int.mul_lt_mul_of_pos_right h hp)]

theorem fl2_fmod {a b : Int} (ha0 : 0 ≤ a) (hb0 : 0 < b) (ha : a.natAbs < 2 ^ 53) (hb : b.natAbs < 2 ^ 53) : fmod (fl2 a) (fl2 b) = fl2 (a % b) := by
  obtain ⟨m, e, hx, vx⟩ := fl2_decode ha
  obtain ⟨k, f, hy, vy⟩ := fl2_decode hb
  have s1 : decide (a < 0) = false := by simp; omega
  have s2 : decide (b < 0) = false := by simp; omega
  rw [s1] at hx
  rw [s2] at hy
  have he := decode_ge hx
  have hf := decode_ge hy
  have hp : (0 : Int) < ((2 ^ 1073 : Nat) : Int) := Int.ofNat_lt.mpr (Nat.two_pow_pos _)
  have na := val_natAbs hx
  have nb := val_natAbs hy
  rw [vx, Int.natAbs_mul, Int.natAbs_natCast] at na
  rw [vy, Int.natAbs_mul, Int.natAbs_natCast] at nb
  have hk : k ≠ 0 := by
    intro h0
    rw [h0, Nat.zero_mul] at nb
    have := Nat.mul_pos (show 0 < b.natAbs by omega) (Nat.two_pow_pos 1073)
    omega
  have hfm : fmod (fl2 a) (fl2 b) = ofBin false (m * 2 ^ (e - min e f).toNat % (k * 2 ^ (f - min e f).toNat)) (min e f) := by
    unfold fmod
    rw [hx, hy]
    simp only
    rw [if_neg (by simpa using hk)]
    rfl
  have hmod : (a % b).natAbs < 2 ^ 53 := by
    have h1 := Int.emod_nonneg a (show b ≠ 0 by omega)
    have h2 := Int.emod_lt_of_pos a hb0
    omega
  obtain ⟨t, ht, hV, et⟩ := fl2_pack hmod
  have s3 : decide (a % b < 0) = false := by
    have h1 := Int.emod_nonneg a (show b ≠ 0 by omega)
    simp; omega
  rw [hfm, et, s3]
  unfold ofBin
  have hsh := shift_one (m * 2 ^ (e - min e f).toNat % (k * 2 ^ (f - min e f).toNat)) (min e f) 1074 (by omega)
  have hr := ofFrac_right (neg := false) (n := (shift (m * 2 ^ (e - min e f).toNat % (k * 2 ^ (f - min e f).toNat)) 1 (min e f)).1) (d := (shift (m * 2 ^ (e - min e f).toNat % (k * 2 ^ (f - min e f).toNat)) 1 (min e f)).2)
    (W := (m * 2 ^ (e - min e f).toNat % (k * 2 ^ (f - min e f).toNat)) * 2 ^ (min e f + 1074).toNat) (D := 1) (shift_pos _ _ _ (by decide)) (by rw [Nat.mul_one]; exact hsh) (by decide)
  refine Right_exact hr (by decide) ht ?_
  rw [Nat.one_mul, hV, ← Nat.mul_mod_mul_right, Nat.mul_assoc, Nat.mul_assoc, ← Nat.pow_add, ← Nat.pow_add]
  have e1 : (e - min e f).toNat + (min e f + 1074).toNat = (e + 1074).toNat := by omega
  have e2 : (f - min e f).toNat + (min e f + 1074).toNat = (f + 1074).toNat := by omega
  rw [e1, e2, ← na, ← nb, Nat.mul_mod_mul_right]
  congr 1
  have h9 : ((a.natAbs % b.natAbs : Nat) : Int) = a % b := by rw [Int.natCast_emod, ofNat_natAbs ha0, ofNat_natAbs (show 0 ≤ b by omega)]
  omega

theorem fl2_sign {a : Int} (ha0 : 0 ≤ a) (ha : a.natAbs < 2 ^ 53) : signBit (fl2 a) = false := by
  obtain ⟨t, ht, hV, e⟩ := fl2_pack ha
  have s1 : decide (a < 0) = false := by simp; omega
  rw [e, s1]
  unfold signBit
  have hi : infMag = 2047 * 2 ^ 52 := rfl
  rw [pack_toNat false (by omega)]
  simp
  omega

theorem fl2_nan {a : Int} (ha : a.natAbs < 2 ^ 53) : PySem.Float64.isNaN (fl2 a) = false := by
  obtain ⟨m, e, hx, vx⟩ := fl2_decode ha
  unfold PySem.Float64.isNaN
  rw [hx]

theorem fl2_mod {a m : Int} (ha0 : 0 ≤ a) (hm0 : 0 < m) (ha : a.natAbs < 2 ^ 53) (hm : m.natAbs < 2 ^ 52) : (divmod (fl2 a) (ofInt m)).2 = fl2 (a % (2 * m)) := by
  rw [ofInt_fl2 hm]
  have h1 := Int.emod_nonneg a (show 2 * m ≠ 0 by omega)
  have h2 := Int.emod_lt_of_pos a (show 0 < 2 * m by omega)
  have hr : (a % (2 * m)).natAbs < 2 ^ 53 := by omega
  unfold divmod
  simp only
  rw [fl2_fmod ha0 (by omega) ha (by omega), fl2_zero_iff hr]
  by_cases h0 : a % (2 * m) = 0
  · rw [if_pos (by simpa using h0), h0]
    unfold copysign
    simp only
    rw [if_neg (by rw [show PySem.Float64.isNaN (zero false) = false from by decide +kernel]; exact Bool.false_ne_true), fl2_sign (by omega) (by omega), ← zero_fl2]
    rfl
  · rw [if_neg (by simpa using h0)]
    have c1 : lt (fl2 (2 * m)) (zero false) = false := by
      unfold lt
      rw [zero_fl2, fl2_cmp (by omega) (by decide), Int.compare_eq_gt.mpr (by omega)]
      rfl
    have c2 : lt (fl2 (a % (2 * m))) (zero false) = false := by
      unfold lt
      rw [zero_fl2, fl2_cmp hr (by decide), Int.compare_eq_gt.mpr (by omega)]
      rfl
    rw [if_neg (by rw [c1, c2]; simp)]

theorem lit_half : (4602678819172646912 : UInt64) = fl2 1 := by unfold fl2; decide +kernel
theorem lit_greg : (4700144277945057280 : UInt64) = fl2 3442851 := by unfold fl2; decide +kernel
theorem lit_maya : (4693266160550936576 : UInt64) = fl2 1168565 := by unfold fl2; decide +kernel
theorem lit_posi : (4702353567246188544 : UInt64) = fl2 4748959 := by unfold fl2; decide +kernel
end Mine
end part_Fl2

section part_Fl3
open PySem PySem.W PyProof.Rows
set_option Elab.async false
namespace Mine
open PySem.Float64 PySem.Flt

/-- the float that the day-of-year term makes -/
@[irreducible] def mq (m : Int) : UInt64 := ofFrac (decide (367 * m - 362 < 0) != decide ((12 : Int) < 0)) (367 * m - 362).natAbs (12 : Int).natAbs

def mqOk (m a d : Nat) : Bool :=
  let x := add (add (ofFrac (decide (367 * ((m : Int) + 1) - 362 < 0) != decide ((12 : Int) < 0)) (367 * ((m : Int) + 1) - 362).natAbs (12 : Int).natAbs) (ofInt (-(a : Int)))) (ofInt ((d : Int) + 1))
  isFinite x && toInt floorOf x == (367 * ((m : Int) + 1) - 362) / 12 - (a : Int) + ((d : Int) + 1)

theorem mqOk_all : ((List.range 12).all fun m => (List.range 3).all fun a => (List.range 31).all fun d => mqOk m a d) = true := by decide +kernel

theorem mq_floor {m a d : Int} (hm : 1 ≤ m) (hm2 : m ≤ 12) (ha : a ≤ 0) (ha2 : -2 ≤ a) (hd : 1 ≤ d) (hd2 : d ≤ 31) :
    toInt floorOf (add (add (mq m) (ofInt a)) (ofInt d)) = (367 * m - 362) / 12 + a + d ∧ isFinite (add (add (mq m) (ofInt a)) (ofInt d)) = true := by
  have h := mqOk_all
  rw [List.all_eq_true] at h
  have h1 := h (m - 1).toNat (List.mem_range.mpr (by omega))
  rw [List.all_eq_true] at h1
  have h2 := h1 (-a).toNat (List.mem_range.mpr (by omega))
  rw [List.all_eq_true] at h2
  have h3 := h2 (d - 1).toNat (List.mem_range.mpr (by omega))
  unfold mqOk at h3
  have em : (((m - 1).toNat : Nat) : Int) + 1 = m := by omega
  have ea : -(((-a).toNat : Nat) : Int) = a := by omega
  have ed : (((d - 1).toNat : Nat) : Int) + 1 = d := by omega
  simp only [em, ea, ed, Bool.and_eq_true, beq_iff_eq] at h3
  unfold mq
  refine ⟨?_, h3.1⟩
  rw [h3.2]
  omega
end Mine
end part_Fl3

section part_Ru
open PySem PySem.W PyProof.Rows PySem.Calls
set_option Elab.async false
set_option exponentiation.threshold 3000
namespace Mine
open PySem.Flt

def Bd (a : Int) : Prop := -2000000000 ≤ a ∧ a ≤ 2000000000
theorem Bd.abs {a : Int} (h : Bd a) : a.natAbs < 2 ^ 53 := by unfold Bd at h; omega
theorem not_over_bd {n : Int} (h : Bd n) : ¬ Float64.isInf (Float64.ofInt n) = true := by
  refine fin_of_fits ?_
  unfold Over Bd at *
  have e : (2 : Nat) ^ 40 ≤ 2 ^ 1024 - 2 ^ 970 := by decide +kernel
  omega
theorem not_zero_ofInt {n : Int} (h : n ≠ 0) : ¬ Float64.isZero (Float64.ofInt n) = true := fun x => h ((isZero_ofInt n).mp x)

/-- a quotient of halves by an int -/
@[irreducible] def dq (a n : Int) : UInt64 := Float64.div (fl2 a) (Float64.ofInt n)
/-- a quotient of two ints -/
@[irreducible] def iq (a n : Int) : UInt64 := Float64.ofFrac (decide (a < 0) != decide (n < 0)) a.natAbs n.natAbs
/-- a float and an int added -/
@[irreducible] def qadd (x : UInt64) (n : Int) : UInt64 := Float64.add x (Float64.ofInt n)

section
variable {prog : Program} {w : World} {A : Around} {E : Value → Shared → Prop} {s : Shared} {t u : Tok} {Q : Value → Shared → Prop} {x y : UInt64} {a b n : Int}

theorem r_add_ff (hx : x = fl2 a) (hy : y = fl2 b) (ha : Bd a) (hb : Bd b) (h : Q (.float (fl2 (a + b)) s.toks) { s with toks := s.toks + 1 }) : wpAny (model prog w) A (binaryOp .Add (.float x t) (.float y u)) Q E s := by
  subst hx hy
  rw [← fl2_add ha.abs hb.abs (by unfold Bd at *; omega)] at h
  exact add_float h
theorem r_sub_ff (hx : x = fl2 a) (hy : y = fl2 b) (ha : Bd a) (hb : Bd b) (hz : 0 ≤ a) (h : Q (.float (fl2 (a - b)) s.toks) { s with toks := s.toks + 1 }) : wpAny (model prog w) A (binaryOp .Sub (.float x t) (.float y u)) Q E s := by
  subst hx hy
  rw [← fl2_sub ha.abs hb.abs (by unfold Bd at *; omega) (fun _ => hz)] at h
  exact sub_float h
theorem r_add_fi (hx : x = fl2 a) (ha : Bd a) (hb : Bd n) (h : Q (.float (fl2 (a + 2 * n)) s.toks) { s with toks := s.toks + 1 }) : wpAny (model prog w) A (binaryOp .Add (.float x t) (.int n u)) Q E s := by
  subst hx
  rw [← fl2_add ha.abs (by unfold Bd at *; omega) (by unfold Bd at *; omega), ← ofInt_fl2 (by unfold Bd at *; omega)] at h
  exact AutoFloatOps.add_fi_1 (not_over_bd hb) h
theorem r_iadd_fi (hx : x = fl2 a) (ha : Bd a) (hb : Bd n) (h : Q (.float (fl2 (a + 2 * n)) s.toks) { s with toks := s.toks + 1 }) : wpAny (model prog w) A (inplaceOp .Add (.float x t) (.int n u)) Q E s := by
  subst hx
  rw [← fl2_add ha.abs (by unfold Bd at *; omega) (by unfold Bd at *; omega), ← ofInt_fl2 (by unfold Bd at *; omega)] at h
  exact PySem.Flt.iadd_fi_1 (not_over_bd hb) h
theorem r_add_if (hx : x = fl2 a) (ha : Bd a) (hb : Bd n) (h : Q (.float (fl2 (2 * n + a)) s.toks) { s with toks := s.toks + 1 }) : wpAny (model prog w) A (binaryOp .Add (.int n u) (.float x t)) Q E s := by
  subst hx
  rw [← fl2_add (by unfold Bd at *; omega) ha.abs (by unfold Bd at *; omega), ← ofInt_fl2 (by unfold Bd at *; omega)] at h
  exact AutoFloatOps.add_if_1 (not_over_bd hb) h
theorem r_sub_fi (hx : x = fl2 a) (ha : Bd a) (hb : Bd n) (hz : 0 ≤ a) (h : Q (.float (fl2 (a - 2 * n)) s.toks) { s with toks := s.toks + 1 }) : wpAny (model prog w) A (binaryOp .Sub (.float x t) (.int n u)) Q E s := by
  subst hx
  rw [← fl2_sub ha.abs (by unfold Bd at *; omega) (by unfold Bd at *; omega) (fun _ => hz), ← ofInt_fl2 (by unfold Bd at *; omega)] at h
  exact AutoFloatOps.sub_fi_1 (not_over_bd hb) h
theorem r_isub_fi (hx : x = fl2 a) (ha : Bd a) (hb : Bd n) (hz : 0 ≤ a) (h : Q (.float (fl2 (a - 2 * n)) s.toks) { s with toks := s.toks + 1 }) : wpAny (model prog w) A (inplaceOp .Sub (.float x t) (.int n u)) Q E s := by
  subst hx
  rw [← fl2_sub ha.abs (by unfold Bd at *; omega) (by unfold Bd at *; omega) (fun _ => hz), ← ofInt_fl2 (by unfold Bd at *; omega)] at h
  exact PySem.Flt.isub_fi_1 (not_over_bd hb) h
theorem r_mul_fi (hx : x = fl2 a) (ha : 0 ≤ a) (ha2 : a ≤ 1000000) (hb : 0 ≤ n) (hb2 : n ≤ 1000000) (h : Q (.float (fl2 (a * n)) s.toks) { s with toks := s.toks + 1 }) : wpAny (model prog w) A (binaryOp .Mult (.float x t) (.int n u)) Q E s := by
  subst hx
  have h1 : 0 ≤ a * n := Int.mul_nonneg ha hb
  have h2 : a * n ≤ 1000000 * 1000000 := Int.mul_le_mul ha2 hb2 hb (by decide)
  rw [← fl2_mul ha hb (by omega) (by omega) (by omega)] at h
  exact AutoFloatOps.mul_fi_1 (not_over_bd (by unfold Bd; omega)) h
theorem r_div_fi (hx : x = fl2 a) (hb : Bd n) (hn : n ≠ 0) (h : Q (.float (dq a n) s.toks) { s with toks := s.toks + 1 }) : wpAny (model prog w) A (binaryOp .Div (.float x t) (.int n u)) Q E s := by
  subst hx
  unfold dq at h
  exact AutoFloatOps.truediv_fi_2 (not_over_bd hb) (not_zero_ofInt hn) h
theorem r_mod_fi (hx : x = fl2 a) (ha : 0 ≤ a) (ha2 : Bd a) (hb : Bd n) (hn : 0 < n) (h : Q (.float (fl2 (a % (2 * n))) s.toks) { s with toks := s.toks + 1 }) : wpAny (model prog w) A (binaryOp .Mod (.float x t) (.int n u)) Q E s := by
  subst hx
  rw [← fl2_mod ha hn ha2.abs (by unfold Bd at hb; omega)] at h
  exact AutoFloatOps.mod_fi_2 (not_over_bd hb) (not_zero_ofInt (by omega)) h
theorem r_div_ii (hA : A.handled = none) (ha : Bd a) (hn : n ≠ 0) (h : Q (.float (iq a n) s.toks) { s with toks := s.toks + 1 }) : wpAny (model prog w) A (binaryOp .Div (.int a t) (.int n u)) Q E s := by
  unfold iq at h
  refine div_ii_fits hA ?_ (fun e => absurd e hn) (fun _ _ => h)
  have e : (2 : Nat) ^ 40 ≤ 2 ^ 1023 := by decide +kernel
  unfold Bd at ha
  omega
theorem r_add_qi (hb : Bd n) (h : Q (.float (qadd x n) s.toks) { s with toks := s.toks + 1 }) : wpAny (model prog w) A (binaryOp .Add (.float x t) (.int n u)) Q E s := by
  unfold qadd at h
  exact AutoFloatOps.add_fi_1 (not_over_bd hb) h

theorem fin_not {x : UInt64} (h : Float64.isFinite x = true) : ¬ Float64.isNaN x = true ∧ ¬ Float64.isInf x = true :=
  ⟨by rw [not_nan_of_finite h]; exact Bool.false_ne_true, by rw [not_inf_of_finite h]; exact Bool.false_ne_true⟩
theorem r_floor_of (hA : A.handled = none) {k : Int} (hf : toInt Float64.floorOf x = k ∧ Float64.isFinite x = true) (h : Q (.int k s.toks) { s with toks := s.toks + 1 }) : wpAny (model prog w) A (call (.builtin "math.floor") [.float x t]) Q E s :=
  call_floor_float hA (fun c => absurd c (fin_not hf.2).1) (fun c => absurd c (fin_not hf.2).2) (fun _ => by rw [hf.1]; exact h)
theorem r_trunc_of (hA : A.handled = none) {k : Int} (hf : toInt Float64.truncOf x = k ∧ Float64.isFinite x = true) (h : Q (.int k s.toks) { s with toks := s.toks + 1 }) : wpAny (model prog w) A (call (.builtin "math.trunc") [.float x t]) Q E s :=
  call_trunc_float hA (fun c => absurd c (fin_not hf.2).1) (fun c => absurd c (fin_not hf.2).2) (fun _ => by rw [hf.1]; exact h)
theorem r_int_of (hA : A.handled = none) {k : Int} (hf : toInt Float64.truncOf x = k ∧ Float64.isFinite x = true) (h : Q (.int k s.toks) { s with toks := s.toks + 1 }) : wpAny (model prog w) A (call (.type "int") [.float x t]) Q E s :=
  call_int_float3 hA (fun c => absurd c (fin_not hf.2).1) (fun c => absurd c (fin_not hf.2).2) (fun _ => by rw [hf.1]; exact h)

theorem q_floor_fl (ha : 0 ≤ a) (ha2 : Bd a) : toInt Float64.floorOf (fl2 a) = a / 2 ∧ Float64.isFinite (fl2 a) = true :=
  have h := fl2_floor ha2.abs ha
  ⟨h.1, h.2.2⟩
theorem q_trunc_fl (ha : 0 ≤ a) (ha2 : Bd a) : toInt Float64.truncOf (fl2 a) = a / 2 ∧ Float64.isFinite (fl2 a) = true :=
  have h := fl2_floor ha2.abs ha
  ⟨h.2.1, h.2.2⟩
theorem q_floor_dq (ha : 0 ≤ a) (ha2 : Bd a) (hn : 0 < n) (hn2 : n < 524288) : toInt Float64.floorOf (dq a n) = a / (2 * n) ∧ Float64.isFinite (dq a n) = true := by
  unfold dq
  have h := quo_floor ha (by unfold Bd at ha2; omega) hn hn2
  exact ⟨h.1, h.2.2⟩
theorem q_trunc_dq (ha : 0 ≤ a) (ha2 : Bd a) (hn : 0 < n) (hn2 : n < 524288) : toInt Float64.truncOf (dq a n) = a / (2 * n) ∧ Float64.isFinite (dq a n) = true := by
  unfold dq
  have h := quo_floor ha (by unfold Bd at ha2; omega) hn hn2
  exact ⟨h.2.1, h.2.2⟩
theorem q_floor_iq (ha : 0 ≤ a) (ha2 : Bd a) (hn : 0 < n) (hn2 : n < 1048576) : toInt Float64.floorOf (iq a n) = a / n ∧ Float64.isFinite (iq a n) = true := by
  unfold iq
  exact quo_int ha (by unfold Bd at ha2; omega) hn hn2
theorem q_floor_mq {m ad d : Int} (hm : 1 ≤ m) (hm2 : m ≤ 12) (ha : ad ≤ 0) (ha2 : -2 ≤ ad) (hd : 1 ≤ d) (hd2 : d ≤ 31) :
    toInt Float64.floorOf (qadd (qadd (iq (367 * m - 362) 12) ad) d) = (367 * m - 362) / 12 + ad + d ∧ Float64.isFinite (qadd (qadd (iq (367 * m - 362) 12) ad) d) = true := by
  have h := mq_floor hm hm2 ha ha2 hd hd2
  unfold mq at h
  unfold qadd iq
  exact h

theorem cmp_lt_dec {a b : Int} : ((some (compare a b) : Option Ordering) == some Ordering.lt) = decide (a < b) := by
  rcases Int.lt_trichotomy a b with h | h | h
  · rw [Int.compare_eq_lt.mpr h]; simp [h]
  · subst h; simp
  · rw [Int.compare_eq_gt.mpr h]; simp; omega
theorem cmp_gt_dec {a b : Int} : ((some (compare a b) : Option Ordering) == some Ordering.gt) = decide (b < a) := by
  rcases Int.lt_trichotomy a b with h | h | h
  · rw [Int.compare_eq_lt.mpr h]; simp; omega
  · subst h; simp
  · rw [Int.compare_eq_gt.mpr h]; simp [h]
theorem cmp_eq_dec {a b : Int} : ((some (compare a b) : Option Ordering) == some Ordering.eq) = decide (a = b) := by
  rcases Int.lt_trichotomy a b with h | h | h
  · rw [Int.compare_eq_lt.mpr h]; simp; omega
  · subst h; simp
  · rw [Int.compare_eq_gt.mpr h]; simp; omega

theorem r_ge_ff (hx : x = fl2 a) (hy : y = fl2 b) (ha : Bd a) (hb : Bd b) (h : Q (.bool (decide (b ≤ a))) s) : wpAny (model prog w) A (compareOp .GtE (.float x t) (.float y u)) Q E s := by
  subst hx hy
  refine AutoFloatOps.ge_0 ?_
  rw [fl2_cmp ha.abs hb.abs, cmp_gt_dec, cmp_eq_dec]
  have e : (decide (b < a) || decide (a = b)) = decide (b ≤ a) := by
    rw [← Bool.decide_or]
    exact decide_eq_decide.mpr (by omega)
  rw [e]
  exact h
theorem r_lt_fi (hx : x = fl2 a) (ha : Bd a) (h : Q (.bool (decide (a < 2 * n))) s) : wpAny (model prog w) A (compareOp .Lt (.float x t) (.int n u)) Q E s := by
  subst hx
  refine lt_fi ?_
  rw [fl2_cmpInt ha.abs, cmp_lt_dec]
  exact h
theorem r_mod_ii (hn : 0 < n) (h : Q (.int (a % n) s.toks) { s with toks := s.toks + 1 }) : wpAny (model prog w) A (binaryOp .Mod (.int a t) (.int n u)) Q E s := by
  refine mod_int (by omega) ?_
  rw [Int.fmod_eq_emod_of_nonneg _ (by omega)]
  exact h
theorem r_div_fd (hn : 0 < n) (hn2 : n < 1000000000) (h : Q (.int (a / n) s.toks) { s with toks := s.toks + 1 }) : wpAny (model prog w) A (binaryOp .FloorDiv (.int a t) (.int n u)) Q E s := by
  refine floordiv_int (by omega) ?_ (.inl (PyProof.noPylong_small (by omega)))
  rw [Int.fdiv_eq_ediv_of_nonneg _ (by omega)]
  exact h
end
end Mine
namespace Mine
open PySem.Flt
section
variable {prog : Program} {w : World} {A : Around} {E : Value → Shared → Prop} {s : Shared} {t u : Tok} {Q : Value → Shared → Prop} {x y : UInt64} {a b n : Int}
theorem r_floor_dqF (hA : A.handled = none) (ha : 0 ≤ a) (ha2 : Bd a) (hn : 0 < n) (hn2 : n < 524288) (h : ∀ k : Int, 2 * n * k ≤ a → a < 2 * n * k + 2 * n → Q (.int k s.toks) { s with toks := s.toks + 1 }) :
    wpAny (model prog w) A (call (.builtin "math.floor") [.float (dq a n) t]) Q E s := by
  refine r_floor_of hA (q_floor_dq ha ha2 hn hn2) (h _ ?_ ?_)
  · exact Int.mul_ediv_self_le (by omega)
  · have := Int.lt_mul_ediv_self_add (x := a) (k := 2 * n) (by omega); omega
theorem r_mod_fk {k : Int} (hx : x = fl2 a) (ha : 0 ≤ a) (ha2 : Bd a) (hb : Bd n) (hn : 0 < n) (h1 : 2 * n * k ≤ a) (h2 : a < 2 * n * k + 2 * n) (h : Q (.float (fl2 (a - 2 * n * k)) s.toks) { s with toks := s.toks + 1 }) :
    wpAny (model prog w) A (binaryOp .Mod (.float x t) (.int n u)) Q E s := by
  refine r_mod_fi hx ha ha2 hb hn ?_
  have e : a % (2 * n) = a - 2 * n * k := by
    have e1 : a / (2 * n) = k := by
      refine Int.ediv_eq_iff_of_pos (by omega) |>.mpr ⟨?_, ?_⟩
      · rw [Int.mul_comm]; exact h1
      · rw [Int.mul_comm k]; exact h2
    rw [Int.emod_def, e1]
  rw [e]
  exact h
theorem r_add_ifF (hx : x = fl2 a) (ha : Bd a) (hb : Bd n) (h : ∀ z, z = 2 * n + a → Q (.float (fl2 z) s.toks) { s with toks := s.toks + 1 }) : wpAny (model prog w) A (binaryOp .Add (.int n u) (.float x t)) Q E s :=
  r_add_if hx ha hb (h _ rfl)
end
end Mine
namespace Mine
open PySem.Flt
section
variable {prog : Program} {w : World} {A : Around} {E : Value → Shared → Prop} {s : Shared} {t u : Tok} {Q : Value → Shared → Prop} {x y : UInt64} {a b n : Int}
theorem r_trunc_dqF (hA : A.handled = none) (ha : 0 ≤ a) (ha2 : Bd a) (hn : 0 < n) (hn2 : n < 524288) (h : ∀ k : Int, 2 * n * k ≤ a → a < 2 * n * k + 2 * n → Q (.int k s.toks) { s with toks := s.toks + 1 }) :
    wpAny (model prog w) A (call (.builtin "math.trunc") [.float (dq a n) t]) Q E s := by
  refine r_trunc_of hA (q_trunc_dq ha ha2 hn hn2) (h _ ?_ ?_)
  · exact Int.mul_ediv_self_le (by omega)
  · have := Int.lt_mul_ediv_self_add (x := a) (k := 2 * n) (by omega); omega
end
end Mine
end part_Ru

section part_Cal
set_option linter.unusedVariables false
namespace Mine
def leap (y : Int) : Bool := decide (y % 4 = 0) && (decide (y % 100 ≠ 0) || decide (y % 400 = 0))
theorem leap_t {y : Int} : leap y = true ↔ y % 4 = 0 ∧ (y % 100 ≠ 0 ∨ y % 400 = 0) := by unfold leap; simp
theorem leap_f {y : Int} : leap y = false ↔ ¬ (y % 4 = 0 ∧ (y % 100 ≠ 0 ∨ y % 400 = 0)) := by rw [← leap_t]; simp
theorem leap_a {y : Int} (h : y % 4 = 0) (h2 : y % 100 ≠ 0) : (y % 100 != 0) = leap y := by rw [Bool.eq_iff_iff, leap_t]; simp [h, h2]
theorem leap_b {y : Int} (h : y % 4 = 0) (h2 : y % 100 = 0) : (y % 400 == 0) = leap y := by rw [Bool.eq_iff_iff, leap_t]; simp [h, h2]
theorem leap_c {y : Int} (h : y % 4 ≠ 0) : (y % 4 == 0) = leap y := by rw [Bool.eq_iff_iff, leap_t]; simp [h]
/-- 1 in a leap year -/
def lp (y : Int) : Int := if leap y = true then 1 else 0
theorem lp_cases (y : Int) : (lp y = 1 ∧ y % 4 = 0 ∧ (y % 100 ≠ 0 ∨ y % 400 = 0)) ∨ (lp y = 0 ∧ ¬ (y % 4 = 0 ∧ (y % 100 ≠ 0 ∨ y % 400 = 0))) := by
  unfold lp
  by_cases h : leap y = true
  · rw [if_pos h]; exact .inl ⟨rfl, leap_t.mp h⟩
  · rw [if_neg h]; exact .inr ⟨rfl, fun q => h (leap_t.mpr q)⟩
theorem lp_t {y : Int} (h : leap y = true) : lp y = 1 := by unfold lp; rw [if_pos h]
theorem lp_f {y : Int} (h : leap y = false) : lp y = 0 := by unfold lp; rw [if_neg (by rw [h]; exact Bool.false_ne_true)]
/-- days of a month -/
def dim (y m : Int) : Int := if m = 2 then (if leap y = true then 29 else 28) else if m = 4 ∨ m = 6 ∨ m = 9 ∨ m = 11 then 30 else 31
theorem dim_ge (y mo : Int) : 28 ≤ dim y mo := by unfold dim; split <;> (try split) <;> omega
theorem dim_le (y mo : Int) : dim y mo ≤ 31 := by unfold dim; split <;> (try split) <;> omega
theorem no_raise1 {y mo d : Int} (h : 0 < d ∧ d ≤ dim y mo) (h1 : mo = 2) (h2 : leap y = true) (h3 : ¬ d ≤ 29) : False := by unfold dim at h; rw [if_pos h1, if_pos h2] at h; omega
theorem no_raise2 {y mo d : Int} (h : 0 < d ∧ d ≤ dim y mo) (h1 : mo = 2) (h2 : leap y = false) (h3 : ¬ d ≤ 28) : False := by unfold dim at h; rw [if_pos h1, if_neg (by rw [h2]; exact Bool.false_ne_true)] at h; omega
theorem no_raise3 {y mo d : Int} (h : 0 < d ∧ d ≤ dim y mo) (h1 : mo ≠ 2) (h3 : ¬ d ≤ 30) (h4 : mo = 4 ∨ mo = 6 ∨ mo = 9 ∨ mo = 11) : False := by unfold dim at h; rw [if_neg h1, if_pos h4] at h; omega
theorem no_raise4 {y mo d : Int} (h : 0 < d ∧ d ≤ dim y mo) (h3 : ¬ d ≤ 31) : False := by have := dim_le y mo; omega
theorem no_raise5 {y mo d : Int} (h : 0 < d ∧ d ≤ dim y mo) (h3 : ¬ 0 < d) : False := h3 h.1
def adj (y mo : Int) : Int := if mo ≤ 2 then 0 else if leap y = true then -1 else -2
theorem adj_1 {y mo : Int} (h : mo ≤ 2) : adj y mo = 0 := by unfold adj; rw [if_pos h]
theorem adj_2 {y mo : Int} (h : ¬ mo ≤ 2) (h2 : leap y = true) : adj y mo = -1 := by unfold adj; rw [if_neg h, if_pos h2]
theorem adj_3 {y mo : Int} (h : ¬ mo ≤ 2) (h2 : leap y = false) : adj y mo = -2 := by unfold adj; rw [if_neg h, if_neg (by rw [h2]; exact Bool.false_ne_true)]
theorem adj_lp {y mo : Int} (h : ¬ mo ≤ 2) : adj y mo = lp y - 2 := by unfold adj lp; rw [if_neg h]; split <;> rfl
/-- twice the day number of a Gregorian date -/
def jd2 (y mo d : Int) : Int := 2 * (1721424 + 365 * (y - 1) + (y - 1) / 4 - (y - 1) / 100 + (y - 1) / 400 + ((367 * mo - 362) / 12 + adj y mo + d)) + 1
theorem jd2_jan (y : Int) : jd2 y 1 1 = 2 * (1721425 + 365 * (y - 1) + (y - 1) / 4 - (y - 1) / 100 + (y - 1) / 400) + 1 := by
  unfold jd2; rw [adj_1 (by decide)]; omega
theorem jd2_of (y mo d : Int) : jd2 y mo d = jd2 y 1 1 + 2 * ((367 * mo - 362) / 12 + adj y mo + d - 1) := by
  rw [jd2_jan]; unfold jd2; omega

def OkDay (x : Int) : Prop := 4748959 ≤ x ∧ x ≤ 10570000 ∧ x % 2 = 1
/-- the Gregorian year of a day -/
def GregYear (x y : Int) : Prop := 1700 ≤ y ∧ y ≤ 9999 ∧ jd2 y 1 1 ≤ x ∧ x ≤ jd2 y 1 1 + 728 + 2 * lp y
theorem GregYear.of {x y J : Int} (hJ : 2 * (1721425 + 365 * (y - 1) + (y - 1) / 4 - (y - 1) / 100 + (y - 1) / 400) + 1 = J) (h : OkDay x) (h1 : J ≤ x) (h2 : x ≤ J + 728 + 2 * lp y) : GregYear x y := by
  unfold OkDay at h
  rw [← jd2_jan] at hJ
  have hl : 0 ≤ lp y ∧ lp y ≤ 1 := by unfold lp; split <;> decide
  unfold GregYear
  rw [hJ]
  rw [jd2_jan] at hJ
  omega

theorem year_A {x qc c q yi : Int} (ho : OkDay x) (h1 : 292194 * qc ≤ x - 3442851) (h2 : x - 3442851 < 292194 * qc + 292194) (h3 : 73048 * c ≤ x - 3442851 - 292194 * qc) (h4 : x - 3442851 - 292194 * qc < 73048 * c + 73048)
    (h5 : 2922 * q ≤ x - 3442851 - 292194 * qc - 73048 * c) (h6 : x - 3442851 - 292194 * qc - 73048 * c < 2922 * q + 2922) (h7 : 730 * yi ≤ x - 3442851 - 292194 * qc - 73048 * c - 2922 * q) (h8 : x - 3442851 - 292194 * qc - 73048 * c - 2922 * q < 730 * yi + 730)
    (hc : c ≠ 4) (hy : yi ≠ 4) : GregYear x (qc * 400 + c * 100 + q * 4 + yi + 1) := by
  have hx := ho
  unfold OkDay at hx
  have b1 : 0 ≤ c ∧ c ≤ 3 := by omega
  have b2 : 0 ≤ q ∧ q ≤ 24 := by omega
  have b3 : 0 ≤ yi ∧ yi ≤ 3 := by omega
  have hl : 0 ≤ lp (qc * 400 + c * 100 + q * 4 + yi + 1) := by unfold lp; split <;> decide
  have e1 : (qc * 400 + c * 100 + q * 4 + yi + 1 - 1) / 4 = 100 * qc + 25 * c + q := by omega
  have e2 : (qc * 400 + c * 100 + q * 4 + yi + 1 - 1) / 100 = 4 * qc + c := by omega
  have e3 : (qc * 400 + c * 100 + q * 4 + yi + 1 - 1) / 400 = qc := by omega
  refine GregYear.of (J := 3442851 + 292194 * qc + 73048 * c + 2922 * q + 730 * yi) ?_ ho (by omega) (by omega)
  rw [e1, e2, e3]
  omega

theorem year_B {x qc c q yi : Int} (ho : OkDay x) (h1 : 292194 * qc ≤ x - 3442851) (h2 : x - 3442851 < 292194 * qc + 292194) (h3 : 73048 * c ≤ x - 3442851 - 292194 * qc) (h4 : x - 3442851 - 292194 * qc < 73048 * c + 73048)
    (h5 : 2922 * q ≤ x - 3442851 - 292194 * qc - 73048 * c) (h6 : x - 3442851 - 292194 * qc - 73048 * c < 2922 * q + 2922) (h7 : 730 * yi ≤ x - 3442851 - 292194 * qc - 73048 * c - 2922 * q) (h8 : x - 3442851 - 292194 * qc - 73048 * c - 2922 * q < 730 * yi + 730)
    (hc : c = 4) : GregYear x (qc * 400 + c * 100 + q * 4 + yi) := by
  have hx := ho
  unfold OkDay at hx
  subst hc
  have b2 : q = 0 := by omega
  have b3 : yi = 0 := by omega
  subst b2 b3
  have hl := lp_cases (qc * 400 + 4 * 100 + 0 * 4 + 0)
  refine GregYear.of (J := 3442851 + 292194 * qc + 291462) ?_ ho (by omega) (by omega)
  omega

theorem year_C {x qc c q yi : Int} (ho : OkDay x) (h1 : 292194 * qc ≤ x - 3442851) (h2 : x - 3442851 < 292194 * qc + 292194) (h3 : 73048 * c ≤ x - 3442851 - 292194 * qc) (h4 : x - 3442851 - 292194 * qc < 73048 * c + 73048)
    (h5 : 2922 * q ≤ x - 3442851 - 292194 * qc - 73048 * c) (h6 : x - 3442851 - 292194 * qc - 73048 * c < 2922 * q + 2922) (h7 : 730 * yi ≤ x - 3442851 - 292194 * qc - 73048 * c - 2922 * q) (h8 : x - 3442851 - 292194 * qc - 73048 * c - 2922 * q < 730 * yi + 730)
    (hc : c ≠ 4) (hy : yi = 4) : GregYear x (qc * 400 + c * 100 + q * 4 + yi) := by
  have hx := ho
  unfold OkDay at hx
  subst hy
  have b1 : 0 ≤ c ∧ c ≤ 3 := by omega
  have b2 : 0 ≤ q ∧ q ≤ 23 := by omega
  have hl := lp_cases (qc * 400 + c * 100 + q * 4 + 4)
  have e1 : (qc * 400 + c * 100 + q * 4 + 4 - 1) / 4 = 100 * qc + 25 * c + q := by omega
  have e2 : (qc * 400 + c * 100 + q * 4 + 4 - 1) / 100 = 4 * qc + c := by omega
  have e3 : (qc * 400 + c * 100 + q * 4 + 4 - 1) / 400 = qc := by omega
  have e4 : (qc * 400 + c * 100 + q * 4 + 4) % 4 = 0 := by omega
  have e5 : (qc * 400 + c * 100 + q * 4 + 4) % 100 ≠ 0 := by omega
  have e6 : lp (qc * 400 + c * 100 + q * 4 + 4) = 1 := by
    rcases hl with h | h
    · exact h.1
    · exact absurd ⟨e4, .inl e5⟩ h.2
  refine GregYear.of (J := 3442851 + 292194 * qc + 73048 * c + 2922 * q + 2190) ?_ ho (by omega) (by omega)
  rw [e1, e2, e3]
  omega

/-- the shift of the month's formula -/
def LeapAdj (x y la : Int) : Prop := (x - jd2 y 1 1 < 116 + 2 * lp y ∧ la = 0) ∨ (116 + 2 * lp y ≤ x - jd2 y 1 1 ∧ la = 2 - lp y)

def GregDate (x y m d : Int) : Prop := 1700 ≤ y ∧ y ≤ 9999 ∧ 1 ≤ m ∧ m ≤ 12 ∧ 1 ≤ d ∧ d ≤ dim y m ∧ x = jd2 y m d

theorem month_in {x y la m : Int} (ho : OkDay x) (hy : GregYear x y) (hl : LeapAdj x y la) (h1 : 734 * m ≤ (x - jd2 y 1 1 + 2 * la) * 12 + 746) (h2 : (x - jd2 y 1 1 + 2 * la) * 12 + 746 < 734 * m + 734) : 1 ≤ m ∧ m ≤ 12 := by
  unfold GregYear at hy
  unfold LeapAdj at hl
  have := lp_cases y
  generalize jd2 y 1 1 = J at *
  generalize lp y = l at *
  omega

theorem greg_day {x y la m : Int} (ho : OkDay x) (hy : GregYear x y) (hl : LeapAdj x y la) (h1 : 734 * m ≤ (x - jd2 y 1 1 + 2 * la) * 12 + 746) (h2 : (x - jd2 y 1 1 + 2 * la) * 12 + 746 < 734 * m + 734) :
    jd2 y m 1 ≤ x ∧ GregDate x y m ((x - jd2 y m 1) / 2 + 1) := by
  have hm := month_in ho hy hl h1 h2
  have e2 : ∀ d, jd2 y m d = jd2 y m 1 + 2 * (d - 1) := fun d => by unfold jd2; omega
  have hJ1 : jd2 y 1 1 % 2 = 1 := by rw [jd2_jan]; omega
  have key : jd2 y m 1 ≤ x ∧ (x - jd2 y m 1) / 2 + 1 ≤ dim y m ∧ (x - jd2 y m 1) % 2 = 0 := by
    rw [jd2_of y m 1]
    unfold GregYear at hy
    unfold LeapAdj at hl
    unfold OkDay at ho
    have hlc : lp y = 0 ∨ lp y = 1 := by unfold lp; split <;> simp
    have hdim : dim y m = if m = 2 then 28 + lp y else if m = 4 ∨ m = 6 ∨ m = 9 ∨ m = 11 then 30 else 31 := by
      unfold dim lp
      split
      · split <;> rfl
      · rfl
    rw [hdim]
    by_cases hm2 : m ≤ 2
    · rw [adj_1 hm2]
      generalize jd2 y 1 1 = J at *
      generalize lp y = l at *
      obtain h | h : m = 1 ∨ m = 2 := by omega
      all_goals (subst h; refine ⟨?_, ?_, ?_⟩ <;> (try simp) <;> omega)
    · rw [adj_lp hm2]
      generalize jd2 y 1 1 = J at *
      generalize lp y = l at *
      obtain h | h | h | h | h | h | h | h | h | h : m = 3 ∨ m = 4 ∨ m = 5 ∨ m = 6 ∨ m = 7 ∨ m = 8 ∨ m = 9 ∨ m = 10 ∨ m = 11 ∨ m = 12 := by omega
      all_goals (subst h; refine ⟨?_, ?_, ?_⟩ <;> (try simp) <;> omega)
  refine ⟨key.1, ?_⟩
  unfold GregDate
  unfold GregYear at hy
  have := e2 ((x - jd2 y m 1) / 2 + 1)
  refine ⟨hy.1, hy.2.1, hm.1, hm.2, by omega, key.2.1, ?_⟩
  rw [this]
  omega
end Mine
namespace Mine
theorem jd2_bd {y mo : Int} (h : 1 ≤ y ∧ y ≤ 10000 ∧ 1 ≤ mo ∧ mo ≤ 12) : 3442851 ≤ jd2 y mo 1 ∧ jd2 y mo 1 ≤ 20000000 := by
  rw [jd2_of, jd2_jan]
  have : -2 ≤ adj y mo ∧ adj y mo ≤ 0 := by unfold adj; split <;> (try split) <;> decide
  have h2 : mo ≤ 2 → adj y mo = 0 := fun q => adj_1 q
  omega
theorem LeapAdj.a {x y z : Int} (h : x - z < 2 * (58 + if leap y = true then 1 else 0)) (hz : z = jd2 y 1 1) : LeapAdj x y 0 := by
  subst hz
  have e : lp y = if leap y = true then 1 else 0 := rfl
  rw [← e] at h
  exact .inl ⟨by omega, rfl⟩
theorem LeapAdj.b {x y z : Int} (h : ¬ x - z < 2 * (58 + if leap y = true then 1 else 0)) (hz : z = jd2 y 1 1) (hl : leap y = true) : LeapAdj x y 1 := by
  subst hz
  have e : lp y = if leap y = true then 1 else 0 := rfl
  rw [← e] at h
  have := lp_t hl
  exact .inr ⟨by omega, by omega⟩
theorem LeapAdj.c {x y z : Int} (h : ¬ x - z < 2 * (58 + if leap y = true then 1 else 0)) (hz : z = jd2 y 1 1) (hl : leap y = false) : LeapAdj x y 2 := by
  subst hz
  have e : lp y = if leap y = true then 1 else 0 := rfl
  rw [← e] at h
  have := lp_f hl
  exact .inr ⟨by omega, by omega⟩
theorem LeapAdj.bd {x y la : Int} (h : LeapAdj x y la) : 0 ≤ la ∧ la ≤ 2 := by
  unfold LeapAdj at h
  have := lp_cases y
  omega
theorem GregYear.bd {x y : Int} (h : GregYear x y) : 1700 ≤ y ∧ y ≤ 9999 ∧ jd2 y 1 1 ≤ x ∧ x ≤ jd2 y 1 1 + 730 := by
  unfold GregYear at h
  have := lp_cases y
  omega
theorem month_pre {x y la m z : Int} (ho : OkDay x) (hy : GregYear x y) (hl : LeapAdj x y la) (hz : z = jd2 y 1 1) (h1 : 2 * 367 * m ≤ (x - z + 2 * la) * 12 + 2 * 373) (h2 : (x - z + 2 * la) * 12 + 2 * 373 < 2 * 367 * m + 2 * 367) : 1 ≤ y ∧ y ≤ 10000 ∧ 1 ≤ m ∧ m ≤ 12 := by
  subst hz
  have h := month_in ho hy hl (m := m) (by omega) (by omega)
  have := hy.bd
  omega
theorem day_end {x y la m z z2 : Int} (ho : OkDay x) (hy : GregYear x y) (hl : LeapAdj x y la) (hz : z = jd2 y 1 1) (h1 : 2 * 367 * m ≤ (x - z + 2 * la) * 12 + 2 * 373) (h2 : (x - z + 2 * la) * 12 + 2 * 373 < 2 * 367 * m + 2 * 367) (hz2 : z2 = jd2 y m 1) : 0 ≤ x - z2 ∧ GregDate x y m ((x - z2) / 2 + 1) := by
  subst hz hz2
  have h := greg_day ho hy hl (m := m) (by omega) (by omega)
  exact ⟨by omega, h.2⟩
end Mine
namespace Mine
/-- ordinal of January 1 -/
def jan (y : Int) : Int := 1 + 365 * (y - 1) + (y - 1) / 4 - (y - 1) / 100 + (y - 1) / 400
theorem jd2_is (y : Int) : jd2 y 1 1 = 2 * jan y + 3442849 := by rw [jd2_jan]; unfold jan; omega
theorem jan_next (y : Int) : jan (y + 1) = jan y + 365 + lp y := by
  have h := lp_cases y
  unfold jan
  omega
def wpy (y : Int) : Int := if (jan y + 6) % 7 = 3 ∨ ((jan y + 6) % 7 = 2 ∧ leap y = true) then 53 else 52
theorem wpy_1 {y z : Int} (hz : z = jd2 y 1 1) (h : (z + 1) / 2 % 7 = 3) : 53 = wpy y := by
  rw [jd2_is] at hz; unfold wpy; rw [if_pos (by omega)]
theorem wpy_2 {y z : Int} (hz : z = jd2 y 1 1) (h : (z + 1) / 2 % 7 = 2) (hl : leap y = true) : 53 = wpy y := by
  rw [jd2_is] at hz; unfold wpy; rw [if_pos (.inr ⟨by omega, hl⟩)]
theorem wpy_3 {y z : Int} (hz : z = jd2 y 1 1) (h : ¬ (z + 1) / 2 % 7 = 3) (h2 : ¬ (z + 1) / 2 % 7 = 2) : 52 = wpy y := by
  rw [jd2_is] at hz; unfold wpy; rw [if_neg (by omega)]
theorem wpy_4 {y z : Int} (hz : z = jd2 y 1 1) (h : ¬ (z + 1) / 2 % 7 = 3) (hl : leap y = false) : 52 = wpy y := by
  rw [jd2_is] at hz; unfold wpy; rw [if_neg]
  rintro (q | q)
  · omega
  · rw [hl] at q; exact Bool.false_ne_true q.2
def OrdDate (x y p : Int) : Prop := 1700 ≤ y ∧ y ≤ 9999 ∧ 1 ≤ p ∧ p ≤ 365 + lp y ∧ x = jd2 y 1 1 + 2 * (p - 1)
theorem GregDate.bd {x y m d : Int} (h : GregDate x y m d) : 1 ≤ y ∧ y ≤ 10000 ∧ 1 ≤ m ∧ m ≤ 12 ∧ 0 < d ∧ d ≤ 31 ∧ d ≤ dim y m := by
  unfold GregDate at h
  have := dim_le y m
  omega
theorem GregDate.ord {x y m d : Int} (h : GregDate x y m d) : 0 ≤ jd2 y m d - jd2 y 1 1 ∧ OrdDate x y ((jd2 y m d - jd2 y 1 1) / 2 + 1) := by
  have hb := h.bd
  unfold GregDate at h
  obtain ⟨h1, h2, h3, h4, h5, h6, h7⟩ := h
  have e : jd2 y m d - jd2 y 1 1 = 2 * ((367 * m - 362) / 12 + adj y m + d - 1) := by rw [jd2_of]; omega
  have key : 0 ≤ (367 * m - 362) / 12 + adj y m + d - 1 ∧ (367 * m - 362) / 12 + adj y m + d - 1 + 1 ≤ 365 + lp y := by
    have hlc : lp y = 0 ∨ lp y = 1 := by unfold lp; split <;> simp
    have hdim : dim y m = if m = 2 then 28 + lp y else if m = 4 ∨ m = 6 ∨ m = 9 ∨ m = 11 then 30 else 31 := by
      unfold dim lp
      split
      · split <;> rfl
      · rfl
    rw [hdim] at h6
    by_cases hm2 : m ≤ 2
    · rw [adj_1 hm2]
      generalize lp y = l at *
      obtain h | h : m = 1 ∨ m = 2 := by omega
      all_goals (subst h; simp at h6; omega)
    · rw [adj_lp hm2]
      generalize lp y = l at *
      obtain h | h | h | h | h | h | h | h | h | h : m = 3 ∨ m = 4 ∨ m = 5 ∨ m = 6 ∨ m = 7 ∨ m = 8 ∨ m = 9 ∨ m = 10 ∨ m = 11 ∨ m = 12 := by omega
      all_goals (subst h; simp at h6; omega)
  rw [e]
  refine ⟨by omega, h1, h2, by omega, by omega, ?_⟩
  rw [h7]
  omega
theorem GregDate.ordZ {x y m d z z2 : Int} (h : GregDate x y m d) (hz : z = jd2 y m d) (hz2 : z2 = jd2 y 1 1) : 0 ≤ z - z2 ∧ OrdDate x y ((z - z2) / 2 + 1) := by
  subst hz hz2; exact h.ord
end Mine
namespace Mine
theorem yearJ_A {qc c q yi : Int} (b1 : 0 ≤ c ∧ c ≤ 3) (b2 : 0 ≤ q ∧ q ≤ 24) (b3 : 0 ≤ yi ∧ yi ≤ 3) : jd2 (qc * 400 + c * 100 + q * 4 + yi + 1) 1 1 = 3442851 + 292194 * qc + 73048 * c + 2922 * q + 730 * yi := by
  have e1 : (qc * 400 + c * 100 + q * 4 + yi + 1 - 1) / 4 = 100 * qc + 25 * c + q := by omega
  have e2 : (qc * 400 + c * 100 + q * 4 + yi + 1 - 1) / 100 = 4 * qc + c := by omega
  have e3 : (qc * 400 + c * 100 + q * 4 + yi + 1 - 1) / 400 = qc := by omega
  rw [jd2_jan, e1, e2, e3]
  omega
/-- no last day of a year that 400 divides -/
def NotOdd (x : Int) : Prop := (x - 3442851) % 292194 ≠ 292192
def PosDate (x y m d : Int) : Prop := 1 ≤ y ∧ y + 1788 ≤ 9999 ∧ 1 ≤ m ∧ m ≤ 14 ∧ 1 ≤ d ∧ d ≤ 28 ∧ x = jd2 (y + 1788) 1 1 + 2 * (28 * (m - 1) + d - 1) ∧ 28 * (m - 1) + d ≤ 365 + lp (y + 1788)
theorem cent_ok {x qc c : Int} (hx : OkDay x) (ho : NotOdd x) (h1 : 2 * 146097 * qc ≤ x - 3442851) (h2 : x - 3442851 < 2 * 146097 * qc + 2 * 146097) (h3 : 2 * 36524 * c ≤ x - 3442851 - 2 * 146097 * qc) (h4 : x - 3442851 - 2 * 146097 * qc < 2 * 36524 * c + 2 * 36524) : 0 ≤ c ∧ c ≤ 3 := by
  unfold OkDay at hx
  unfold NotOdd at ho
  omega
theorem pos_A {x qc c q yi k : Int} (hx : OkDay x) (ho : NotOdd x) (h1 : 2 * 146097 * qc ≤ x - 3442851) (h2 : x - 3442851 < 2 * 146097 * qc + 2 * 146097) (h3 : 2 * 36524 * c ≤ x - 3442851 - 2 * 146097 * qc) (h4 : x - 3442851 - 2 * 146097 * qc < 2 * 36524 * c + 2 * 36524)
    (h5 : 2 * 1461 * q ≤ x - 3442851 - 2 * 146097 * qc - 2 * 36524 * c) (h6 : x - 3442851 - 2 * 146097 * qc - 2 * 36524 * c < 2 * 1461 * q + 2 * 1461) (h7 : 2 * 365 * yi ≤ x - 3442851 - 2 * 146097 * qc - 2 * 36524 * c - 2 * 1461 * q) (h8 : x - 3442851 - 2 * 146097 * qc - 2 * 36524 * c - 2 * 1461 * q < 2 * 365 * yi + 2 * 365)
    (hy : yi ≠ 4) (h9 : 2 * 28 * k ≤ x - 3442851 - 2 * (qc * 146097) - 2 * (c * 36524) - 2 * (q * 1461) - 2 * (yi * 365)) (h10 : x - 3442851 - 2 * (qc * 146097) - 2 * (c * 36524) - 2 * (q * 1461) - 2 * (yi * 365) < 2 * 28 * k + 2 * 28) :
    PosDate x (qc * 400 + c * 100 + q * 4 + yi - 1789 + 2) (k + 1) ((x - 3442851 - 2 * (qc * 146097) - 2 * (c * 36524) - 2 * (q * 1461) - 2 * (yi * 365) - 2 * (k * 28)) / 2 + 1) := by
  have b1 := cent_ok hx ho h1 h2 h3 h4
  unfold OkDay at hx
  have b2 : 0 ≤ q ∧ q ≤ 24 := by omega
  have b3 : 0 ≤ yi ∧ yi ≤ 3 := by omega
  have e0 : qc * 400 + c * 100 + q * 4 + yi - 1789 + 2 + 1788 = qc * 400 + c * 100 + q * 4 + yi + 1 := by omega
  have hl : 0 ≤ lp (qc * 400 + c * 100 + q * 4 + yi + 1) := by unfold lp; split <;> decide
  unfold PosDate
  rw [e0, yearJ_A b1 b2 b3]
  omega
theorem pos_C {x qc c q yi : Int} (hx : OkDay x) (ho : NotOdd x) (h1 : 2 * 146097 * qc ≤ x - 3442851) (h2 : x - 3442851 < 2 * 146097 * qc + 2 * 146097) (h3 : 2 * 36524 * c ≤ x - 3442851 - 2 * 146097 * qc) (h4 : x - 3442851 - 2 * 146097 * qc < 2 * 36524 * c + 2 * 36524)
    (h5 : 2 * 1461 * q ≤ x - 3442851 - 2 * 146097 * qc - 2 * 36524 * c) (h6 : x - 3442851 - 2 * 146097 * qc - 2 * 36524 * c < 2 * 1461 * q + 2 * 1461) (h7 : 2 * 365 * yi ≤ x - 3442851 - 2 * 146097 * qc - 2 * 36524 * c - 2 * 1461 * q) (h8 : x - 3442851 - 2 * 146097 * qc - 2 * 36524 * c - 2 * 1461 * q < 2 * 365 * yi + 2 * 365)
    (hy : yi = 4) : PosDate x (qc * 400 + c * 100 + q * 4 + yi - 1 - 1789 + 2) 14 2 := by
  have b1 := cent_ok hx ho h1 h2 h3 h4
  subst hy
  unfold OkDay at hx
  have b2 : 0 ≤ q ∧ q ≤ 23 := by omega
  have hl := lp_cases (qc * 400 + c * 100 + q * 4 + 4)
  have e4 : (qc * 400 + c * 100 + q * 4 + 4) % 4 = 0 := by omega
  have e5 : (qc * 400 + c * 100 + q * 4 + 4) % 100 ≠ 0 := by omega
  have e6 : lp (qc * 400 + c * 100 + q * 4 + 4) = 1 := by
    rcases hl with h | h
    · exact h.1
    · exact absurd ⟨e4, .inl e5⟩ h.2
  have e0 : qc * 400 + c * 100 + q * 4 + 4 - 1 - 1789 + 2 + 1788 = qc * 400 + c * 100 + q * 4 + 3 + 1 := by omega
  have e7 : qc * 400 + c * 100 + q * 4 + 3 + 1 = qc * 400 + c * 100 + q * 4 + 4 := by omega
  unfold PosDate
  rw [e0, yearJ_A b1 (by omega) (by decide), e7, e6]
  omega
end Mine
namespace Mine
theorem pre28 {y mo d : Int} (h : 1 ≤ y ∧ y ≤ 10000 ∧ 1 ≤ mo ∧ mo ≤ 12 ∧ 1 ≤ d ∧ d ≤ 28) : 1 ≤ y ∧ y ≤ 10000 ∧ 1 ≤ mo ∧ mo ≤ 12 ∧ 0 < d ∧ d ≤ 31 ∧ d ≤ dim y mo := by
  have := dim_ge y mo
  omega
/-- twice the day on which a Saka year begins -/
def ist (y : Int) : Int := jd2 (y + 78) 1 1 + 160
def ioff (y m : Int) : Int := if m = 1 then 0 else if m ≤ 7 then 30 + lp (y + 78) + 31 * (m - 2) else 185 + lp (y + 78) + 30 * (m - 7)
def ilen (y m : Int) : Int := if m = 1 then 30 + lp (y + 78) else if m ≤ 6 then 31 else 30
def indJ (y m d : Int) : Int := ist y + 2 * (ioff y m + d - 1)
theorem start_is {y z : Int} (hz : z = jd2 (y + 78) 3 (22 - if leap (y + 78) = true then 1 else 0)) : z = ist y := by
  have e : lp (y + 78) = if leap (y + 78) = true then 1 else 0 := rfl
  rw [← e] at hz
  rw [hz, jd2_of, adj_lp (by decide)]
  unfold ist
  omega
theorem indJ_1 {y z d c m mn : Int} (hz : z = jd2 (y + 78) 3 (22 - if leap (y + 78) = true then 1 else 0)) (hc : c = 30 + lp (y + 78)) (h1 : 2 ≤ m) (h2 : m < 8) (hmn : mn = m - 2) : z + 2 * c + 2 * (mn * 31) + 2 * (d - 1) = indJ y m d := by
  have := start_is hz
  unfold indJ ioff
  rw [if_neg (by omega), if_pos (by omega)]
  omega
def IndDate (x y m d : Int) : Prop := 1600 ≤ y ∧ y ≤ 9921 ∧ 1 ≤ m ∧ m ≤ 12 ∧ 1 ≤ d ∧ d ≤ ilen y m ∧ x = indJ y m d
def MayDate (x b k t u n : Int) : Prop := x - 1168565 = 2 * (144000 * b + 7200 * k + 360 * t + 20 * u + n) ∧ 0 ≤ b ∧ b ≤ 1000 ∧ 0 ≤ k ∧ k < 20 ∧ 0 ≤ t ∧ t < 20 ∧ 0 ≤ u ∧ u < 18 ∧ 0 ≤ n ∧ n < 20
end Mine
namespace Mine
theorem ind_t {y z mo d : Int} (hz : z = jd2 (y + 78) 3 (22 - if leap (y + 78) = true then 1 else 0)) (hl : leap (y + 78) = true) : indJ y mo d = z + 2 * ((if mo = 1 then 0 else if mo ≤ 7 then 31 + 31 * (mo - 2) else 186 + 30 * (mo - 7)) + d - 1) := by
  have h1 := start_is hz
  have h2 := lp_t hl
  unfold indJ ioff
  rw [h2, ← h1]
  split <;> (try split) <;> omega
theorem ind_f {y z mo d : Int} (hz : z = jd2 (y + 78) 3 (22 - if leap (y + 78) = true then 1 else 0)) (hl : leap (y + 78) = false) : indJ y mo d = z + 2 * ((if mo = 1 then 0 else if mo ≤ 7 then 30 + 31 * (mo - 2) else 185 + 30 * (mo - 7)) + d - 1) := by
  have h1 := start_is hz
  have h2 := lp_f hl
  unfold indJ ioff
  rw [h2, ← h1]
  split <;> (try split) <;> omega
end Mine
namespace Mine
theorem GregDate.jan {x y m d : Int} (h : GregDate x y m d) : jd2 y 1 1 ≤ x ∧ x ≤ jd2 y 1 1 + 728 + 2 * lp y ∧ 0 ≤ lp y ∧ lp y ≤ 1 ∧ 1700 ≤ y ∧ y ≤ 9999 := by
  have h1 := h.ord
  have h2 := lp_cases y
  unfold GregDate at h
  unfold OrdDate at h1
  omega
end Mine
namespace Mine
theorem jd2_prev (y : Int) : jd2 (y - 1) 1 1 = jd2 y 1 1 - 2 * (365 + lp (y - 1)) := by
  have h := jan_next (y - 1)
  rw [show y - 1 + 1 = y by omega] at h
  rw [jd2_is, jd2_is]
  omega
theorem lp_01 (y : Int) : 0 ≤ lp y ∧ lp y ≤ 1 := by have := lp_cases y; omega
theorem ind_A1 {x y z m d c : Int} (ho : OkDay x) (hG : GregDate x y m d) (hz : z = jd2 y 1 1) (hc : c = 30 + lp y) (h1 : ¬ x - z < 2 * 80) (h2 : x - z - 2 * 80 < 2 * c) : IndDate x (y - 78) 1 ((x - z - 2 * 80 + 2 * 1) / 2) := by
  have hJ := hG.jan
  have ho1 : x % 2 = 1 := ho.2.2
  have hz1 : z % 2 = 1 := by rw [hz, jd2_is]; omega
  unfold IndDate indJ ioff ilen ist
  rw [if_pos rfl, if_pos rfl, show y - 78 + 78 = y by omega, ← hz]
  rw [← hz] at hJ
  omega
theorem ind_A2 {x y z m d c k : Int} (ho : OkDay x) (hG : GregDate x y m d) (hz : z = jd2 y 1 1) (hc : c = 30 + lp y) (h3 : x - z - 2 * 80 - 2 * c < 2 * (31 * 5)) (h4 : ¬ x - z - 2 * 80 < 2 * c) (h5 : 2 * 31 * k ≤ x - z - 2 * 80 - 2 * c) (h6 : x - z - 2 * 80 - 2 * c < 2 * 31 * k + 2 * 31) : IndDate x (y - 78) (k + 2) ((x - z - 2 * 80 - 2 * c - 2 * 31 * k + 2 * 1) / 2) := by
  have hJ := hG.jan
  have ho1 : x % 2 = 1 := ho.2.2
  have hz1 : z % 2 = 1 := by rw [hz, jd2_is]; omega
  have hk : 0 ≤ k ∧ k ≤ 4 := by omega
  have e : ioff (y - 78) (k + 2) = 30 + lp y + 31 * k := by
    unfold ioff
    rw [show y - 78 + 78 = y by omega, if_neg (by omega), if_pos (by omega)]
    omega
  have e2 : ilen (y - 78) (k + 2) = 31 := by
    unfold ilen
    rw [if_neg (by omega), if_pos (by omega)]
  unfold IndDate indJ ist
  rw [e, e2, show y - 78 + 78 = y by omega, ← hz]
  rw [← hz] at hJ
  omega
theorem ind_A3 {x y z m d c k : Int} (ho : OkDay x) (hG : GregDate x y m d) (hz : z = jd2 y 1 1) (hc : c = 30 + lp y) (h3 : ¬ x - z - 2 * 80 - 2 * c < 2 * (31 * 5)) (h5 : 2 * 30 * k ≤ x - z - 2 * 80 - 2 * c - 2 * (31 * 5)) (h6 : x - z - 2 * 80 - 2 * c - 2 * (31 * 5) < 2 * 30 * k + 2 * 30) : IndDate x (y - 78) (k + 7) ((x - z - 2 * 80 - 2 * c - 2 * (31 * 5) - 2 * 30 * k + 2 * 1) / 2) := by
  have hJ := hG.jan
  have ho1 : x % 2 = 1 := ho.2.2
  have hz1 : z % 2 = 1 := by rw [hz, jd2_is]; omega
  have e : ioff (y - 78) (k + 7) = 185 + lp y + 30 * k := by
    unfold ioff
    rw [show y - 78 + 78 = y by omega, if_neg (by omega)]
    split <;> omega
  have e2 : ilen (y - 78) (k + 7) = 30 := by
    unfold ilen
    rw [if_neg (by omega), if_neg (by omega)]
  unfold IndDate indJ ist
  rw [e, e2, show y - 78 + 78 = y by omega, ← hz]
  rw [← hz] at hJ
  omega
theorem ind_B {x y z m d c k : Int} (ho : OkDay x) (hG : GregDate x y m d) (hz : z = jd2 y 1 1) (h1 : x - z < 2 * 80) (h5 : 2 * 30 * k ≤ x - z + 2 * (c + 31 * 5 + 30 * 3 + 10 + 80) - 2 * 80 - 2 * c - 2 * (31 * 5)) (h6 : x - z + 2 * (c + 31 * 5 + 30 * 3 + 10 + 80) - 2 * 80 - 2 * c - 2 * (31 * 5) < 2 * 30 * k + 2 * 30) : IndDate x (y - 78 - 1) (k + 7) ((x - z + 2 * (c + 31 * 5 + 30 * 3 + 10 + 80) - 2 * 80 - 2 * c - 2 * (31 * 5) - 2 * 30 * k + 2 * 1) / 2) := by
  have hJ := hG.jan
  have hl := lp_01 (y - 1)
  have ho1 : x % 2 = 1 := ho.2.2
  have hz1 : z % 2 = 1 := by rw [hz, jd2_is]; omega
  rw [← hz] at hJ
  have hk : 3 ≤ k ∧ k ≤ 5 := by omega
  have e : ioff (y - 78 - 1) (k + 7) = 185 + lp (y - 1) + 30 * k := by
    unfold ioff
    rw [show y - 78 - 1 + 78 = y - 1 by omega, if_neg (by omega), if_neg (by omega)]
    omega
  have hp := jd2_prev y
  rw [← hz] at hp
  have e2 : ilen (y - 78 - 1) (k + 7) = 30 := by
    unfold ilen
    rw [if_neg (by omega), if_neg (by omega)]
  unfold IndDate indJ ist
  rw [e, e2, show y - 78 - 1 + 78 = y - 1 by omega, hp]
  omega
theorem c_lt {y : Int} (h : leap y = true) : 31 = 30 + lp y := by rw [lp_t h]; rfl
theorem c_lf {y : Int} (h : leap y = false) : 30 = 30 + lp y := by rw [lp_f h]; rfl
end Mine
end part_Cal

section part_Cl
open PySem PySem.W PyProof.Rows PySem.Calls
set_option Elab.async false
namespace Mine
set_option maxRecDepth 100000
set_option maxHeartbeats 8000000

abbrev ClAt (w : World) (lv : Nat) (f : Addr) (vs : List Value) (pre : Prop) (ret : (h₀ : Heap) → (L : Addr) → (m : Str → Option Value) → (news : List (Addr × Obj)) → (s : Shared) → (Q : Value → Shared → Prop) → Prop) : Prop :=
  ∀ (p : Program) (loose : List Str) (mean : ExcName → Option Value) (mg mb : Str → Option Value) (dp un : Nat) (gd : Option (List Code)) (cn : Str) (cs : Scope) (a : Addr) (ccd : Value) (cl : List (Str × Addr)) (outer : List Env) (A₀ : Around) (base h₀ : Heap) (L : Addr) (m : Str → Option Value) (news : List (Addr × Obj)) (s : Shared) (Q E : Value → Shared → Prop),
    Below A₀ base outer h₀ → Fr h₀ L s.heap m → (hd.heap_39 w.params).In h₀ → News h₀ L s.heap news → Top p loose mean mg mb h₀ → cs.kind = .function → dp + lv < recursionLimit → un + 8 * lv < cLine → pre → ret h₀ L m news s Q →
    wpAny (model Challenge.rw_ak5017_01.row.prog w) (ktrTop dp un gd cn cs L a ccd cl outer) (call (.ref f) vs) Q E s

abbrev RetV (R : Tok → Value) (h₀ : Heap) (L : Addr) (m : Str → Option Value) (news : List (Addr × Obj)) (s : Shared) (Q : Value → Shared → Prop) : Prop :=
  ∀ (t : Tok) (h' : Heap) (tk' : Nat), Fr h₀ L h' m → News h₀ L h' news → Q (R t) { s with heap := h', toks := tk' }

theorem ClAt.use {w : World} {lv : Nat} {f : Addr} {vs : List Value} {pre : Prop} {ret : (h₀ : Heap) → (L : Addr) → (m : Str → Option Value) → (news : List (Addr × Obj)) → (s : Shared) → (Q : Value → Shared → Prop) → Prop} (c : ClAt w lv f vs pre ret)
    {p : Program} {loose : List Str} {mean : ExcName → Option Value} {mg mb : Str → Option Value} {dp un : Nat} {gd : Option (List Code)} {cn : Str} {cs : Scope} {a : Addr} {ccd : Value} {cl : List (Str × Addr)} {outer : List Env} {A₀ : Around} {base h₀ : Heap} {L : Addr} {m : Str → Option Value} {news : List (Addr × Obj)} {s : Shared} {Q E : Value → Shared → Prop}
    (B : Below A₀ base outer h₀) (F : Fr h₀ L s.heap m) (X : (hd.heap_39 w.params).In h₀) (N : News h₀ L s.heap news) (T : Top p loose mean mg mb h₀) (hk : cs.kind = .function) (hd : dp + lv < recursionLimit) (hu : un + 8 * lv < cLine) (hp : pre) (hr : ret h₀ L m news s Q) :
    wpAny (model Challenge.rw_ak5017_01.row.prog w) (ktrTop dp un gd cn cs L a ccd cl outer) (call (.ref f) vs) Q E s :=
  c _ _ _ _ _ _ _ _ _ _ _ _ _ _ _ _ _ _ _ _ _ _ _ B F X N T hk hd hu hp hr

section
variable {h₀ h' : Heap} {L : Addr} {m : Str → Option Value} {news news' : List (Addr × Obj)} {s : Shared} {Q : Value → Shared → Prop} {tk' : Nat}
theorem end_b {x y : Bool} (hret : RetV (fun _ => .bool x) h₀ L m news s Q) (e : y = x) (F : Fr h₀ L h' m) (N : News h₀ L h' news') (hs : ∀ p ∈ news, p ∈ news') : Q (.bool y) { s with heap := h', toks := tk' } := by
  subst e; exact hret 0 h' tk' F (fun p hp => N p (hs p hp))
theorem end_i {x y : Int} {t : Tok} (hret : RetV (fun t => .int x t) h₀ L m news s Q) (e : y = x) (F : Fr h₀ L h' m) (N : News h₀ L h' news') (hs : ∀ p ∈ news, p ∈ news') : Q (.int y t) { s with heap := h', toks := tk' } := by
  subst e; exact hret t h' tk' F (fun p hp => N p (hs p hp))
theorem end_f {x y : Int} {t : Tok} (hret : RetV (fun t => .float (fl2 x) t) h₀ L m news s Q) (e : y = x) (F : Fr h₀ L h' m) (N : News h₀ L h' news') (hs : ∀ p ∈ news, p ∈ news') : Q (.float (fl2 y) t) { s with heap := h', toks := tk' } := by
  subst e; exact hret t h' tk' F (fun p hp => N p (hs p hp))
end

end Mine
namespace Mine
open PySem PySem.W PyProof.Rows PySem.Calls
set_option maxRecDepth 100000
theorem r_in30 {prog : Program} {w : World} {A : Around} {E : Value → Shared → Prop} {s : Shared} {h₀ : Heap} {L : Addr} {m : Str → Option Value} {mo : Int} {tm : Tok} {Q : Value → Shared → Prop} (F : Fr h₀ L s.heap m) (X : (hd.heap_39 w.params).In h₀)
    (h : Q (.bool (decide (mo = 4 ∨ mo = 6 ∨ mo = 9 ∨ mo = 11))) s) : wpAny (model prog w) A (compareOp .In (.int mo tm) (.ref 60)) Q E s := by
  have hT : ∃ l : List Value, IsTup s.heap 60 l.toArray ∧ IntsAre l [4, 6, 9, 11] := by
    refine' ⟨_, tupK (dd := none) (n := _) (l := _) (sl := _) (X.keeps F.keep) ?hl, ?hi⟩
    case hl => with_unfolding_all rfl
    case hi => exact .cons _ _ (.cons _ _ (.cons _ _ (.cons _ _ .nil)))
  obtain ⟨items, h1, h2⟩ := hT
  refine in_tuple_ints h1 h2 ?_
  have e : (([4, 6, 9, 11] : List Int).any (· == mo)) = decide (mo = 4 ∨ mo = 6 ∨ mo = 9 ∨ mo = 11) := by
    rw [Bool.eq_iff_iff]
    simp only [List.any_cons, List.any_nil, Bool.or_eq_true, beq_iff_eq, decide_eq_true_eq, Bool.or_false]
    omega
  rw [e]
  exact h
end Mine
namespace Mine
open PySem PySem.W PyProof.Rows PySem.Calls
abbrev tupOf (vs : List Value) : Obj := { cls := .type "tuple", data := .seq vs.toArray }
abbrev RetZ (e : Int) (h₀ : Heap) (L : Addr) (m : Str → Option Value) (news : List (Addr × Obj)) (s : Shared) (Q : Value → Shared → Prop) : Prop :=
  ∀ (z : Int) (t : Tok) (h' : Heap) (tk' : Nat), z = e → 3442851 ≤ z → z ≤ 20000000 → Fr h₀ L h' m → News h₀ L h' news → Q (.float (fl2 z) t) { s with heap := h', toks := tk' }
abbrev RetT3 (P : Int → Int → Int → Prop) (h₀ : Heap) (L : Addr) (m : Str → Option Value) (news : List (Addr × Obj)) (s : Shared) (Q : Value → Shared → Prop) : Prop :=
  ∀ (y mo d : Int) (t1 t2 t3 : Tok) (q : Addr) (h' : Heap) (tk' : Nat), P y mo d → Fr h₀ L h' m → News h₀ L h' ((q, tupOf [.int y t1, .int mo t2, .int d t3]) :: news) → Q (.ref q) { s with heap := h', toks := tk' }
theorem fr_same {h₀ h : Heap} {L : Addr} {m : Str → Option Value} {x : Str} {v : Value} (F : Fr h₀ L h m) (hv : m x = some v) : Fr h₀ L h (fun y => if y = x then some v else m y) := by
  have e : (fun y => if y = x then some v else m y) = m := funext fun y => by
    by_cases h : y = x
    · rw [if_pos h, h, hv]
    · rw [if_neg h]
  rw [e]
  exact F
section
variable {M : Model} {A : Around} {E : Value → Shared → Prop} {s : Shared} {h₀ : Heap} {L : Addr} {m : Str → Option Value} {news : List (Addr × Obj)} {env : Env} {st : Stmt} {Q : Flow → Shared → Prop}
/-- an int that a statement stores, told by a word P -/
theorem cutI (nm : Str) (P : Int → Prop) (F : Fr h₀ L s.heap m) (N : News h₀ L s.heap news)
    (h1 : ∀ Q' : Flow → Shared → Prop, (∀ {Y : Int} {t : Tok} {h' : Heap} {tk' : Nat}, P Y → Fr h₀ L h' (fun y => if y = nm then some (.int Y t) else m y) → News h₀ L h' news → Q' .next { s with heap := h', toks := tk' }) → wpAny M A (exec st env) Q' E s)
    (h2 : ∀ (Y : Int) (t : Tok) (h' : Heap) (tk' : Nat), P Y → Fr h₀ L h' (fun y => if y = nm then some (.int Y t) else m y) → News h₀ L h' news → Q .next { s with heap := h', toks := tk' }) : wpAny M A (exec st env) Q E s := h1 Q (fun {Y t h' tk'} => h2 Y t h' tk')
end
section
variable {prog : Program} {w : World} {A : Around} {E : Value → Shared → Prop} {s : Shared} {t u : Tok} {Q : Value → Shared → Prop}
theorem r_wjd {x : Int} (ho : OkDay x) (h : Q (.float (fl2 x) s.toks) { s with toks := s.toks + 1 }) : wpAny (model prog w) A (binaryOp .Add (.int ((x - 1) / 2) u) (.float 4602678819172646912 t)) Q E s := by
  unfold OkDay at ho
  refine r_add_if lit_half (by unfold Bd; omega) (by unfold Bd; omega) ?_
  have e : 2 * ((x - 1) / 2) + 1 = x := by omega
  rw [e]
  exact h
end
end Mine
namespace Mine
open PySem PySem.W PyProof.Rows PySem.Calls
section
variable {M : Model} {A : Around} {E : Value → Shared → Prop} {s : Shared} {h₀ : Heap} {L : Addr} {m : Str → Option Value} {news : List (Addr × Obj)} {env : Env} {st : Stmt} {Q : Flow → Shared → Prop}
theorem cutYear {x : Int} (ho : OkDay x) (F : Fr h₀ L s.heap m) (N : News h₀ L s.heap news)
    (h1 : ∀ Q' : Flow → Shared → Prop, (∀ {Y : Int} {t : Tok} {h' : Heap} {tk' : Nat}, GregYear x Y → Fr h₀ L h' (fun y => if y = Str.ofString "year" then some (.int Y t) else m y) → News h₀ L h' news → Q' .next { s with heap := h', toks := tk' }) → wpAny M A (exec st env) Q' E s)
    (h2 : ∀ (Y : Int) (t : Tok) (h' : Heap) (tk' : Nat), GregYear x Y → Fr h₀ L h' (fun y => if y = Str.ofString "year" then some (.int Y t) else m y) → News h₀ L h' news → Q .next { s with heap := h', toks := tk' }) : wpAny M A (exec st env) Q E s := h1 Q (fun {Y t h' tk'} => h2 Y t h' tk')
theorem cutAdj {x y : Int} (hy : GregYear x y) (F : Fr h₀ L s.heap m) (N : News h₀ L s.heap news)
    (h1 : ∀ Q' : Flow → Shared → Prop, (∀ {Y : Int} {t : Tok} {h' : Heap} {tk' : Nat}, LeapAdj x y Y → Fr h₀ L h' (fun y => if y = Str.ofString "leap_adj" then some (.int Y t) else m y) → News h₀ L h' news → Q' .next { s with heap := h', toks := tk' }) → wpAny M A (exec st env) Q' E s)
    (h2 : ∀ (Y : Int) (t : Tok) (h' : Heap) (tk' : Nat), LeapAdj x y Y → Fr h₀ L h' (fun y => if y = Str.ofString "leap_adj" then some (.int Y t) else m y) → News h₀ L h' news → Q .next { s with heap := h', toks := tk' }) : wpAny M A (exec st env) Q E s := h1 Q (fun {Y t h' tk'} => h2 Y t h' tk')
end
end Mine
namespace Mine
open PySem PySem.W PyProof.Rows PySem.Calls
theorem end_t3 {h₀ h' : Heap} {L : Addr} {m : Str → Option Value} {news : List (Addr × Obj)} {s : Shared} {Q : Value → Shared → Prop} {tk' : Nat} {P : Int → Int → Int → Prop} {y mo d : Int} {t1 t2 t3 : Tok} {q : Addr}
    (hret : RetT3 P h₀ L m news s Q) (hP : P y mo d) (F : Fr h₀ L h' m) (N : News h₀ L h' ((q, tupOf [.int y t1, .int mo t2, .int d t3]) :: news)) : Q (.ref q) { s with heap := h', toks := tk' } :=
  hret _ _ _ _ _ _ _ _ _ hP F N
end Mine
namespace Mine
open PySem PySem.W PyProof.Rows PySem.Calls
abbrev RetT2 (P : Int → Int → Prop) (h₀ : Heap) (L : Addr) (m : Str → Option Value) (news : List (Addr × Obj)) (s : Shared) (Q : Value → Shared → Prop) : Prop :=
  ∀ (y p : Int) (t1 t2 : Tok) (q : Addr) (h' : Heap) (tk' : Nat), P y p → Fr h₀ L h' m → News h₀ L h' ((q, tupOf [.int y t1, .int p t2]) :: news) → Q (.ref q) { s with heap := h', toks := tk' }
theorem end_t2 {h₀ h' : Heap} {L : Addr} {m : Str → Option Value} {news news' : List (Addr × Obj)} {s : Shared} {Q : Value → Shared → Prop} {tk' : Nat} {P : Int → Int → Prop} {y p : Int} {t1 t2 : Tok} {q : Addr}
    (hret : RetT2 P h₀ L m news s Q) (hP : P y p) (F : Fr h₀ L h' m) (N : News h₀ L h' ((q, tupOf [.int y t1, .int p t2]) :: news')) (hs : ∀ p ∈ news, p ∈ news') : Q (.ref q) { s with heap := h', toks := tk' } :=
  hret _ _ _ _ _ _ _ hP F (fun a ha => by
    rcases List.mem_cons.mp ha with e | e
    · exact N a (by rw [e]; exact .head _)
    · exact N a (.tail _ (hs a e)))
end Mine
namespace Mine
open PySem PySem.W PyProof.Rows PySem.Calls
abbrev RetT5 (P : Int → Int → Int → Int → Int → Prop) (h₀ : Heap) (L : Addr) (m : Str → Option Value) (news : List (Addr × Obj)) (s : Shared) (Q : Value → Shared → Prop) : Prop :=
  ∀ (a b c d e : Int) (t1 t2 t3 t4 t5 : Tok) (q : Addr) (h' : Heap) (tk' : Nat), P a b c d e → Fr h₀ L h' m → News h₀ L h' ((q, tupOf [.int a t1, .int b t2, .int c t3, .int d t4, .int e t5]) :: news) → Q (.ref q) { s with heap := h', toks := tk' }
theorem end_t5 {h₀ h' : Heap} {L : Addr} {m : Str → Option Value} {news news' : List (Addr × Obj)} {s : Shared} {Q : Value → Shared → Prop} {tk' : Nat} {P : Int → Int → Int → Int → Int → Prop} {a b c d e : Int} {t1 t2 t3 t4 t5 : Tok} {q : Addr}
    (hret : RetT5 P h₀ L m news s Q) (hP : P a b c d e) (F : Fr h₀ L h' m) (N : News h₀ L h' ((q, tupOf [.int a t1, .int b t2, .int c t3, .int d t4, .int e t5]) :: news)) : Q (.ref q) { s with heap := h', toks := tk' } :=
  hret _ _ _ _ _ _ _ _ _ _ _ _ _ hP F N
theorem end_t3' {h₀ h' : Heap} {L : Addr} {m : Str → Option Value} {news news' : List (Addr × Obj)} {s : Shared} {Q : Value → Shared → Prop} {tk' : Nat} {P : Int → Int → Int → Prop} {y mo d : Int} {t1 t2 t3 : Tok} {q : Addr}
    (hret : RetT3 P h₀ L m news s Q) (hP : P y mo d) (F : Fr h₀ L h' m) (N : News h₀ L h' ((q, tupOf [.int y t1, .int mo t2, .int d t3]) :: news')) (hs : ∀ p ∈ news, p ∈ news') : Q (.ref q) { s with heap := h', toks := tk' } :=
  hret _ _ _ _ _ _ _ _ _ hP F (fun a ha => by
    rcases List.mem_cons.mp ha with e | e
    · exact N a (by rw [e]; exact .head _)
    · exact N a (.tail _ (hs a e)))
section
variable {prog : Program} {w : World} {A : Around} {E : Value → Shared → Prop} {s : Shared} {t u : Tok} {Q : Value → Shared → Prop}
theorem r_wjd2 {x : Int} (ho : OkDay x) (h : Q (.float (fl2 x) s.toks) { s with toks := s.toks + 1 }) : wpAny (model prog w) A (binaryOp .Add (.int (x / 2) u) (.float 4602678819172646912 t)) Q E s := by
  unfold OkDay at ho
  refine r_add_if lit_half (by unfold Bd; omega) (by unfold Bd; omega) ?_
  have e : 2 * (x / 2) + 1 = x := by omega
  rw [e]
  exact h
end
end Mine
end part_Cl

section part_Rz
open PySem PySem.W PyProof.Rows PySem.Calls
set_option Elab.async false
set_option linter.unusedVariables false
set_option maxRecDepth 100000
set_option maxHeartbeats 4000000
namespace Mine
open PySem.F

theorem slot_rev_next : Slot "reversed" "__next__" "reversed.__next__" :=
  .of (owner := "reversed") (n := "__next__") (by rw [typeLookup_type, builtinLookup_eq_fast]; kernel_rfl) (by decide +kernel) (by decide +kernel) (by decide +kernel)
    (by first | exact .inl (by decide +kernel) | exact .inr (by decide +kernel)) (by rw [isSubtype_type]; kernel_rfl)
theorem slot_rev_iter : Slot "reversed" "__iter__" "reversed.__iter__" :=
  .of (owner := "reversed") (n := "__iter__") (by rw [typeLookup_type, builtinLookup_eq_fast]; kernel_rfl) (by decide +kernel) (by decide +kernel) (by decide +kernel)
    (by first | exact .inl (by decide +kernel) | exact .inr (by decide +kernel)) (by rw [isSubtype_type]; kernel_rfl)
theorem slot_rev_init : Slot "reversed" "__init__" "object.__init__" :=
  .of (owner := "object") (n := "__init__") (by rw [typeLookup_type, builtinLookup_eq_fast]; kernel_rfl) (by decide +kernel) (by decide +kernel) (by decide +kernel)
    (by first | exact .inl (by decide +kernel) | exact .inr (by decide +kernel)) (by rw [isSubtype_type]; kernel_rfl)
theorem entry_rev_next : entryFor table "reversed.__next__" = some Builtin.«reversed.__next__» := entryFor_of_tree (by kernel_rfl)
theorem entry_rev_iter : entryFor table "reversed.__iter__" = some Builtin.«dict_keyiterator.__iter__» :=
  entryFor_alias (id' := "dict_keyiterator.__iter__") (by kernel_rfl) (by first | rfl | decide +kernel | (unfold String.splitOn; simp +decide [String.splitOnAux])) (by decide +kernel) (by kernel_rfl)
theorem args_rev_next (a : Value) : argsOk "reversed.__next__" ⟨[a], []⟩ := by unfold argsOk; kernel_rfl
theorem args_rev_iter (a : Value) : argsOk "reversed.__iter__" ⟨[a], []⟩ := by unfold argsOk; kernel_rfl
theorem initArgs_rev (obj a : Value) : argsOk "object.__init__" ⟨[obj, a], []⟩ := by kernel_rfl
theorem noRev_tuple : typeLookup (.type "tuple") "__reversed__" = pure none := by rw [typeLookup_type, builtinLookup_eq_fast]; kernel_rfl
theorem called_rev : TypeCalled "reversed" "reversed.__new__" "object.__init__" :=
  ⟨by decide +kernel, by decide +kernel, ⟨_, _, F.mro_reversed⟩, F.made_reversed, by decide +kernel, F.sub_reversed_self, slot_rev_init⟩

abbrev revO (q : Addr) (i : Int) : Obj := { cls := .type "reversed", dict := none, data := .fields #[.ref q, rawInt i], slots := #[] }
abbrev tupO (vs : Array Value) : Obj := { cls := .type "tuple", data := .seq vs }
abbrev titO (t : Addr) (i : Int) : Obj := { cls := .type "tuple_iterator", dict := none, data := .fields #[.ref t, rawInt i], slots := #[] }
abbrev zipO (f0 : Value) (TI TO : Addr) : Obj := { cls := .type "zip", dict := none, data := .fields #[f0, .bool false, .bool false, .ref TI, .ref TO], slots := #[] }

section
variable {prog : Program} {w : World} {A : Around} {E : Value → Shared → Prop} {s : Shared}

theorem stop_any {α : Type} {Q : α → Shared → Prop} (hh : A.handled = none)
    (hE : ∀ h' e, (∀ c o, s.heap.get? c = some o → h'.get? c = some o) → (∃ o, h'.get? e = some o ∧ o.cls = .type "StopIteration") → E (.ref e) { s with heap := h' }) :
    wpAny (model prog w) A (Builtin.SmallTypes.stopIteration : Sem α) Q E s := by
  wp_walk
  simp only [raiseNew]
  wp_walk
  exact hE _ _ (fun c o e => Heap.get?_push_of_some _ (Heap.get?_push_of_some _ e)) ⟨_, Heap.get?_push_size _ rfl, rfl⟩

theorem nx_rev {R q : Addr} {i : Int} {j : Nat} {xs : Array Value} {x : Value} {Q : Value → Shared → Prop} (hR : s.heap.get? R = some (revO q i)) (hq : s.heap.get? q = some (tupO xs))
    (hi : 0 ≤ i) (hi2 : i < 2 ^ 63) (hk : seqIndex? i xs.size = some j) (hx : xs[j]? = some x)
    (hQ : ∀ h' tk, h'.get? R = some (revO q (i - 1)) → Heap.SameBut R s.heap h' → Q x { s with heap := h', toks := tk }) :
    wpAny (model prog w) A (Builtin.SmallTypes.nextOf (.ref R)) Q E s := by
  have hT : s.TypeIs (.ref R) "reversed" := ⟨_, hR, rfl⟩
  have hTq : s.TypeIs (.ref q) "tuple" := ⟨_, hq, rfl⟩
  unfold Builtin.SmallTypes.nextOf
  refine wpAny_bind (wpAny_callSpecial?_slot (name := Str.ofString "__next__") hT slot_rev_next
    (wpAny_call_entry slot_rev_next hT entry_rev_next ?_ (args_rev_next _)))
  show wpAny _ _ (field (.ref R) 0 >>= _) _ _ s
  refine wpAny_bind (wpAny_field hR rfl (x := .ref q) rfl ?_)
  show wpAny _ _ (field (.ref R) 1 >>= _) _ _ s
  refine wpAny_bind (wpAny_field hR rfl (x := rawInt i) rfl ?_)
  show wpAny _ _ (if i < 0 then _ else _) _ _ s
  rw [if_neg (by omega)]
  refine wpAny_bind (wpAny_specialOf hTq F.slot_tuple_getitem.lookup ?_)
  rw [if_neg (by simp)]
  refine wpAny_bind (wpAny_mkInt ?_)
  refine wpAny_bind (wpAny_attempt ?_)
  refine P.getItem_tuple (n := 0) (items := xs) hq (by omega) hi2 hk hx ?_
  show wpAny _ _ (field (.ref R) 1 >>= _) _ _ _
  refine wpAny_bind (wpAny_field hR rfl (x := rawInt i) rfl ?_)
  refine wpAny_bind (wpAny_setField_rec hR (by simp) fun h' hR' hs' => wpAny_pure ⟨x, rfl, wpAny_pure (hQ h' _ hR' hs')⟩)

theorem nx_rev_end {R q : Addr} {Q : Value → Shared → Prop} (hh : A.handled = none) (hR : s.heap.get? R = some (revO q (-1)))
    (hE : ∀ h' e, (∀ c o, c ≠ R → s.heap.get? c = some o → h'.get? c = some o) → (∃ o, h'.get? e = some o ∧ o.cls = .type "StopIteration") → E (.ref e) { s with heap := h' }) :
    wpAny (model prog w) A (Builtin.SmallTypes.nextOf (.ref R)) Q E s := by
  have hT : s.TypeIs (.ref R) "reversed" := ⟨_, hR, rfl⟩
  unfold Builtin.SmallTypes.nextOf
  refine wpAny_bind (wpAny_callSpecial?_slot (name := Str.ofString "__next__") hT slot_rev_next
    (wpAny_call_entry slot_rev_next hT entry_rev_next ?_ (args_rev_next _)))
  show wpAny _ _ (field (.ref R) 0 >>= _) _ _ s
  refine wpAny_bind (wpAny_field hR rfl (x := .ref q) rfl ?_)
  show wpAny _ _ (field (.ref R) 1 >>= _) _ _ s
  refine wpAny_bind (wpAny_field hR rfl (x := rawInt (-1)) rfl ?_)
  show wpAny _ _ (if (-1 : Int) < 0 then _ else _) _ _ s
  rw [if_pos (by decide)]
  refine wpAny_bind (wpAny_rule (wpAny_bind ?_))
  show wpAny _ _ (setField (.ref R) 1 (rawInt (-1)) >>= _) _ _ _
  refine wpAny_bind (wpAny_setField_rec hR (by simp) fun h₁ hR₁ hs₁ => ?_)
  replace hR₁ : h₁.get? R = some (revO q (-1)) := hR₁
  refine wpAny_setField_rec hR₁ (by simp) fun h₂ hR₂ hs₂ => ?_
  refine wpAny_bind (stop_any hh ?_)
  intro h' e hk he
  exact hE h' e (fun c o hc x => hk c o (hs₂.extBut _ _ hc (hs₁.extBut _ _ hc x))) he

theorem nx_tup {U t : Addr} {i : Nat} {xs : Array Value} {x : Value} {Q : Value → Shared → Prop} (hU : s.heap.get? U = some (titO t i)) (ht : s.heap.get? t = some (tupO xs)) (hx : xs[i]? = some x)
    (hQ : ∀ h', h'.get? U = some (titO t ((i : Int) + 1)) → Heap.SameBut U s.heap h' → Q x { s with heap := h' }) :
    wpAny (model prog w) A (Builtin.SmallTypes.nextOf (.ref U)) Q E s := by
  have hT : s.TypeIs (.ref U) "tuple_iterator" := ⟨_, hU, rfl⟩
  unfold Builtin.SmallTypes.nextOf
  refine wpAny_bind (wpAny_callSpecial?_slot (name := Str.ofString "__next__") hT F.slot_tuple_iterator_next
    (wpAny_call_entry F.slot_tuple_iterator_next hT F.entry_tuple_iterator_next ?_ (F.args_tuple_iterator_next_1 _)))
  show wpAny _ _ (field (.ref U) 0 >>= _) _ _ s
  refine wpAny_bind (wpAny_field hU rfl (x := .ref t) rfl ?_)
  show wpAny _ _ (if (Value.ref t == Value.none) = true then _ else _) _ _ s
  rw [if_neg (show ¬ ((Value.ref t == Value.none) = true) from Bool.false_ne_true)]
  show wpAny _ _ (field (.ref U) 1 >>= _) _ _ s
  refine wpAny_bind (wpAny_field hU rfl (x := rawInt i) rfl ?_)
  show wpAny _ _ (seqItems? (.ref t) >>= _) _ _ s
  refine wpAny_bind (wpAny_seqItems ht rfl ?_)
  simp only [Int.toNat_natCast, hx]
  exact wpAny_bind (wpAny_setField_rec hU (by simp) fun h' hU' hs' => wpAny_pure ⟨x, rfl, wpAny_pure (hQ h' hU' hs')⟩)
/-- a zip of a reversed tuple and a tuple: what the five objects are -/
structure Rz (Z TI TO R U q t : Addr) (xs ys : Array Value) (f0 : Value) (i : Nat) (h : Heap) : Prop where
  z : h.get? Z = some (zipO f0 TI TO)
  ti : h.get? TI = some (tupO #[.ref R, .ref U])
  to_ : ∃ a b, h.get? TO = some (tupO #[a, b])
  r : h.get? R = some (revO q ((xs.size : Int) - 1 - i))
  u : h.get? U = some (titO t i)
  q : h.get? q = some (tupO xs)
  t : h.get? t = some (tupO ys)
structure RzA (Z TI TO R U q t : Nat) : Prop where
  d : List.Nodup [Z, TI, TO, R, U]
  q : q ≠ Z ∧ q ≠ TI ∧ q ≠ TO ∧ q ≠ R ∧ q ≠ U
  t : t ≠ Z ∧ t ≠ TI ∧ t ≠ TO ∧ t ≠ R ∧ t ≠ U

theorem rzA {n R q t : Nat} (h1 : R < n) (h2 : q < n) (h3 : t < n) (h4 : q ≠ R) (h5 : t ≠ R) : RzA (n + 3) (n + 1) (n + 2) R n q t := by
  refine ⟨?_, ⟨by omega, by omega, by omega, h4, by omega⟩, ⟨by omega, by omega, by omega, h5, by omega⟩⟩
  simp only [List.nodup_cons, List.mem_cons, List.not_mem_nil, or_false, not_or, not_false_eq_true, List.nodup_nil, and_true]
  omega
theorem rz_item {Z TI TO R U q t : Addr} {xs ys : Array Value} {i : Nat} {x y : Value} {Q : Value → Shared → Prop} (D : RzA Z TI TO R U q t) (H : Rz Z TI TO R U q t xs ys .none i s.heap)
    (hi : i < xs.size) (hz : xs.size < 2 ^ 62) (hx : xs[xs.size - 1 - i]? = some x) (hy : ys[i]? = some y)
    (hQ : ∀ h' tk, Rz Z TI TO R U q t xs ys (rawInt s.heap.objs.size) (i + 1) h' → h'.get? s.heap.objs.size = some (tupO #[x, y]) →
      (∀ c o, c ≠ Z → c ≠ TO → c ≠ R → c ≠ U → s.heap.get? c = some o → h'.get? c = some o) → Q (.ref s.heap.objs.size) { s with heap := h', toks := tk }) :
    wpAny (model prog w) A (Builtin.«zip.__next__» ⟨[.ref Z], []⟩) (fun fin s' => ∃ v, fin = .done (.ret v) ∧ Q v s') E s := by
  obtain ⟨hZ, hTI, ⟨a, b, hTO⟩, hR, hU, hq, ht⟩ := H
  have D1 := D.d
  obtain ⟨q1, q2, q3, q4, q5⟩ := D.q
  obtain ⟨t1, t2, t3, t4, t5⟩ := D.t
  simp only [List.nodup_cons, List.mem_cons, List.not_mem_nil, or_false, not_or] at D1
  obtain ⟨⟨d1, d2, d3, d4⟩, ⟨d5, d6, d7⟩, ⟨d8, d9⟩, d10, _⟩ := D1
  show wpAny _ _ (field (.ref Z) 2 >>= _) _ _ _
  refine wpAny_bind (wpAny_field hZ rfl (x := .bool false) rfl ?_)
  show wpAny _ _ (field (.ref Z) 3 >>= _) _ _ _
  refine wpAny_bind (wpAny_field hZ rfl (x := .ref TI) rfl ?_)
  refine wpAny_bind (wpAny_seqItems hTI rfl ?_)
  show wpAny _ _ (Builtin.SmallTypes.ownedTupleIsFree (.ref Z) >>= _) _ _ _
  refine wpAny_bind ?_
  unfold Builtin.SmallTypes.ownedTupleIsFree
  refine wpAny_bind (wpAny_field hZ rfl (x := .none) rfl (wpAny_pure ?_))
  simp only [if_true]
  refine wpAny_bind (wpAny_rule ?_)
  refine wpAny_bind (wpAny_field hZ rfl (x := .ref TO) rfl ?_)
  refine wpAny_bind (wpAny_setField_rec hZ (by simp) fun h₁ hZ₁ hs₁ => ?_)
  replace hZ₁ : h₁.get? Z = some (zipO .ellipsis TI TO) := hZ₁
  have e1 := hs₁.extBut
  refine wpAny_bind ?_
  simp only [List.zipIdx_cons, List.zipIdx_nil, List.forIn_cons, List.forIn_nil]
  refine wpAny_bind (wpAny_bind (wpAny_onRaise ?_))
  show wpAny _ _ (Builtin.SmallTypes.nextOf (.ref R) >>= _) _ _ _
  refine wpAny_bind (nx_rev (j := xs.size - 1 - i) (e1 R _ (Ne.symm d3) hR) (e1 q _ q1 hq) (by omega) (by omega) ?_ hx fun h₂ tk₂ hR₂ hs₂ => wpAny_pure ?_)
  · unfold seqIndex?
    simp
    omega
  have e2 := hs₂.extBut
  have hTO₂ : h₂.get? TO = some (tupO #[a, b]) := e2 _ _ d8 (e1 _ _ (Ne.symm d2) hTO)
  refine wpAny_bind (wpAny_seqItems hTO₂ rfl ?_)
  refine wpAny_bind (wpAny_updateSeq_pair hTO₂ fun h₃ hTO₃ hs₃ => ?_)
  replace hTO₃ : h₃.get? TO = some (tupO #[x, b]) := hTO₃
  have e3 := hs₃.extBut
  refine wpAny_bind (wpAny_letGo (wpAny_pure ?_))
  refine wpAny_bind (wpAny_bind (wpAny_onRaise ?_))
  show wpAny _ _ (Builtin.SmallTypes.nextOf (.ref U) >>= _) _ _ _
  refine wpAny_bind (nx_tup (e3 U _ (Ne.symm d9) (e2 U _ (Ne.symm d10) (e1 U _ (Ne.symm d4) hU))) (e3 t _ t3 (e2 t _ t4 (e1 t _ t1 ht))) hy fun h₄ hU₄ hs₄ => wpAny_pure ?_)
  have e4 := hs₄.extBut
  have hTO₄ : h₄.get? TO = some (tupO #[x, b]) := e4 _ _ d9 hTO₃
  refine wpAny_bind (wpAny_seqItems hTO₄ rfl ?_)
  refine wpAny_bind (wpAny_updateSeq_pair hTO₄ fun h₅ hTO₅ hs₅ => ?_)
  replace hTO₅ : h₅.get? TO = some (tupO #[x, y]) := hTO₅
  have e5 := hs₅.extBut
  refine wpAny_bind (wpAny_letGo (wpAny_pure (wpAny_pure ?_)))
  refine wpAny_bind (wpAny_seqItems hTO₅ rfl ?_)
  refine wpAny_bind (wpAny_newTuple ?_)
  have hsz : h₅.objs.size = s.heap.objs.size := by rw [hs₅.1, hs₄.1, hs₃.1, hs₂.1, hs₁.1]
  have k5 : ∀ c o, c ≠ Z → c ≠ TO → c ≠ R → c ≠ U → s.heap.get? c = some o → h₅.get? c = some o := fun c o c1 c2 c3 c4 e => e5 _ _ c2 (e4 _ _ c4 (e3 _ _ c2 (e2 _ _ c3 (e1 _ _ c1 e))))
  have hZ₅ : h₅.get? Z = some (zipO .ellipsis TI TO) := e5 _ _ d2 (e4 _ _ d4 (e3 _ _ d2 (e2 _ _ d3 hZ₁)))
  have hR₅ : h₅.get? R = some (revO q ((xs.size : Int) - 1 - ((i + 1 : Nat) : Int))) := by
    rw [show (xs.size : Int) - 1 - ((i + 1 : Nat) : Int) = (xs.size : Int) - 1 - (i : Int) - 1 by omega]
    exact e5 _ _ (Ne.symm d8) (e4 _ _ d10 (e3 _ _ (Ne.symm d8) hR₂))
  have hU₅ : h₅.get? U = some (titO t ((i + 1 : Nat) : Int)) := e5 _ _ (Ne.symm d9) hU₄
  have hZlt : Z < h₅.objs.size := Heap.lt_size hZ₅
  show wpAny _ _ (Builtin.SmallTypes.ownedTupleHandOut (.ref Z) (.ref h₅.objs.size) >>= _) _ _ _
  refine wpAny_bind ?_
  unfold Builtin.SmallTypes.ownedTupleHandOut
  have hZ₆ : (h₅.push { cls := .type "tuple", data := .seq #[x, y] }).get? Z = some (zipO .ellipsis TI TO) := Heap.get?_push_of_some _ hZ₅
  refine wpAny_bind (wpAny_setField_rec hZ₆ (by simp) fun h₇ hZ₇ hs₇ => ?_)
  replace hZ₇ : h₇.get? Z = some (zipO (rawInt h₅.objs.size) TI TO) := hZ₇
  refine wpAny_setField_rec hZ₇ (by simp) fun h₈ hZ₈ hs₈ => ?_
  replace hZ₈ : h₈.get? Z = some (zipO (rawInt h₅.objs.size) TI TO) := hZ₈
  have up : ∀ c o, c ≠ Z → h₅.get? c = some o → h₈.get? c = some o := fun c o c1 e => hs₈.extBut _ _ c1 (hs₇.extBut _ _ c1 (Heap.get?_push_of_some _ e))
  have hT₈ : h₈.get? h₅.objs.size = some (tupO #[x, y]) := hs₈.extBut _ _ (Nat.ne_of_gt hZlt) (hs₇.extBut _ _ (Nat.ne_of_gt hZlt) (Heap.get?_push_size _ rfl))
  rw [hsz] at hZ₈ hT₈
  refine wpAny_pure ⟨_, rfl, ?_⟩
  show Q (.ref h₅.objs.size) _
  rw [hsz]
  exact hQ h₈ _ ⟨hZ₈, up _ _ (Ne.symm d1) (k5 _ _ (Ne.symm d1) d5 d6 d7 hTI), ⟨_, _, up _ _ (Ne.symm d2) hTO₅⟩, up _ _ (Ne.symm d3) hR₅, up _ _ (Ne.symm d4) hU₅, up _ _ q1 (k5 _ _ q1 q3 q4 q5 hq), up _ _ t1 (k5 _ _ t1 t3 t4 t5 ht)⟩
    hT₈ fun c o c1 c2 c3 c4 e => up c o c1 (k5 c o c1 c2 c3 c4 e)

theorem rz_end {Z TI TO R U q t : Addr} {xs ys : Array Value} {Q : PySem.Fin → Shared → Prop} (hh : A.handled = none) (D : RzA Z TI TO R U q t) (H : Rz Z TI TO R U q t xs ys .none xs.size s.heap)
    (hE : ∀ h' e, (∀ c o, c ≠ Z → c ≠ TO → c ≠ R → c ≠ U → s.heap.get? c = some o → h'.get? c = some o) → (∃ o, h'.get? e = some o ∧ o.cls = .type "StopIteration") → E (.ref e) { s with heap := h' }) :
    wpAny (model prog w) A (Builtin.«zip.__next__» ⟨[.ref Z], []⟩) Q E s := by
  obtain ⟨hZ, hTI, ⟨a, b, hTO⟩, hR, hU, hq, ht⟩ := H
  have D1 := D.d
  simp only [List.nodup_cons, List.mem_cons, List.not_mem_nil, or_false, not_or] at D1
  obtain ⟨⟨d1, d2, d3, d4⟩, ⟨d5, d6, d7⟩, ⟨d8, d9⟩, d10, _⟩ := D1
  show wpAny _ _ (field (.ref Z) 2 >>= _) _ _ _
  refine wpAny_bind (wpAny_field hZ rfl (x := .bool false) rfl ?_)
  show wpAny _ _ (field (.ref Z) 3 >>= _) _ _ _
  refine wpAny_bind (wpAny_field hZ rfl (x := .ref TI) rfl ?_)
  refine wpAny_bind (wpAny_seqItems hTI rfl ?_)
  show wpAny _ _ (Builtin.SmallTypes.ownedTupleIsFree (.ref Z) >>= _) _ _ _
  refine wpAny_bind ?_
  unfold Builtin.SmallTypes.ownedTupleIsFree
  refine wpAny_bind (wpAny_field hZ rfl (x := .none) rfl (wpAny_pure ?_))
  simp only [if_true]
  refine wpAny_bind (wpAny_rule ?_)
  refine wpAny_bind (wpAny_field hZ rfl (x := .ref TO) rfl ?_)
  refine wpAny_bind (wpAny_setField_rec hZ (by simp) fun h₁ hZ₁ hs₁ => ?_)
  replace hZ₁ : h₁.get? Z = some (zipO .ellipsis TI TO) := hZ₁
  have e1 := hs₁.extBut
  refine wpAny_bind ?_
  simp only [List.zipIdx_cons, List.zipIdx_nil, List.forIn_cons, List.forIn_nil]
  refine wpAny_bind (wpAny_bind (wpAny_onRaise ?_))
  show wpAny _ _ (Builtin.SmallTypes.nextOf (.ref R) >>= _) _ _ _
  have hR1 : h₁.get? R = some (revO q (-1)) := by
    have := e1 R _ (Ne.symm d3) hR
    rwa [show (xs.size : Int) - 1 - (xs.size : Int) = -1 by omega] at this
  refine wpAny_bind (nx_rev_end hh hR1 fun h₂ e k₂ he => ?_)
  obtain ⟨oe, hoe, hce⟩ := he
  have hZ₂ : h₂.get? Z = some (zipO .ellipsis TI TO) := k₂ _ _ d3 hZ₁
  have hez : e ≠ Z := fun x => by subst x; rw [hZ₂] at hoe; cases hoe; simp at hce
  refine wpAny_setField_rec hZ₂ (by simp) fun h₃ _ hs₃ => hE h₃ e (fun c o c1 _ c3 _ x => hs₃.extBut _ _ c1 (k₂ _ _ c3 (e1 _ _ c1 x))) ⟨oe, hs₃.extBut _ _ hez hoe, hce⟩
end
end Mine
end part_Rz

section part_Rz2
open PySem PySem.W PyProof.Rows PySem.Calls
set_option Elab.async false
set_option linter.unusedVariables false
set_option maxRecDepth 100000
set_option maxHeartbeats 4000000
namespace Mine
open PySem.F
section
variable {prog : Program} {w : World} {A : Around} {E : Value → Shared → Prop} {s : Shared} {env : Env} {h₀ : Heap} {body : List Stmt} {Q : Flow → Shared → Prop}

theorem rz_next {Z TI TO R U q t : Addr} {xs ys : Array Value} {i : Nat} {x y : Value} {Q : Option Value → Shared → Prop} (D : RzA Z TI TO R U q t) (H : Rz Z TI TO R U q t xs ys .none i s.heap)
    (hi : i < xs.size) (hz : xs.size < 2 ^ 62) (hx : xs[xs.size - 1 - i]? = some x) (hy : ys[i]? = some y)
    (hQ : ∀ h' tk, Rz Z TI TO R U q t xs ys (rawInt s.heap.objs.size) (i + 1) h' → h'.get? s.heap.objs.size = some (tupO #[x, y]) →
      (∀ c o, c ≠ Z → c ≠ TO → c ≠ R → c ≠ U → s.heap.get? c = some o → h'.get? c = some o) → Q (some (.ref s.heap.objs.size)) { s with heap := h', toks := tk }) :
    wpAny (model prog w) A (pyNext (.ref Z)) Q E s := by
  have hT : s.TypeIs (.ref Z) "zip" := ⟨_, H.z, rfl⟩
  unfold pyNext
  exact wpAny_bind (wpAny_attempt (wpAny_callSpecial?_slot (name := Str.ofString "__next__") hT F.slot_zip_next
    (wpAny_call_entry F.slot_zip_next hT F.entry_zip_next (rz_item D H hi hz hx hy fun h' tk a1 a2 a3 => wpAny_pure (hQ h' tk a1 a2 a3)) (F.args_zip_next_1 _))))
theorem rz_last {Z TI TO R U q t : Addr} {xs ys : Array Value} {Q : Option Value → Shared → Prop} (hh : A.handled = none) (D : RzA Z TI TO R U q t) (H : Rz Z TI TO R U q t xs ys .none xs.size s.heap)
    (hQ : ∀ h', (∀ c o, c ≠ Z → c ≠ TO → c ≠ R → c ≠ U → s.heap.get? c = some o → h'.get? c = some o) → Q none { s with heap := h' }) : wpAny (model prog w) A (pyNext (.ref Z)) Q E s := by
  have hT : s.TypeIs (.ref Z) "zip" := ⟨_, H.z, rfl⟩
  unfold pyNext
  refine wpAny_bind (wpAny_attempt (wpAny_callSpecial?_slot (name := Str.ofString "__next__") hT F.slot_zip_next
    (wpAny_call_entry F.slot_zip_next hT F.entry_zip_next (rz_end hh D H fun h' e hk he => ?_) (F.args_zip_next_1 _))))
  obtain ⟨o, ho, hc⟩ := he
  refine wpAny_bind (wpAny_isInstance (T := "StopIteration") (b := true) ⟨o, ho, hc⟩ isSubtype_stop ?_)
  exact wpAny_pure (hQ _ hk)
theorem Rz.keep {Z TI TO R U q t : Addr} {xs ys : Array Value} {f0 : Value} {i : Nat} {h h' : Heap} (H : Rz Z TI TO R U q t xs ys f0 i h) (hk : ∀ b ∈ [Z, TI, TO, R, U, q, t], ∀ o, h.get? b = some o → h'.get? b = some o) : Rz Z TI TO R U q t xs ys f0 i h' := by
  obtain ⟨a1, a2, ⟨a, b, a3⟩, a4, a5, a6, a7⟩ := H
  exact ⟨hk _ (by simp) _ a1, hk _ (by simp) _ a2, ⟨a, b, hk _ (by simp) _ a3⟩, hk _ (by simp) _ a4, hk _ (by simp) _ a5, hk _ (by simp) _ a6, hk _ (by simp) _ a7⟩
theorem rz_walks (hh : A.handled = none) {Z TI TO R U q t : Addr} {xs ys : Array Value} (D : RzA Z TI TO R U q t) (hz : xs.size < 2 ^ 62) (hxy : xs.size ≤ ys.size) :
    WalksU prog w A Z [Z, TI, TO, R, U, q, t] [Z, TO, R, U] xs.size (fun i vals => ∃ x y, xs[xs.size - 1 - i]? = some x ∧ ys[i]? = some y ∧ vals = #[x, y])
      (fun i h => Rz Z TI TO R U q t xs ys .none i h) (fun i T h => Rz Z TI TO R U q t xs ys (rawInt T) (i + 1) h ∧ T ≠ Z ∧ T ≠ TO ∧ T ≠ R ∧ T ≠ U) where
  sub := fun c hc => by simp at hc ⊢; rcases hc with rfl | rfl | rfl | rfl <;> simp
  frame := fun i h h' hst hk => hst.keep hk
  item := fun i s Q E hi hst hQ => by
    have h1 : xs.size - 1 - i < xs.size := by omega
    have h2 : i < ys.size := by omega
    have lt : ∀ {c o}, s.heap.get? c = some o → s.heap.objs.size ≠ c := fun e => Nat.ne_of_gt (Heap.lt_size e)
    obtain ⟨a, b, hTO⟩ := hst.to_
    refine rz_next D hst hi hz (Array.getElem?_eq_getElem h1) (Array.getElem?_eq_getElem h2) fun h' tk a1 a2 hk => ?_
    exact hQ s.heap.objs.size #[xs[xs.size - 1 - i], ys[i]] h' tk ⟨_, _, Array.getElem?_eq_getElem h1, Array.getElem?_eq_getElem h2, rfl⟩ ⟨_, a2, rfl, _, rfl⟩ ⟨a1, lt hst.z, lt hTO, lt hst.r, lt hst.u⟩
      fun c o hc e => hk c o (fun x => hc (by simp [x])) (fun x => hc (by simp [x])) (fun x => hc (by simp [x])) (fun x => hc (by simp [x])) e
  go := fun elts k pos i T s Q E hm hQ => by
    obtain ⟨H, _⟩ := hm
    have D1 := D.d
    simp only [List.nodup_cons, List.mem_cons, List.not_mem_nil, or_false, not_or] at D1
    obtain ⟨⟨d1, d2, d3, d4⟩, _⟩ := D1
    refine wpAny_letOwnedTupleGo_zip H.z fun h' hz' hs' => hQ h' ?_ fun c o hc e => hs'.extBut _ _ (fun x => hc (by simp [x])) e
    obtain ⟨a1, a2, ⟨a, b, a3⟩, a4, a5, a6, a7⟩ := H
    exact ⟨hz', hs'.extBut _ _ (Ne.symm d1) a2, ⟨a, b, hs'.extBut _ _ (Ne.symm d2) a3⟩, hs'.extBut _ _ (Ne.symm d3) a4, hs'.extBut _ _ (Ne.symm d4) a5, hs'.extBut _ _ D.q.1 a6, hs'.extBut _ _ D.t.1 a7⟩
  apart := fun i T h hm hT => by
    obtain ⟨_, t1, t2, t3, t4⟩ := hm
    simp at hT
    rcases hT with rfl | rfl | rfl | rfl
    · exact t1 rfl
    · exact t2 rfl
    · exact t3 rfl
    · exact t4 rfl
  done := fun s Q E hst hQ => rz_last hh D hst fun h' hk => hQ h' s.toks fun c o hc e =>
      hk c o (fun x => hc (by simp [x])) (fun x => hc (by simp [x])) (fun x => hc (by simp [x])) (fun x => hc (by simp [x])) e
  self := fun i s Q E hst hQ => wpAny_pyIter_zip hst.z hQ

/-- 'reversed' of a tuple -/
theorem rev_new (q : Addr) (xs : Array Value) (hz : xs.size < 2 ^ 62) :
    Meets (Builtin.«reversed.__new__» ⟨[.type "reversed", .ref q], []⟩) (fun _ R s => s.heap.get? q = some (tupO xs) ∧ ∀ tk, R (.ok (.ret (.ref s.heap.objs.size))) { s with heap := s.heap.push (revO q ((xs.size : Int) - 1)), toks := tk }) :=
  .of_wp fun prog w A R s h => by
    obtain ⟨hq, h⟩ := h
    have hT : s.TypeIs (.ref q) "tuple" := ⟨_, hq, rfl⟩
    unfold Builtin.«reversed.__new__»
    refine wpAny_bind (wpAny_of_eq (newClass_reversed _) ?_)
    try dsimp only
    refine wpAny_bind (wpAny_of_eq (a := ()) (by first | rfl | kernel_rfl) ?_)
    refine wpAny_bind (wpAny_of_eq (a := ()) (by first | rfl | kernel_rfl) ?_)
    try dsimp only
    refine wpAny_bind (wpAny_specialOf hT noRev_tuple ?_)
    try dsimp only
    have hsd : isSubtype (.type "tuple") (.type "dict") = pure false := by rw [isSubtype_type]; kernel_rfl
    have hg := F.slot_tuple_getitem.lookup
    have hsz : ¬ ((xs.size : Int) ≥ 2 ^ 63) := by omega
    repeat (first | (with_reducible refine P.len_tuple (items := xs) (n := 0) hq hsz ?_) | wp_step)
    exact ⟨_, rfl, h _⟩
theorem r_rev {L : Addr} {m : Str → Option Value} {news : List (Addr × Obj)} {q : Addr} {a b c d e : Value} {Q : Value → Shared → Prop} (F : Fr h₀ L s.heap m) (N : News h₀ L s.heap news) (hm : (q, tupO #[a, b, c, d, e]) ∈ news)
    (h : ∀ D h' tk, Fr h₀ L h' m → News h₀ L h' ((D, revO q 4) :: news) → (∀ p ∈ news, p.1 < D) → Q (.ref D) { s with heap := h', toks := tk }) : wpAny (model prog w) A (call (.type "reversed") [.ref q]) Q E s :=
  callType_new called_rev (by decide) (PySem.F.typeCall_reversed_1 _) (PySem.F.newCall_reversed_1 _) (fun obj => initArgs_rev obj _) PySem.F.entry_reversed_new (rev_new q #[a, b, c, d, e] (show (5 : Nat) < 2 ^ 62 by decide))
    ⟨(N _ hm).1, fun tk => ⟨⟨_, Heap.get?_push_size _ rfl, rfl⟩, h _ _ _ (F.push _) (News.push F N _) fun p hp => Heap.lt_size (N p hp).1⟩⟩

theorem it_rev {R q : Addr} {i : Int} {Q : Value → Shared → Prop} (hR : s.heap.get? R = some (revO q i)) (h : Q (.ref R) s) : wpAny (model prog w) A (pyIter (.ref R)) Q E s := by
  have hT : s.TypeIs (.ref R) "reversed" := ⟨_, hR, rfl⟩
  refine wpAny_pyIter_slot hT slot_rev_iter (wpAny_call_entry slot_rev_iter hT entry_rev_iter ?_ (args_rev_iter _))
  show wpAny _ _ (ret (.ref R)) _ _ s
  exact wpAny_pure ⟨_, rfl, "reversed", _, hT, slot_rev_next.lookup, h⟩

abbrev rzH (h : Heap) (R t : Addr) : Heap := (((h.push (titO t 0)).push (tupO #[.ref R, .ref h.objs.size])).push (tupO #[.none, .none])).push (zipO .none (h.push (titO t 0)).objs.size ((h.push (titO t 0)).push (tupO #[.ref R, .ref h.objs.size])).objs.size)
theorem rz_new (R t q : Addr) (ys : Array Value) (i : Int) :
    Meets (Builtin.«zip.__new__» ⟨[.type "zip", .ref R, .ref t], []⟩) (fun _ X s => s.heap.get? R = some (revO q i) ∧ s.heap.get? t = some (tupO ys) ∧
      X (.ok (.ret (.ref (((s.heap.push (titO t 0)).push (tupO #[.ref R, .ref s.heap.objs.size])).push (tupO #[.none, .none])).objs.size))) { s with heap := rzH s.heap R t }) :=
  .of_wp fun prog w A X s h => by
    obtain ⟨hp, g, d, tk, os⟩ := s; obtain ⟨hR, ht, h⟩ := h
    have hsub := sub_zip
    have ht' : Heap.IsTuple (Shared.heap ⟨hp, g, d, tk, os⟩) t ys := ⟨_, ht, rfl, _, rfl⟩
    wp_walk using it_rev hR, wpAny_pyIter_tuple ht'
    exact ⟨_, rfl, h⟩
def OffRev : List (Addr × Obj) → Prop
  | [] => True
  | p :: r => p.2.cls ≠ .type "reversed" ∧ OffRev r
theorem OffRev.at : ∀ {l : List (Addr × Obj)}, OffRev l → ∀ p ∈ l, p.2.cls ≠ .type "reversed"
  | [], _, p, hp => nomatch hp
  | _ :: _, h, p, hp => by
    rcases List.mem_cons.mp hp with rfl | hp
    · exact h.1
    · exact h.2.at p hp
theorem sub_cons {α : Type} {p a b : α} {l : List α} (h : p ∈ a :: l) : p ∈ a :: b :: l := by
  rcases List.mem_cons.mp h with rfl | h
  · simp
  · simp [h]
theorem r_zip {elts : List Expr} {k : Nat} {pos : Pos} {m₀ : Str → Option Value} {R t q : Addr} {a b c d e y0 y1 y2 y3 y4 : Value} {news : List (Addr × Obj)}
    (hh : A.handled = none) (F : Fr h₀ env.locals s.heap m₀) (N : News h₀ env.locals s.heap ((t, tupO #[y0, y1, y2, y3, y4]) :: (R, revO q 4) :: news)) (hq : (q, tupO #[a, b, c, d, e]) ∈ news) (hoff : OffRev news)
    (rest₀ : ∀ I : Addr, (∀ p ∈ ((t, tupO #[y0, y1, y2, y3, y4]) :: news), p.1 < I) → ItemsRest prog w A E h₀ env (.Tuple elts k pos) body Q s [(I + 3, "zip"), (I + 1, "tuple"), (I + 2, "tuple"), (R, "reversed"), (I, "tuple_iterator")] [(q, tupO #[a, b, c, d, e]), (t, tupO #[y0, y1, y2, y3, y4])]
      [.pair (fun _ => e) y0, .pair (fun _ => d) y1, .pair (fun _ => c) y2, .pair (fun _ => b) y3, .pair (fun _ => a) y4] m₀ ((t, tupO #[y0, y1, y2, y3, y4]) :: news)) :
    wpAny (model prog w) A (call (.type "zip") [.ref R, .ref t]) (fun xv s₁ => wpAny (model prog w) A (pyIter xv) (fun it s₂ => TurnsAt prog w A h₀ env (.Tuple elts k pos) body Q E it s₂) E s₁) E s := by
  have hR := N (R, revO q 4) (by simp)
  have ht := N (t, tupO #[y0, y1, y2, y3, y4]) (by simp)
  have hq' := N (q, tupO #[a, b, c, d, e]) (by simp [hq])
  have hRn : ∀ p ∈ ((t, tupO #[y0, y1, y2, y3, y4]) :: news), p.1 ≠ R := by
    intro p hp e
    have h1 := (N p (sub_cons hp)).1
    rw [e, hR.1] at h1
    have h2 := Option.some.inj h1
    rcases List.mem_cons.mp hp with rfl | hp
    · exact absurd (congrArg Obj.cls h2) (by simp)
    · exact hoff.at p hp (by rw [← h2])
  have N' : News h₀ env.locals s.heap ((t, tupO #[y0, y1, y2, y3, y4]) :: news) := fun p hp => N p (sub_cons hp)
  have hlt : ∀ p ∈ ((t, tupO #[y0, y1, y2, y3, y4]) :: news), p.1 < s.heap.objs.size := fun p hp => Heap.lt_size (N' p hp).1
  have hRlt : R < s.heap.objs.size := Heap.lt_size hR.1
  have htlt : t < s.heap.objs.size := Heap.lt_size ht.1
  have hqlt : q < s.heap.objs.size := Heap.lt_size hq'.1
  have hLs : env.locals < s.heap.objs.size := F.ns.lt
  have hqR : q ≠ R := hRn (q, tupO #[a, b, c, d, e]) (by simp [hq])
  have htR : t ≠ R := hRn (t, tupO #[y0, y1, y2, y3, y4]) (by simp)
  have gen : ∀ n : Nat, n = s.heap.objs.size → wpAny (model prog w) A (call (.type "zip") [.ref R, .ref t]) (fun xv s₁ => xv = .ref (n + 3) ∧ ∃ h', s₁ = { s with heap := h' } ∧ Rz (n + 3) (n + 1) (n + 2) R n q t #[a, b, c, d, e] #[y0, y1, y2, y3, y4] .none 0 h' ∧ ∀ c o, s.heap.get? c = some o → h'.get? c = some o) E s := by
    intro n hn
    refine callType_new PySem.F.called_zip (by decide) (PySem.F.typeCall_zip_2 _ _) (PySem.F.newCall_zip_2 _ _) (fun obj => PySem.F.args_object_init_3 obj _ _) PySem.F.entry_zip_new (rz_new R t q #[y0, y1, y2, y3, y4] 4) ⟨hR.1, ht.1, ?_⟩
    have z1 : (s.heap.push (titO t 0)).objs.size = n + 1 := by rw [Heap.size_push, hn]
    have z2 : ((s.heap.push (titO t 0)).push (tupO #[.ref R, .ref s.heap.objs.size])).objs.size = n + 2 := by rw [Heap.size_push, z1]
    have z3 : (((s.heap.push (titO t 0)).push (tupO #[.ref R, .ref s.heap.objs.size])).push (tupO #[.none, .none])).objs.size = n + 3 := by rw [Heap.size_push, z2]
    have g4 : (rzH s.heap R t).get? (((s.heap.push (titO t 0)).push (tupO #[.ref R, .ref s.heap.objs.size])).push (tupO #[.none, .none])).objs.size = some _ := Heap.get?_push_size _ rfl
    have g3 : (rzH s.heap R t).get? ((s.heap.push (titO t 0)).push (tupO #[.ref R, .ref s.heap.objs.size])).objs.size = some _ := Heap.get?_push_of_some _ (Heap.get?_push_size _ rfl)
    have g2 : (rzH s.heap R t).get? (s.heap.push (titO t 0)).objs.size = some _ := Heap.get?_push_of_some _ (Heap.get?_push_of_some _ (Heap.get?_push_size _ rfl))
    have g1 : (rzH s.heap R t).get? s.heap.objs.size = some _ := Heap.get?_push_of_some _ (Heap.get?_push_of_some _ (Heap.get?_push_of_some _ (Heap.get?_push_size _ rfl)))
    have up : ∀ c o, s.heap.get? c = some o → (rzH s.heap R t).get? c = some o := fun c o x => Heap.get?_push_of_some _ (Heap.get?_push_of_some _ (Heap.get?_push_of_some _ (Heap.get?_push_of_some _ x)))
    rw [z1, z2, z3] at g4
    rw [z2] at g3
    rw [z1] at g2
    rw [← hn] at g1 g2
    show _ ∧ _
    rw [z3]
    exact ⟨⟨_, g4, rfl⟩, rfl, _, rfl, ⟨g4, g2, ⟨_, _, g3⟩, up _ _ hR.1, g1, up _ _ hq'.1, up _ _ ht.1⟩, up⟩
  generalize hn : s.heap.objs.size = n at *
  refine wpAny_mono (gen n rfl) ?_ fun _ _ e => e
  rintro xv s₁ ⟨rfl, h', rfl, H, up⟩
  refine wpAny_pyIter_zip H.z ?_
  have D : RzA (n + 3) (n + 1) (n + 2) R n q t := rzA hRlt hqlt htlt hqR htR
  have fr : ∀ b, n ≤ b → h₀.get? b = none := fun b hb => ktu_new F (by rw [hn]; exact hb)
  refine ktu_core (tk0 := s.toks) (KTurns.ofWalksU (rz_walks (xs := #[a, b, c, d, e]) (ys := #[y0, y1, y2, y3, y4]) hh D (show (5 : Nat) < 2 ^ 62 by decide) (Nat.le_refl 5))) rfl ?_ ?_ ?_ ?_ ?_ ?_ ?_ H (F.keeps up) (N'.grown up) ?_ (rest₀ n hlt)
  · rintro i v h ⟨T, vals, rfl, ⟨x, y, hx, hy, rfl⟩, hT⟩
    match i, hx, hy with
    | 0, hx, hy => cases hx; cases hy; exact ⟨_, rfl, T, 0, rfl, hT⟩
    | 1, hx, hy => cases hx; cases hy; exact ⟨_, rfl, T, 0, rfl, hT⟩
    | 2, hx, hy => cases hx; cases hy; exact ⟨_, rfl, T, 0, rfl, hT⟩
    | 3, hx, hy => cases hx; cases hy; exact ⟨_, rfl, T, 0, rfl, hT⟩
    | 4, hx, hy => cases hx; cases hy; exact ⟨_, rfl, T, 0, rfl, hT⟩
    | n + 5, _, hy => simp at hy
  · rintro i h ⟨hz, hTI, ⟨a, b, hTO⟩, h1, h2, _, _⟩
    refine ⟨[(n + 3, zipO .none (n + 1) (n + 2)), (n + 1, tupO #[.ref R, .ref n]), (n + 2, tupO #[a, b]), (R, revO q ((5 : Nat) - 1 - (i : Int))), (n, titO t i)], ⟨⟨rfl, rfl⟩, ⟨rfl, rfl⟩, ⟨rfl, rfl⟩, ⟨rfl, rfl⟩, ⟨rfl, rfl⟩, trivial⟩, fun p hp => ?_⟩
    rcases List.mem_cons.mp hp with rfl | hp
    · exact hz
    rcases List.mem_cons.mp hp with rfl | hp
    · exact hTI
    rcases List.mem_cons.mp hp with rfl | hp
    · exact hTO
    rcases List.mem_cons.mp hp with rfl | hp
    · exact h1
    rw [List.mem_singleton.mp hp]
    exact h2
  · intro b hb
    have hb' : b = n + 3 ∨ b = n + 1 ∨ b = n + 2 ∨ b = R ∨ b = n := by simpa using hb
    rcases hb' with rfl | rfl | rfl | rfl | rfl
    · exact ⟨by simp, fr _ (Nat.le_add_right _ _)⟩
    · exact ⟨by simp, fr _ (Nat.le_add_right _ _)⟩
    · exact ⟨by simp, fr _ (Nat.le_add_right _ _)⟩
    · exact ⟨by simp, hR.2.2⟩
    · exact ⟨by simp, fr _ (Nat.le_refl _)⟩
  · intro b hb
    have hb' : b = n + 3 ∨ b = n + 2 ∨ b = R ∨ b = n := by simpa using hb
    rcases hb' with rfl | rfl | rfl | rfl <;> simp
  · intro bb hb
    have hb' : bb = n + 3 ∨ bb = n + 1 ∨ bb = n + 2 ∨ bb = R ∨ bb = n ∨ bb = q ∨ bb = t := by simpa using hb
    rcases hb' with hbe | hbe | hbe | hbe | hbe | hbe | hbe
    · exact .inl (by simp [hbe])
    · exact .inl (by simp [hbe])
    · exact .inl (by simp [hbe])
    · exact .inl (by simp [hbe])
    · exact .inl (by simp [hbe])
    · exact .inr ⟨tupO #[a, b, c, d, e], by rw [hbe]; exact List.mem_cons_self ..⟩
    · exact .inr ⟨tupO #[y0, y1, y2, y3, y4], by rw [hbe]; exact List.mem_cons_of_mem _ (List.mem_cons_self ..)⟩
  · intro hI'
    have hb' : env.locals = n + 3 ∨ env.locals = n + 1 ∨ env.locals = n + 2 ∨ env.locals = R ∨ env.locals = n ∨ env.locals = q ∨ env.locals = t := by simpa using hI'
    have n1 := hR.2.1
    have n2 := hq'.2.1
    have n3 := ht.2.1
    rcases hb' with e | e | e | e | e | e | e
    · exact ktu_ne 3 hLs e
    · exact ktu_ne 1 hLs e
    · exact ktu_ne 2 hLs e
    · exact n1 e.symm
    · exact Nat.ne_of_lt hLs e
    · exact n2 e.symm
    · exact n3 e.symm
  · intro p hp hI'
    have hb' : p.1 = n + 3 ∨ p.1 = n + 2 ∨ p.1 = R ∨ p.1 = n := by simpa using hI'
    have hlp := hlt p hp
    rcases hb' with e | e | e | e
    · exact ktu_ne 3 hlp e
    · exact ktu_ne 2 hlp e
    · exact hRn p hp e
    · exact Nat.ne_of_lt hlp e
  · exact And.intro (by simp [hq]) (And.intro (by simp) trivial)
end
end Mine
end part_Rz2

section part_Rz3
open PySem PySem.W PyProof.Rows PySem.Calls
set_option Elab.async false
set_option linter.unusedVariables false
set_option maxRecDepth 100000
set_option maxHeartbeats 4000000
namespace Mine
section
variable {prog : Program} {w : World} {A : Around} {E : Value → Shared → Prop} {s : Shared} {h₀ : Heap} {L : Addr} {m : Str → Option Value} {Q : Value → Shared → Prop}
theorem OffRev.cons {p : Addr × Obj} {l : List (Addr × Obj)} (h : p.2.cls ≠ .type "reversed") (t : OffRev l) : OffRev (p :: l) := ⟨h, t⟩
theorem OffRev.nil : OffRev [] := trivial
def OffList : List (Addr × Obj) → Prop
  | [] => True
  | p :: r => p.2.cls ≠ .type "list" ∧ OffList r
theorem OffList.cons {p : Addr × Obj} {l : List (Addr × Obj)} (h : p.2.cls ≠ .type "list") (t : OffList l) : OffList (p :: l) := ⟨h, t⟩
theorem OffList.nil : OffList [] := trivial
theorem OffList.at : ∀ {l : List (Addr × Obj)}, OffList l → ∀ p ∈ l, p.2.cls ≠ .type "list"
  | [], _, p, hp => nomatch hp
  | _ :: _, h, p, hp => by
    rcases List.mem_cons.mp hp with rfl | hp
    · exact h.1
    · exact h.2.at p hp
theorem ne_cls {a b : Value} {n : String} (h : a = .type n) (h' : Value.type n ≠ b) : a ≠ b := h ▸ h'
theorem r_append {a : Addr} {vs : Array Value} {n : Nat} {x : Value} {pre post : List (Addr × Obj)} (F : Fr h₀ L s.heap m) (N : News h₀ L s.heap (pre ++ (a, W.listOf vs n) :: post))
    (hpre : OffList pre) (hpost : OffList post) (hsz : vs.size ≤ 100)
    (h : ∀ h', Fr h₀ L h' m → News h₀ L h' (pre ++ (a, W.listOf (vs.push x) (n + 1)) :: post) → Q .none { s with heap := h' }) : wpAny (model prog w) A (call (.builtin "list.append") [.ref a, x]) Q E s := by
  have hm : (a, W.listOf vs n) ∈ pre ++ (a, W.listOf vs n) :: post := by simp
  have ho := (N _ hm).1
  have hT : s.TypeIs (.ref a) "list" := ⟨_, ho, rfl⟩
  refine wpAny_call_entry slot_list_append hT entry_list_append ?_ (args_list_append _ _)
  show wpAny _ _ (updateSeq a (·.push x) >>= fun _ => ret .none) _ _ s
  refine wpAny_bind ?_
  refine wpAny_updateSeq ho rfl (wpAny_pure ⟨.none, rfl, ?_⟩) (by first | omega | (have := hsz; size_fits) | (simp; omega))
  have hs := Heap.SameBut.update s.heap a (Obj.mapSeq (·.push x))
  refine h _ (F.update N hm hs) ?_
  have oth : ∀ p ∈ pre ++ (a, W.listOf vs n) :: post, p.2.cls ≠ .type "list" → p.1 ≠ a := by
    intro p hp hc e
    have h1 := (N p hp).1
    rw [e, ho] at h1
    exact hc (by rw [← Option.some.inj h1])
  intro p hp
  rcases List.mem_append.mp hp with hp | hp
  · have hp' : p ∈ pre ++ (a, W.listOf vs n) :: post := by simp [hp]
    exact ⟨(hs.2 _ (oth p hp' (hpre.at p hp))).trans (N p hp').1, (N p hp').2⟩
  · rcases List.mem_cons.mp hp with rfl | hp
    · refine ⟨?_, (N _ hm).2⟩
      show (s.heap.update a (Obj.mapSeq (·.push x))).get? a = _
      rw [Heap.get?_update_self _ ho rfl]
      simp [Obj.mapSeq, W.listOf]
    · have hp' : p ∈ pre ++ (a, W.listOf vs n) :: post := by simp [hp]
      exact ⟨(hs.2 _ (oth p hp' (hpost.at p hp))).trans (N p hp').1, (N p hp').2⟩
end
end Mine
end part_Rz3

section part_Rz4
open PySem PySem.W PyProof.Rows PySem.Calls
set_option Elab.async false
set_option linter.unusedVariables false
set_option maxRecDepth 100000
set_option maxHeartbeats 4000000
namespace Mine
/-! tuple(reversed(xs)) for a list of five -/
theorem lri_size : typeLookup (.type "list_reverseiterator") (Str.ofString "__len__") = pure none := by rw [typeLookup_type, builtinLookup_eq_fast]; kernel_rfl
theorem lri_hint : ∃ id, id = "list_reverseiterator.__length_hint__" ∧ splitId id = some ("list_reverseiterator", "__length_hint__") ∧ typeLookup (.type "list_reverseiterator") (Str.ofString "__length_hint__") = pure (some (.builtin id)) :=
  ⟨_, rfl, by decide +kernel, by rw [typeLookup_type, builtinLookup_eq_fast]; kernel_rfl⟩
theorem lri_sub : isSubtype (.type "list_reverseiterator") (.type "list_reverseiterator") = pure true := by rw [isSubtype_type]; kernel_rfl
section
variable {prog : Program} {w : World} {A : Around} {E : Value → Shared → Prop} {s : Shared}
/-- nobody is asked for the length of what is left of a reversed list -/
theorem lri_room {x : Value} {Q : Bool → Shared → Prop} (hT : s.TypeIs x "list_reverseiterator") (h : Q false s) : wpAny (model prog w) A (Builtin.List.listLengthHint x) Q E s := by
  have l := lri_size
  have u := lri_sub
  obtain ⟨id, hid, c, i⟩ := lri_hint
  unfold Builtin.List.listLengthHint
  wp_walk
  rw [c]
  wp_walk
  subst hid
  refine wpAny_ite_true (by rfl) ?_
  refine wpAny_ite_false (by rfl) ?_
  exact wpAny_pure h
theorem back_items {xs acc : Array Value} (h : ItemsOf (fun i v => xs[xs.size - 1 - i]? = some v) acc xs.size) : acc = xs.reverse := by
  apply Array.ext (by rw [h.1, Array.size_reverse])
  intro j h1 h2
  have e : xs[xs.size - 1 - j]? = some acc[j] := h.2 j acc[j] (Array.getElem?_eq_getElem h1)
  rw [h.1] at h1
  rw [Array.getElem?_eq_getElem (by omega)] at e
  rw [Array.getElem_reverse]
  exact (Option.some.inj e).symm
/-- a new list takes what is left of a reversed list -/
theorem lri_iadd {S I l : Addr} {xs : Array Value} {R : Result → Shared → Prop} (hh : A.handled = none) (hS : s.heap.get? S = some { cls := .type "list", data := .seq #[] }) (hI : s.heap.IsRevIter I l ((xs.size : Int) - 1)) (hl : s.heap.IsList l xs)
    (hSI : S ≠ I) (hSl : S ≠ l) (hlI : l ≠ I) (hz : xs.size ≤ sizeLine)
    (h : ∀ h' tk c, (∀ b o, b ≠ S → b ≠ I → s.heap.get? b = some o → h'.get? b = some o) → h'.get? S = some { cls := .type "list", data := .seq xs.reverse c } → R (.ok (.ret (.ref S))) { s with heap := h', toks := tk }) :
    codeAny (model prog w) A (.builtin "list.__iadd__" ⟨[.ref S, .ref I], []⟩) R s := by
  have same : Builtin.List.listSameRef (.ref S) (.ref I) = false := by unfold Builtin.List.listSameRef; simpa using hSI
  refine codeAny_builtin F.entry_list_iadd ?_
  rw [Around.under_plainId F.plain_list_iadd _]
  unfold Builtin.«list.__iadd__»
  wp_walk using wpAny_typeOf hI.typeIs, wpAny_pyIter_revIter hI, lri_room hI.typeIs
  have V := (Walks.listRev (prog := prog) (w := w) (A := A.in1) hh I l hlI xs).toS
  refine ⟨plainId_quiet F.plain_extend_loop _, codeAny_extend_loopS V hz S (by simp [hSI, hSl]) _ xs.size 0 s #[] _ (Nat.sub_zero _) (Nat.zero_le _) ?st hS (.nil _) ?fin⟩
  case st => exact ⟨Nat.zero_le _, by simpa using hI, hl⟩
  case fin =>
    rintro ⟨h', g, d, tk, os⟩ acc c ⟨up, eg, ed, eo, _⟩ at' its
    cases eg; cases ed; cases eo
    exact h h' tk c (fun b o b1 b2 e => up b o (by simp [b1, b2]) e) (back_items its ▸ at')
/-- what is left of a reversed list, in a list of the model's own -/
theorem lri_collect {I l : Addr} {xs : Array Value} {Q : List Value → Shared → Prop} (hh : A.handled = none) (hI : s.heap.IsRevIter I l ((xs.size : Int) - 1)) (hl : s.heap.IsList l xs) (hlI : l ≠ I) (hz : xs.size ≤ sizeLine)
    (h : ∀ h' tk, (∀ b o, b ≠ I → s.heap.get? b = some o → h'.get? b = some o) → Q xs.reverse.toList { s with heap := h', toks := tk }) : wpAny (model prog w) A (collect (.ref I)) Q E s := by
  obtain ⟨oI, gI, cI⟩ := hI
  obtain ⟨ol, gl, cl⟩ := hl
  unfold collect
  refine wpAny_bind (wpAny_runValue (codeAny_builtin F.entry_proto_collect ?_))
  rw [Around.under_plainId F.plain_proto_collect _]
  unfold Builtin.«proto.collect»
  wp_walk
  refine ⟨plainId_quiet F.plain_list_iadd _, lri_iadd (l := l) (xs := xs) hh (Heap.get?_push_size _ rfl) ⟨oI, Heap.get?_push_of_some _ gI, cI⟩ ⟨ol, Heap.get?_push_of_some _ gl, cl⟩ (Nat.ne_of_gt (Heap.lt_size gI)) (Nat.ne_of_gt (Heap.lt_size gl)) hlI hz ?_⟩
  intro h' tk c up at'
  refine wpAny_bind (wpAny_load at' (wpAny_pure (h h' tk fun b o b1 e => up b o (Nat.ne_of_lt (Heap.lt_size e)) b1 (Heap.get?_push_of_some _ e))))
/-- a tuple made of what is left of a reversed list -/
theorem lri_new {I l : Addr} {xs : Array Value} (hlI : l ≠ I) (hz : xs.size ≤ sizeLine) :
    Meets (Builtin.«tuple.__new__» ⟨[.type "tuple", .ref I], []⟩) (fun A R s => A.handled = none ∧ s.heap.IsRevIter I l ((xs.size : Int) - 1) ∧ s.heap.IsList l xs ∧
      ∀ (h' : Heap) (tk : Nat), (∀ b o, b ≠ I → s.heap.get? b = some o → h'.get? b = some o) → R (.ok (.ret (.ref h'.objs.size))) { s with heap := h'.push { cls := .type "tuple", data := .seq xs.reverse }, toks := tk }) :=
  .of_wp fun prog w A R s ⟨hh, hI, hl, h⟩ => by
    have T := hI.typeIs
    have a1 := sub_tuple_self
    have a2 := init_tuple_lookup
    have a3 := madeHere_tuple
    wp_walk using wpAny_typeOf T, lri_collect (A := A.in1) hh hI hl hlI hz
    intro h' tk up
    have sz : xs.reverse.toList.toArray.size ≤ sizeLine := by simpa using hz
    wp_walk using wpAny_newObj_type (hd := sz)
    have r := h h' tk up
    rw [← Array.toArray_toList (xs := xs.reverse)] at r
    exact ⟨_, rfl, r⟩
end
section
variable {prog : Program} {w : World} {A : Around} {E : Value → Shared → Prop} {s : Shared} {h₀ : Heap} {L : Addr} {m : Str → Option Value}
def OffLri : List (Addr × Obj) → Prop
  | [] => True
  | p :: r => p.2.cls ≠ .type "list_reverseiterator" ∧ OffLri r
theorem OffLri.cons {p : Addr × Obj} {l : List (Addr × Obj)} (h : p.2.cls ≠ .type "list_reverseiterator") (t : OffLri l) : OffLri (p :: l) := ⟨h, t⟩
theorem OffLri.nil : OffLri [] := trivial
theorem OffLri.at : ∀ {l : List (Addr × Obj)}, OffLri l → ∀ p ∈ l, p.2.cls ≠ .type "list_reverseiterator"
  | [], _, p, hp => nomatch hp
  | _ :: _, h, p, hp => by
    rcases List.mem_cons.mp hp with rfl | hp
    · exact h.1
    · exact h.2.at p hp
theorem r_tuple_rev {I l : Addr} {a b c d e : Value} {n : Nat} {news : List (Addr × Obj)} {Q : Value → Shared → Prop} (hh : A.handled = none) (F : Fr h₀ L s.heap m) (N : News h₀ L s.heap ((I, revObj l 4) :: news))
    (hl : (l, W.listOf #[a, b, c, d, e] n) ∈ news) (hoff : OffLri news)
    (h : ∀ D h' tk, Fr h₀ L h' m → News h₀ L h' ((D, tupO #[e, d, c, b, a]) :: news) → (∀ p ∈ news, p.1 < D) → Q (.ref D) { s with heap := h', toks := tk }) : wpAny (model prog w) A (call (.type "tuple") [.ref I]) Q E s := by
  have hI := N (I, revObj l 4) (by simp)
  have hl' := N (l, W.listOf #[a, b, c, d, e] n) (by simp [hl])
  have hne : ∀ p ∈ news, p.1 ≠ I := by
    intro p hp e
    have h1 := (N p (by simp [hp])).1
    rw [e, hI.1] at h1
    exact hoff.at p hp (by rw [← Option.some.inj h1]; rfl)
  refine callType_new PySem.F.called_tuple (by decide) (PySem.F.typeCall_tuple_1 _) (PySem.F.newCall_tuple_1 _) (fun obj => PySem.F.args_object_init_2 obj _) PySem.F.entry_tuple_new
    (lri_new (I := I) (xs := #[a, b, c, d, e]) (hne _ hl) (show (5 : Nat) ≤ sizeLine by decide)) ⟨hh, ⟨_, hI.1, rfl, rfl⟩, ⟨_, hl'.1, rfl, n, rfl⟩, fun h' tk up => ⟨⟨_, Heap.get?_push_size _ rfl, rfl⟩, ?_⟩⟩
  have F1 : Fr h₀ L h' m := ⟨F.ns.at' fun o g => up _ o (fun x => hI.2.1 x.symm) g, fun b o g => up b o (fun x => by rw [x, hI.2.2] at g; cases g) (F.keep b o g), F.above⟩
  have N1 : News h₀ L h' news := fun p hp => ⟨up _ _ (hne p hp) (N p (by simp [hp])).1, (N p (by simp [hp])).2⟩
  rw [show (#[a, b, c, d, e] : Array Value).reverse = #[e, d, c, b, a] by simp]
  exact h _ _ _ (F1.push _) (News.push F1 N1 _) fun p hp => Heap.lt_size (N1 p hp).1
end
end Mine
end part_Rz4

section part_Wk1
open PySem PySem.W PyProof.Rows PySem.Calls
set_option Elab.async false
namespace Mine
set_option maxRecDepth 100000
set_option maxHeartbeats 8000000
local macro_rules | `(tactic| walk_at "my lit") => `(tactic| first | exact rfl | exact lit_half | exact lit_greg | exact lit_maya | exact lit_posi)
local macro_rules | `(tactic| walk_at "my bd") => `(tactic| (f_lean; first | (unfold Bd; omega) | omega))
local macro_rules | `(tactic| walk_at "binaryOp Add float float") => `(tactic| (refine' r_add_ff ?k1 ?k2 ?k3 ?k4 ?_; (case k1 => k_dflt (walk_at "my lit")); (case k2 => k_dflt (walk_at "my lit")); (case k3 => k_dflt (walk_at "my bd")); (case k4 => k_dflt (walk_at "my bd")); (try dsimp only)))
local macro_rules | `(tactic| walk_at "binaryOp Sub float float") => `(tactic| (refine' r_sub_ff ?k1 ?k2 ?k3 ?k4 ?k5 ?_; (case k1 => k_dflt (walk_at "my lit")); (case k2 => k_dflt (walk_at "my lit")); (case k3 => k_dflt (walk_at "my bd")); (case k4 => k_dflt (walk_at "my bd")); (case k5 => k_dflt (walk_at "my bd")); (try dsimp only)))
local macro_rules | `(tactic| walk_at "binaryOp Add float int") => `(tactic| (refine' r_add_qi ?k3 ?_; (case k3 => k_dflt (walk_at "my bd")); (try dsimp only)))
local macro_rules | `(tactic| walk_at "binaryOp Add float int") => `(tactic| (refine' r_add_fi ?k1 ?k2 ?k3 ?_; (case k1 => k_dflt (walk_at "my lit")); (case k2 => k_dflt (walk_at "my bd")); (case k3 => k_dflt (walk_at "my bd")); (try dsimp only)))
local macro_rules | `(tactic| walk_at "inplaceOp Add float int") => `(tactic| (refine' r_iadd_fi ?k1 ?k2 ?k3 ?_; (case k1 => k_dflt (walk_at "my lit")); (case k2 => k_dflt (walk_at "my bd")); (case k3 => k_dflt (walk_at "my bd")); (try dsimp only)))
local macro_rules | `(tactic| walk_at "binaryOp Add int float") => `(tactic| (refine' r_add_if ?k1 ?k2 ?k3 ?_; (case k1 => k_dflt (walk_at "my lit")); (case k2 => k_dflt (walk_at "my bd")); (case k3 => k_dflt (walk_at "my bd")); (try dsimp only)))
local macro_rules | `(tactic| walk_at "binaryOp Sub float int") => `(tactic| (refine' r_sub_fi ?k1 ?k2 ?k3 ?k4 ?_; (case k1 => k_dflt (walk_at "my lit")); (case k2 => k_dflt (walk_at "my bd")); (case k3 => k_dflt (walk_at "my bd")); (case k4 => k_dflt (walk_at "my bd")); (try dsimp only)))
local macro_rules | `(tactic| walk_at "inplaceOp Sub float int") => `(tactic| (refine' r_isub_fi ?k1 ?k2 ?k3 ?k4 ?_; (case k1 => k_dflt (walk_at "my lit")); (case k2 => k_dflt (walk_at "my bd")); (case k3 => k_dflt (walk_at "my bd")); (case k4 => k_dflt (walk_at "my bd")); (try dsimp only)))
local macro_rules | `(tactic| walk_at "binaryOp Mult float int") => `(tactic| (refine' r_mul_fi ?k1 ?k2 ?k3 ?k4 ?k5 ?_; (case k1 => k_dflt (walk_at "my lit")); (case k2 => k_dflt (walk_at "my bd")); (case k3 => k_dflt (walk_at "my bd")); (case k4 => k_dflt (walk_at "my bd")); (case k5 => k_dflt (walk_at "my bd")); (try dsimp only)))
local macro_rules | `(tactic| walk_at "binaryOp Div float int") => `(tactic| (refine' r_div_fi ?k1 ?k2 ?k3 ?_; (case k1 => k_dflt (walk_at "my lit")); (case k2 => k_dflt (walk_at "my bd")); (case k3 => k_dflt (walk_at "my bd")); (try dsimp only)))
local macro_rules | `(tactic| walk_at "binaryOp Div int int") => `(tactic| (refine' r_div_ii rfl ?k2 ?k3 ?_; (case k2 => k_dflt (walk_at "my bd")); (case k3 => k_dflt (walk_at "my bd")); (try dsimp only)))
local macro_rules | `(tactic| walk_at "binaryOp Mod float int") => `(tactic| (refine' r_mod_fi ?k1 ?k2 ?k3 ?k4 ?k5 ?_; (case k1 => k_dflt (walk_at "my lit")); (case k2 => k_dflt (walk_at "my bd")); (case k3 => k_dflt (walk_at "my bd")); (case k4 => k_dflt (walk_at "my bd")); (case k5 => k_dflt (walk_at "my bd")); (try dsimp only)))
local macro_rules | `(tactic| walk_at "binaryOp Mod int int") => `(tactic| (refine' r_mod_ii ?k2 ?_; (case k2 => k_dflt (walk_at "my bd")); (try dsimp only)))
local macro_rules | `(tactic| walk_at "binaryOp FloorDiv int int") => `(tactic| (refine' r_div_fd ?k2 ?k3 ?_; (case k2 => k_dflt (walk_at "my bd")); (case k3 => k_dflt (walk_at "my bd")); (try dsimp only)))
local macro_rules | `(tactic| walk_at "compareOp GtE float float") => `(tactic| (refine' r_ge_ff ?k1 ?k2 ?k3 ?k4 ?_; (case k1 => k_dflt (walk_at "my lit")); (case k2 => k_dflt (walk_at "my lit")); (case k3 => k_dflt (walk_at "my bd")); (case k4 => k_dflt (walk_at "my bd")); (try dsimp only)))
local macro_rules | `(tactic| walk_at "compareOp Lt float int") => `(tactic| (refine' r_lt_fi ?k1 ?k2 ?_; (case k1 => k_dflt (walk_at "my lit")); (case k2 => k_dflt (walk_at "my bd")); (try dsimp only)))
local macro_rules | `(tactic| walk_at "my floor") => `(tactic| (refine' q_floor_mq ?m1 ?m2 ?m3 ?m4 ?m5 ?m6 <;> walk_at "my bd"))
local macro_rules | `(tactic| walk_at "my floor") => `(tactic| (refine' q_floor_iq ?m1 ?m2 ?m3 ?m4 <;> walk_at "my bd"))
local macro_rules | `(tactic| walk_at "my floor") => `(tactic| (refine' q_floor_dq ?m1 ?m2 ?m3 ?m4 <;> walk_at "my bd"))
local macro_rules | `(tactic| walk_at "my floor") => `(tactic| (refine' q_floor_fl ?m1 ?m2 <;> walk_at "my bd"))
local macro_rules | `(tactic| walk_at "my trunc") => `(tactic| (refine' q_trunc_dq ?m1 ?m2 ?m3 ?m4 <;> walk_at "my bd"))
local macro_rules | `(tactic| walk_at "my trunc") => `(tactic| (refine' q_trunc_fl ?m1 ?m2 <;> walk_at "my bd"))
local macro_rules | `(tactic| walk_at "call builtin:math.floor") => `(tactic| ((with_reducible show wpAny _ _ (call _ [Value.float _ _]) _ _ _); (refine' r_floor_of rfl ?k1 ?_; (case k1 => k_dflt (walk_at "my floor")); (try dsimp only))))
local macro_rules | `(tactic| walk_at "call builtin:math.trunc") => `(tactic| ((with_reducible show wpAny _ _ (call _ [Value.float _ _]) _ _ _); (refine' r_trunc_of rfl ?k1 ?_; (case k1 => k_dflt (walk_at "my trunc")); (try dsimp only))))
local macro_rules | `(tactic| walk_at "call type:int") => `(tactic| ((with_reducible show wpAny _ _ (call _ [Value.float _ _]) _ _ _); (refine' r_int_of rfl ?k1 ?_; (case k1 => k_dflt (walk_at "my trunc")); (try dsimp only))))
local macro_rules | `(tactic| walk_at "my asks") => `(tactic| ((case k1 => k_asm); (case k2 => k_asm); (case k3 => k_asm); (case k4 => k_asm); (case k5 => k_asm); (case k6 => first | exact rfl | assumption); (case k7 => ktr_room); (case k8 => ktr_units)))
local macro_rules | `(tactic| walk_at "eval Name") => `(tactic| (k_here; name_kind "globalImplicit"; k_dflt (first | (refine' nameX_K ?F ?X ?T ?e ?_ ?a ?b; (case F => k_asm); (case X => k_asm); (case T => k_asm); (case a => rfl); (case b => rfl); (case e => k_is); k_whole) | (refine' nameX_B ?F ?X ?T ?e ?v ?n ?_ ?a ?b; (case F => k_asm); (case X => k_asm); (case T => k_asm); (case a => rfl); (case b => rfl); (case e => k_is); (case v => boot_fast); (case n => decide); k_whole))))
local macro_rules | `(tactic| walk_at "eval Name") => `(tactic| (k_here; name_kind "local"; k_dflt (refine' nameX_L ?F ?v ?_ ?a ?b; (case F => k_asm); (case a => rfl); (case b => rfl); (case v => rfl); k_whole)))
theorem c_isleap (w : World) (y : Int) (ty : Tok) : ClAt w 2 67 [.int y ty] True (RetV fun _ => .bool (leap y)) := by
  unfold ClAt; k_fill; intro p loose mean mg mb dp un gd cn cs a ccd cl outer A₀ base h₀ L m news s Q E B F X N T hk hdp hun hpre hret; refine wpAny_call ?_; (k_dflt cell_enter)
  k_steps
  all_goals (refine' end_b hret ?e ?f ?n ?s; (case f => k_asm); (case n => k_asm); (case s => exact fun _ h => h); (case e => first | exact leap_a (by with_reducible assumption) (by with_reducible assumption) | exact leap_b (by with_reducible assumption) (by with_reducible assumption) | exact leap_c (by with_reducible assumption)))
local macro_rules | `(tactic| walk_at "call ref") => `(tactic| (k_dflt (refine' ClAt.use (c_isleap _ _ _) ?k1 ?k2 ?k3 ?k4 ?k5 ?k6 ?k7 ?k8 trivial ?_); walk_at "my asks"; intro t9 h9 tk9 F9 N9; (try dsimp only); (try k_sweep); (try k_fold)))
local macro_rules | `(tactic| walk_at "compareOp In int ref") => `(tactic| (k_dflt (refine' r_in30 ?k1 ?k2 ?_; (case k1 => k_asm); (case k2 => k_asm); (try dsimp only))))
local macro_rules | `(tactic| walk_at "exec Raise some none") => `(tactic| (exfalso; first
  | exact no_raise1 (by with_reducible assumption) (by with_reducible assumption) (by with_reducible assumption) (by with_reducible assumption)
  | exact no_raise2 (by with_reducible assumption) (by with_reducible assumption) (by with_reducible assumption) (by with_reducible assumption)
  | exact no_raise3 (by with_reducible assumption) (by with_reducible assumption) (by with_reducible assumption) (by with_reducible assumption)
  | exact no_raise4 (by with_reducible assumption) (by with_reducible assumption)
  | exact no_raise5 (by with_reducible assumption) (by with_reducible assumption)))
theorem c_legal (w : World) (y mo d : Int) (ty tm td : Tok) : ClAt w 3 74 [.int y ty, .int mo tm, .int d td] (0 < d ∧ d ≤ dim y mo) (RetV fun _ => .bool true) := by
  unfold ClAt; k_fill; intro p loose mean mg mb dp un gd cn cs a ccd cl outer A₀ base h₀ L m news s Q E B F X N T hk hdp hun hpre hret; refine wpAny_call ?_; (k_dflt cell_enter)
  k_steps
  all_goals (refine' end_b hret rfl ?f ?n ?s; (case f => k_asm); (case n => k_asm); (case s => exact fun _ h => h))
end Mine
end part_Wk1

section part_Wk2
open PySem PySem.W PyProof.Rows PySem.Calls
set_option Elab.async false
namespace Mine
set_option maxRecDepth 100000
set_option maxHeartbeats 8000000
local macro_rules | `(tactic| walk_at "my lit") => `(tactic| first | exact rfl | exact lit_half | exact lit_greg | exact lit_maya | exact lit_posi)
local macro_rules | `(tactic| walk_at "my bd") => `(tactic| (f_lean; first | (unfold Bd; omega) | omega))
local macro_rules | `(tactic| walk_at "binaryOp Add float float") => `(tactic| (refine' r_add_ff ?k1 ?k2 ?k3 ?k4 ?_; (case k1 => k_dflt (walk_at "my lit")); (case k2 => k_dflt (walk_at "my lit")); (case k3 => k_dflt (walk_at "my bd")); (case k4 => k_dflt (walk_at "my bd")); (try dsimp only)))
local macro_rules | `(tactic| walk_at "binaryOp Sub float float") => `(tactic| (refine' r_sub_ff ?k1 ?k2 ?k3 ?k4 ?k5 ?_; (case k1 => k_dflt (walk_at "my lit")); (case k2 => k_dflt (walk_at "my lit")); (case k3 => k_dflt (walk_at "my bd")); (case k4 => k_dflt (walk_at "my bd")); (case k5 => k_dflt (walk_at "my bd")); (try dsimp only)))
local macro_rules | `(tactic| walk_at "binaryOp Add float int") => `(tactic| (refine' r_add_qi ?k3 ?_; (case k3 => k_dflt (walk_at "my bd")); (try dsimp only)))
local macro_rules | `(tactic| walk_at "binaryOp Add float int") => `(tactic| (refine' r_add_fi ?k1 ?k2 ?k3 ?_; (case k1 => k_dflt (walk_at "my lit")); (case k2 => k_dflt (walk_at "my bd")); (case k3 => k_dflt (walk_at "my bd")); (try dsimp only)))
local macro_rules | `(tactic| walk_at "inplaceOp Add float int") => `(tactic| (refine' r_iadd_fi ?k1 ?k2 ?k3 ?_; (case k1 => k_dflt (walk_at "my lit")); (case k2 => k_dflt (walk_at "my bd")); (case k3 => k_dflt (walk_at "my bd")); (try dsimp only)))
local macro_rules | `(tactic| walk_at "binaryOp Add int float") => `(tactic| (refine' r_add_if ?k1 ?k2 ?k3 ?_; (case k1 => k_dflt (walk_at "my lit")); (case k2 => k_dflt (walk_at "my bd")); (case k3 => k_dflt (walk_at "my bd")); (try dsimp only)))
local macro_rules | `(tactic| walk_at "binaryOp Sub float int") => `(tactic| (refine' r_sub_fi ?k1 ?k2 ?k3 ?k4 ?_; (case k1 => k_dflt (walk_at "my lit")); (case k2 => k_dflt (walk_at "my bd")); (case k3 => k_dflt (walk_at "my bd")); (case k4 => k_dflt (walk_at "my bd")); (try dsimp only)))
local macro_rules | `(tactic| walk_at "inplaceOp Sub float int") => `(tactic| (refine' r_isub_fi ?k1 ?k2 ?k3 ?k4 ?_; (case k1 => k_dflt (walk_at "my lit")); (case k2 => k_dflt (walk_at "my bd")); (case k3 => k_dflt (walk_at "my bd")); (case k4 => k_dflt (walk_at "my bd")); (try dsimp only)))
local macro_rules | `(tactic| walk_at "binaryOp Mult float int") => `(tactic| (refine' r_mul_fi ?k1 ?k2 ?k3 ?k4 ?k5 ?_; (case k1 => k_dflt (walk_at "my lit")); (case k2 => k_dflt (walk_at "my bd")); (case k3 => k_dflt (walk_at "my bd")); (case k4 => k_dflt (walk_at "my bd")); (case k5 => k_dflt (walk_at "my bd")); (try dsimp only)))
local macro_rules | `(tactic| walk_at "binaryOp Div float int") => `(tactic| (refine' r_div_fi ?k1 ?k2 ?k3 ?_; (case k1 => k_dflt (walk_at "my lit")); (case k2 => k_dflt (walk_at "my bd")); (case k3 => k_dflt (walk_at "my bd")); (try dsimp only)))
local macro_rules | `(tactic| walk_at "binaryOp Div int int") => `(tactic| (refine' r_div_ii rfl ?k2 ?k3 ?_; (case k2 => k_dflt (walk_at "my bd")); (case k3 => k_dflt (walk_at "my bd")); (try dsimp only)))
local macro_rules | `(tactic| walk_at "binaryOp Mod float int") => `(tactic| (refine' r_mod_fi ?k1 ?k2 ?k3 ?k4 ?k5 ?_; (case k1 => k_dflt (walk_at "my lit")); (case k2 => k_dflt (walk_at "my bd")); (case k3 => k_dflt (walk_at "my bd")); (case k4 => k_dflt (walk_at "my bd")); (case k5 => k_dflt (walk_at "my bd")); (try dsimp only)))
local macro_rules | `(tactic| walk_at "binaryOp Mod int int") => `(tactic| (refine' r_mod_ii ?k2 ?_; (case k2 => k_dflt (walk_at "my bd")); (try dsimp only)))
local macro_rules | `(tactic| walk_at "binaryOp FloorDiv int int") => `(tactic| (refine' r_div_fd ?k2 ?k3 ?_; (case k2 => k_dflt (walk_at "my bd")); (case k3 => k_dflt (walk_at "my bd")); (try dsimp only)))
local macro_rules | `(tactic| walk_at "compareOp GtE float float") => `(tactic| (refine' r_ge_ff ?k1 ?k2 ?k3 ?k4 ?_; (case k1 => k_dflt (walk_at "my lit")); (case k2 => k_dflt (walk_at "my lit")); (case k3 => k_dflt (walk_at "my bd")); (case k4 => k_dflt (walk_at "my bd")); (try dsimp only)))
local macro_rules | `(tactic| walk_at "compareOp Lt float int") => `(tactic| (refine' r_lt_fi ?k1 ?k2 ?_; (case k1 => k_dflt (walk_at "my lit")); (case k2 => k_dflt (walk_at "my bd")); (try dsimp only)))
local macro_rules | `(tactic| walk_at "my floor") => `(tactic| (refine' q_floor_mq ?m1 ?m2 ?m3 ?m4 ?m5 ?m6 <;> walk_at "my bd"))
local macro_rules | `(tactic| walk_at "my floor") => `(tactic| (refine' q_floor_iq ?m1 ?m2 ?m3 ?m4 <;> walk_at "my bd"))
local macro_rules | `(tactic| walk_at "my floor") => `(tactic| (refine' q_floor_dq ?m1 ?m2 ?m3 ?m4 <;> walk_at "my bd"))
local macro_rules | `(tactic| walk_at "my floor") => `(tactic| (refine' q_floor_fl ?m1 ?m2 <;> walk_at "my bd"))
local macro_rules | `(tactic| walk_at "my trunc") => `(tactic| (refine' q_trunc_dq ?m1 ?m2 ?m3 ?m4 <;> walk_at "my bd"))
local macro_rules | `(tactic| walk_at "my trunc") => `(tactic| (refine' q_trunc_fl ?m1 ?m2 <;> walk_at "my bd"))
local macro_rules | `(tactic| walk_at "call builtin:math.floor") => `(tactic| ((with_reducible show wpAny _ _ (call _ [Value.float _ _]) _ _ _); (refine' r_floor_of rfl ?k1 ?_; (case k1 => k_dflt (walk_at "my floor")); (try dsimp only))))
local macro_rules | `(tactic| walk_at "call builtin:math.trunc") => `(tactic| ((with_reducible show wpAny _ _ (call _ [Value.float _ _]) _ _ _); (refine' r_trunc_of rfl ?k1 ?_; (case k1 => k_dflt (walk_at "my trunc")); (try dsimp only))))
local macro_rules | `(tactic| walk_at "call type:int") => `(tactic| ((with_reducible show wpAny _ _ (call _ [Value.float _ _]) _ _ _); (refine' r_int_of rfl ?k1 ?_; (case k1 => k_dflt (walk_at "my trunc")); (try dsimp only))))
local macro_rules | `(tactic| walk_at "my asks") => `(tactic| ((case k1 => k_asm); (case k2 => k_asm); (case k3 => k_asm); (case k4 => k_asm); (case k5 => k_asm); (case k6 => first | exact rfl | assumption); (case k7 => ktr_room); (case k8 => ktr_units)))
local macro_rules | `(tactic| walk_at "eval Name") => `(tactic| (k_here; name_kind "globalImplicit"; k_dflt (first | (refine' nameX_K ?F ?X ?T ?e ?_ ?a ?b; (case F => k_asm); (case X => k_asm); (case T => k_asm); (case a => rfl); (case b => rfl); (case e => k_is); k_whole) | (refine' nameX_B ?F ?X ?T ?e ?v ?n ?_ ?a ?b; (case F => k_asm); (case X => k_asm); (case T => k_asm); (case a => rfl); (case b => rfl); (case e => k_is); (case v => boot_fast); (case n => decide); k_whole))))
local macro_rules | `(tactic| walk_at "eval Name") => `(tactic| (k_here; name_kind "local"; k_dflt (refine' nameX_L ?F ?v ?_ ?a ?b; (case F => k_asm); (case a => rfl); (case b => rfl); (case v => rfl); k_whole)))
local macro_rules | `(tactic| walk_at "call ref") => `(tactic| (k_dflt (refine' ClAt.use (c_isleap _ _ _) ?k1 ?k2 ?k3 ?k4 ?k5 ?k6 ?k7 ?k8 trivial ?_); walk_at "my asks"; intro t9 h9 tk9 F9 N9; (try dsimp only); (try k_sweep); (try k_fold)))
local macro_rules | `(tactic| walk_at "call ref") => `(tactic| (k_dflt (refine' ClAt.use (c_legal _ _ _ _ _ _ _) ?k1 ?k2 ?k3 ?k4 ?k5 ?k6 ?k7 ?k8 ?k9 ?_); (case k9 => omega); walk_at "my asks"; intro t9 h9 tk9 F9 N9; (try dsimp only); (try k_sweep); (try k_fold)))
theorem c_to_jd (w : World) (y mo d : Int) (ty tm td : Tok) : ClAt w 4 81 [.int y ty, .int mo tm, .int d td] (1 ≤ y ∧ y ≤ 10000 ∧ 1 ≤ mo ∧ mo ≤ 12 ∧ 0 < d ∧ d ≤ 31 ∧ d ≤ dim y mo) (RetV fun t => .float (fl2 (jd2 y mo d)) t) := by
  unfold ClAt; k_fill; intro p loose mean mg mb dp un gd cn cs a ccd cl outer A₀ base h₀ L m news s Q E B F X N T hk hdp hun hpre hret; refine wpAny_call ?_; (k_dflt cell_enter)
  k_steps
  all_goals (refine' end_f hret ?e ?f ?n ?s; (case f => k_asm); (case n => k_asm); (case s => exact fun _ h => h); (case e => (unfold jd2; first | rw [adj_1 (by with_reducible assumption)] | rw [adj_2 (by with_reducible assumption) (by with_reducible assumption)] | rw [adj_3 (by with_reducible assumption) (by with_reducible assumption)]); omega))
theorem c_to_jd1 (w : World) (y mo : Int) (ty tm td : Tok) : ClAt w 4 81 [.int y ty, .int mo tm, .int 1 td] (1 ≤ y ∧ y ≤ 10000 ∧ 1 ≤ mo ∧ mo ≤ 12) (RetV fun t => .float (fl2 (jd2 y mo 1)) t) := by
  intro p loose mean mg mb dp un gd cn cs a ccd cl outer A₀ base h₀ L m news s Q E B F X N T hk hdp hun hpre hret
  have h := dim_ge y mo
  exact ClAt.use (c_to_jd w y mo 1 ty tm td) B F X N T hk hdp hun (by omega) hret
theorem c_to_jdZ (w : World) (y mo : Int) (ty tm td : Tok) : ClAt w 4 81 [.int y ty, .int mo tm, .int 1 td] (1 ≤ y ∧ y ≤ 10000 ∧ 1 ≤ mo ∧ mo ≤ 12) (RetZ (jd2 y mo 1)) := by
  intro p loose mean mg mb dp un gd cn cs a ccd cl outer A₀ base h₀ L m news s Q E B F X N T hk hdp hun hpre hret
  have h := jd2_bd hpre
  exact ClAt.use (c_to_jd1 w y mo ty tm td) B F X N T hk hdp hun hpre (fun t h' tk' F' N' => hret _ t h' tk' rfl h.1 h.2 F' N')
end Mine
end part_Wk2

section part_Dt
open PySem PySem.W PyProof.Rows PySem.Calls
set_option Elab.async false
set_option maxRecDepth 100000
set_option maxHeartbeats 4000000
namespace Mine
open PySem.F

theorem mro_date : mroOf (.type "datetime.date") = pure [.type "datetime.date", .type "object"] := by rw [mroOf_type]; kernel_rfl
theorem lookup_date_new : typeLookup (.type "datetime.date") "__new__" = pure (some (.builtin "datetime.date.__new__")) := by rw [typeLookup_type, builtinLookup_eq_fast]; kernel_rfl
theorem slot_date_init : Slot "datetime.date" "__init__" "object.__init__" :=
  .of (owner := "object") (n := "__init__") (by rw [typeLookup_type, builtinLookup_eq_fast]; kernel_rfl) (by decide +kernel) (by decide +kernel) (by decide +kernel)
    (by first | exact .inl (by decide +kernel) | exact .inr (by decide +kernel)) (by rw [isSubtype_type]; kernel_rfl)
theorem sub_date_date : isSubtype (.type "datetime.date") (.type "datetime.date") = pure true := by rw [isSubtype_type]; kernel_rfl
theorem sub_date_dt : isSubtype (.type "datetime.date") (.type "datetime.datetime") = pure false := by rw [isSubtype_type]; kernel_rfl
theorem called_date : TypeCalled "datetime.date" "datetime.date.__new__" "object.__init__" :=
  ⟨by decide +kernel, by decide +kernel, ⟨_, _, mro_date⟩, madeBy_type mro_date lookup_date_new (by decide +kernel), by decide +kernel, sub_date_date, slot_date_init⟩
theorem typeCall_date (a b c : Value) : checkTypeCall "datetime.date" ⟨[a, b, c], []⟩ = pure () := by kernel_rfl
theorem newCall_date (a b c : Value) : checkBuiltinCall "datetime.date.__new__" ⟨[.type "datetime.date", a, b, c], []⟩ = pure () := by kernel_rfl
theorem entry_date_new : entryFor table "datetime.date.__new__" = some Builtin.«datetime.date.__new__» := entryFor_of_tree (by kernel_rfl)
theorem initArgs_date (obj a b c : Value) : argsOk "object.__init__" ⟨[obj, a, b, c], []⟩ := by kernel_rfl
theorem slot_date_iso : Slot "datetime.date" "isocalendar" "datetime.date.isocalendar" :=
  .of (owner := "datetime.date") (n := "isocalendar") (by rw [typeLookup_type, builtinLookup_eq_fast]; kernel_rfl) (by decide +kernel) (by decide +kernel) (by decide +kernel)
    (by first | exact .inl (by decide +kernel) | exact .inr (by decide +kernel)) (by rw [isSubtype_type]; kernel_rfl)
theorem entry_date_iso : entryFor table "datetime.date.isocalendar" = some Builtin.«datetime.date.isocalendar» := entryFor_of_tree (by kernel_rfl)
theorem plainAttrs_date : PlainAttrs "datetime.date" :=
  ⟨⟨"object.__getattribute__", by rw [typeLookup_type, builtinLookup_eq_fast]; kernel_rfl, by decide +kernel⟩, by rw [typeLookup_type, builtinLookup_eq_fast]; kernel_rfl⟩
theorem args_date_iso (a : Value) : argsOk "datetime.date.isocalendar" ⟨[a], []⟩ := by unfold argsOk; kernel_rfl
theorem type_date_iso : typeOf (.builtin "datetime.date.isocalendar") = pure (.type "method_descriptor") := by show builtinType _ = _; rw [builtinType_eq_fast]; kernel_rfl
theorem sub_iso_tuple : isSubtype (.type "datetime.IsoCalendarDate") (.type "tuple") = pure true := by rw [isSubtype_type]; kernel_rfl
theorem slot_iso_getitem : Slot "datetime.IsoCalendarDate" "__getitem__" "tuple.__getitem__" :=
  .of (owner := "tuple") (n := "__getitem__") (by rw [typeLookup_type, builtinLookup_eq_fast]; kernel_rfl) (by decide +kernel) (by decide +kernel) (by decide +kernel)
    (by first | exact .inl (by decide +kernel) | exact .inr (by decide +kernel)) (by rw [isSubtype_type]; kernel_rfl)
theorem slot_iso_ne : Slot "datetime.IsoCalendarDate" "__ne__" "tuple.__ne__" :=
  .of (owner := "tuple") (n := "__ne__") (by rw [typeLookup_type, builtinLookup_eq_fast]; kernel_rfl) (by decide +kernel) (by decide +kernel) (by decide +kernel)
    (by first | exact .inl (by decide +kernel) | exact .inr (by decide +kernel)) (by rw [isSubtype_type]; kernel_rfl)

abbrev dateObj (y m d : Int) : Obj := { cls := .type "datetime.date", data := .fields #[rawInt y, rawInt m, rawInt d] }
abbrev isoObj (vs : Array Value) : Obj := { cls := .type "datetime.IsoCalendarDate", data := .seq vs }

section
variable {M : Model} {A : Around} {E : Value → Shared → Prop} {s : Shared}
theorem dtCInt_ok {y : Int} {t : Tok} {Q : Int → Shared → Prop} (h : -2147483648 ≤ y ∧ y < 2147483648) (hq : Q y s) : wpAny M A (Builtin._datetime.dtCInt (.int y t)) Q E s := by
  unfold Builtin._datetime.dtCInt
  refine wpAny_bind (m := asIndex (.int y t)) (wpAny_pure ?_)
  have c1 : ¬ ((decide (y ≥ 2 ^ 63) || decide (y < -(2 ^ 63 : Int))) = true) := by simp; omega
  have c2 : ¬ (y ≥ 2 ^ 31) := by omega
  have c3 : ¬ (y < -(2 ^ 31 : Int)) := by omega
  simp only [c1, c2, c3, if_false]
  exact wpAny_pure hq
theorem checkDate_ok {y m d : Int} {Q : Unit → Shared → Prop} (hy : 1 ≤ y ∧ y ≤ 9999) (hm : 1 ≤ m ∧ m ≤ 12) (hd : 1 ≤ d ∧ d ≤ Builtin._datetime.daysInMonth y m) (hq : Q () s) : wpAny M A (Builtin._datetime.checkDate y m d) Q E s := by
  unfold Builtin._datetime.checkDate
  have c1 : ¬ ((decide (y < 1) || decide (y > 9999)) = true) := by simp; omega
  have c2 : ¬ ((decide (m < 1) || decide (m > 12)) = true) := by simp; omega
  have c3 : ¬ ((decide (d < 1) || decide (d > Builtin._datetime.daysInMonth y m)) = true) := by simp; omega
  simp only [c1, c2, c3, if_false]
  exact wpAny_pure hq
end
theorem date_new (y m d : Int) (t u v : Tok) (hy : 1 ≤ y ∧ y ≤ 9999) (hm : 1 ≤ m ∧ m ≤ 12) (hd : 1 ≤ d ∧ d ≤ 31) (hd2 : d ≤ Builtin._datetime.daysInMonth y m) :
    Meets (Builtin.«datetime.date.__new__» ⟨[.type "datetime.date", .int y t, .int m u, .int d v], []⟩) (fun _ R s => R (.ok (.ret (Value.ref s.heap.objs.size))) { s with heap := s.heap.push (dateObj y m d) }) :=
  .of_wp fun prog w A R s h => by
    obtain ⟨hp, g, dr, tk, os⟩ := s
    have h1 := sub_date_date
    have h2 := sub_date_dt
    repeat (first | (with_reducible refine dtCInt_ok (by omega) ?_) | (with_reducible refine checkDate_ok hy hm ⟨hd.1, hd2⟩ ?_) | wp_step)
    exact ⟨_, rfl, h⟩
theorem instDate {s : Shared} {a : Addr} {o : Obj} (h : s.heap.get? a = some o) (hc : o.cls = .type "datetime.date") : s.TypeIs (.ref a) "datetime.date" := ⟨o, h, hc⟩
theorem date_iso (a : Addr) (y m d : Int) (Y W D : Int) (hi : Builtin._datetime.isoCalendarOf y m d = (Y, W, D)) :
    Meets (Builtin.«datetime.date.isocalendar» ⟨[.ref a], []⟩) (fun _ R s => s.heap.get? a = some (dateObj y m d) ∧ R (.ok (.ret (Value.ref s.heap.objs.size))) { s with heap := s.heap.push (isoObj #[.int Y s.toks, .int W (s.toks + 1), .int D (s.toks + 1 + 1)]), toks := s.toks + 1 + 1 + 1 }) :=
  .of_wp fun prog w A R s h => by
    obtain ⟨hp, g, dr, tk, os⟩ := s
    obtain ⟨ho, h⟩ := h
    have h1 := sub_date_date
    have hT := instDate (s := ⟨hp, g, dr, tk, os⟩) ho rfl
    repeat (first | wp_step)
    rw [hi]
    exact ⟨_, rfl, h⟩

section
variable {prog : Program} {w : World} {A : Around} {E : Value → Shared → Prop} {s : Shared} {h₀ : Heap} {L : Addr} {mm : Str → Option Value} {news : List (Addr × Obj)} {Q : Value → Shared → Prop}
theorem r_date {y m d : Int} {t u v : Tok} (F : Fr h₀ L s.heap mm) (N : News h₀ L s.heap news) (hy : 1 ≤ y ∧ y ≤ 9999) (hm : 1 ≤ m ∧ m ≤ 12) (hd : 1 ≤ d ∧ d ≤ 31) (hd2 : d ≤ Builtin._datetime.daysInMonth y m)
    (h : ∀ q h', Fr h₀ L h' mm → News h₀ L h' ((q, dateObj y m d) :: news) → Q (.ref q) { s with heap := h' }) : wpAny (model prog w) A (call (.type "datetime.date") [.int y t, .int m u, .int d v]) Q E s :=
  callType_new called_date (by decide +kernel) (typeCall_date _ _ _) (newCall_date _ _ _) (fun o => initArgs_date o _ _ _) entry_date_new (date_new y m d t u v hy hm hd hd2)
    (show Shared.TypeIs _ _ _ ∧ Q _ _ from ⟨instDate (Heap.get?_push_size _ rfl) rfl, h _ _ (F.push _) (N.push F _)⟩)
theorem r_dateMeth {y m d : Int} {a : Addr} {pl : Sem Bool} {Q : Value × List Value → Shared → Prop} (N : News h₀ L s.heap news) (hm : (a, dateObj y m d) ∈ news) (h : Q (.builtin "datetime.date.isocalendar", [.ref a]) s) : wpAny (model prog w) A (getMethod (.ref a) (Str.ofString "isocalendar") pl) Q E s :=
  getMethod_builtin (instDate (N.get hm) rfl) plainAttrs_date slot_date_iso type_date_iso (fun b e => by cases e; exact ⟨_, N.get hm, rfl⟩) h
theorem r_iso {y m d Y W D : Int} {a : Addr} (F : Fr h₀ L s.heap mm) (N : News h₀ L s.heap news) (hm : (a, dateObj y m d) ∈ news) (hi : Builtin._datetime.isoCalendarOf y m d = (Y, W, D))
    (h : ∀ q t1 t2 t3 h' tk', Fr h₀ L h' mm → News h₀ L h' ((q, isoObj #[.int Y t1, .int W t2, .int D t3]) :: news) → Q (.ref q) { s with heap := h', toks := tk' }) : wpAny (model prog w) A (call (.builtin "datetime.date.isocalendar") [.ref a]) Q E s :=
  call_meets slot_date_iso (instDate (N.get hm) rfl) entry_date_iso (args_date_iso _) (date_iso a y m d Y W D hi) ⟨N.get hm, h _ _ _ _ _ _ (F.push _) (N.push F _)⟩
theorem instIso {a : Addr} {o : Obj} (h : s.heap.get? a = some o) (hc : o.cls = .type "datetime.IsoCalendarDate") : s.TypeIs (.ref a) "datetime.IsoCalendarDate" := ⟨o, h, hc⟩
theorem args_getitem (a b : Value) : argsOk "tuple.__getitem__" ⟨[a, b], []⟩ := args_tuple_getitem a b
theorem getItem_iso {a : Addr} {vs : Array Value} {k : Int} {u : Tok} {j : Nat} {x : Value} (N : News h₀ L s.heap news) (hm : (a, isoObj vs) ∈ news) (hlo : -(2 ^ 63) ≤ k) (hhi : k < 2 ^ 63) (hj : seqIndex? k vs.size = some j) (hx : vs[j]? = some x) (h : Q x s) :
    wpAny (model prog w) A (getItem (.ref a) (.int k u)) Q E s := by
  have ho := N.get hm
  have hT : s.TypeIs (.ref a) "datetime.IsoCalendarDate" := instIso ho rfl
  unfold getItem
  try with_reducible refine wpAny_holding ?_
  first | refine wpAny_bind (wpAny_pure ?_) | skip
  refine wpAny_bind (wpAny_sequenceKey hT (by decide) ?_)
  refine wpAny_bind (wpAny_callSpecial?_slot (name := Str.ofString "__getitem__") hT slot_iso_getitem
    (wpAny_call_entry slot_iso_getitem hT F.entry_tuple_getitem ?_ (args_tuple_getitem _ _)))
  show wpAny _ _ (Builtin.Tuple.tupleItemsOf (.ref a) >>= _) _ _ s
  refine wpAny_bind (m := Builtin.Tuple.tupleItemsOf (.ref a)) ?_
  unfold Builtin.Tuple.tupleItemsOf
  refine wpAny_bind (wpAny_seqItems ho rfl (wpAny_pure ?_))
  refine wpAny_bind (wpAny_typeOf (typeIs_int s k u) ?_)
  rw [if_neg (by decide)]
  refine wpAny_bind (wpAny_specialOf (T := "int") (typeIs_int s k u) int_index ?_)
  rw [if_neg (by simp)]
  refine wpAny_bind (wpAny_of_eq (a := k) rfl ?_)
  rw [if_neg (by simp only [Bool.or_eq_true, decide_eq_true_eq]; omega)]
  simp only [hj, Option.bind_some, hx]
  exact wpAny_pure ⟨_, rfl, wpAny_pure h⟩
theorem item_iso {value slice : Expr} {a : Addr} {vs : Array Value} {k : Int} {u : Tok} {j : Nat} {x : Value} (N : News h₀ L s.heap news) (hm : (a, isoObj vs) ∈ news) (hlo : -(2 ^ 63) ≤ k) (hhi : k < 2 ^ 63) (hj : seqIndex? k vs.size = some j) (hx : vs[j]? = some x) (h : Q x s)
    (hs : subscripted slice false (.ref a) (.int k u) = operate [.ref a, .int k u] (getItem (.ref a) (.int k u)) := by with_unfolding_all rfl) :
    wpAny (model prog w) A (subscriptTail value slice (.ref a) (.int k u)) Q E s :=
  tail_any (instIso (N.get hm) rfl) slot_iso_getitem.lookup (getItem_iso N hm hlo hhi hj hx h) hs
theorem eqBool_int {x : Int} {t u : Tok} {Q : Bool → Shared → Prop} (h : Q true s) : wpAny (model prog w) A (eqBool (.int x t) (.int x u)) Q E s := by
  exact wpAny_eqBool_int (by rw [beq_self_eq_true]; exact h)
/-- the same three numbers: no difference -/
theorem iso_ne {a b : Addr} {x1 x2 x3 y1 y2 y3 : Int} {t1 t2 t3 u1 u2 u3 : Tok} (h1 : x1 = y1) (h2 : x2 = y2) (h3 : x3 = y3) :
    Meets (Builtin.«tuple.__ne__» ⟨[.ref a, .ref b], []⟩) (fun _ R s => s.heap.get? a = some (isoObj #[.int x1 t1, .int x2 t2, .int x3 t3]) ∧ s.heap.get? b = some ({ cls := .type "tuple", data := .seq #[.int y1 u1, .int y2 u2, .int y3 u3] } : Obj) ∧ R (.ok (.ret (.bool false))) s) :=
  .of_wp fun prog w A R s h => by
    obtain ⟨hp, g, dr, tk, os⟩ := s
    obtain ⟨ho, ho2, h⟩ := h
    subst h1 h2 h3
    have hT := instIso (s := ⟨hp, g, dr, tk, os⟩) ho rfl
    have hT2 : Shared.TypeIs ⟨hp, g, dr, tk, os⟩ (.ref b) "tuple" := ⟨_, ho2, rfl⟩
    have hs : isSubtype (.type "tuple") (.type "tuple") = pure true := by rw [isSubtype_type]; kernel_rfl
    repeat (first | (with_reducible refine eqBool_int ?_) | wp_step)
    exact ⟨_, rfl, h⟩
end
end Mine
end part_Dt

section part_Dt2
open PySem PySem.W PyProof.Rows PySem.Calls
set_option Elab.async false
set_option maxRecDepth 100000
set_option maxHeartbeats 4000000
namespace Mine
open PySem.F
theorem sub_tuple_iso : isSubtype (.type "tuple") (.type "datetime.IsoCalendarDate") = pure false := by rw [isSubtype_type]; kernel_rfl
section
variable {prog : Program} {w : World} {A : Around} {E : Value → Shared → Prop} {s : Shared} {h₀ : Heap} {L : Addr} {mm : Str → Option Value} {news : List (Addr × Obj)} {Q : Value → Shared → Prop}
theorem tryCompare_no {self other : Value} {T : String} {name : Str} {id : String} {Q : Option Value → Shared → Prop} (hT : s.TypeIs self T) (h : Slot T name id)
    (hc : wpAny (model prog w) A (call (.builtin id) [self, other]) (fun v s' => v = .bool false ∧ Q (some (.bool false)) s') E s) : wpAny (model prog w) A (tryCompare self name other) Q E s := by
  simp only [tryCompare]
  refine wpAny_bind (wpAny_callSpecialIfBound?_slot hT h (wpAny_mono hc (fun v s' h' => ?_) fun _ _ h' => h'))
  obtain ⟨rfl, hq⟩ := h'
  exact wpAny_pure hq
theorem args_ne (a b : Value) : argsOk "tuple.__ne__" ⟨[a, b], []⟩ := F.args_tuple_ne_2 a b
theorem r_ne_it {a b : Addr} {x1 x2 x3 y1 y2 y3 : Int} {t1 t2 t3 u1 u2 u3 : Tok} (N : News h₀ L s.heap news) (hma : (a, isoObj #[.int x1 t1, .int x2 t2, .int x3 t3]) ∈ news) (hmb : (b, tupOf [.int y1 u1, .int y2 u2, .int y3 u3]) ∈ news)
    (hu : A.units < cLine) (h1 : x1 = y1) (h2 : x2 = y2) (h3 : x3 = y3) (h : Q (.bool false) s) : wpAny (model prog w) A (compareOp .NotEq (.ref a) (.ref b)) Q E s := by
  refine cmp_ofNotEq ?_
  have ha : s.TypeIs (.ref a) "datetime.IsoCalendarDate" := instIso (N.get hma) rfl
  have hb : s.TypeIs (.ref b) "tuple" := ⟨_, N.get hmb, rfl⟩
  unfold richCompare
  refine wpAny_holding (wpAny_bind (wpAny_cRoomFor hu ?_))
  show wpAny (model prog w) A (typeOf (.ref a) >>= _) Q E s
  refine wpAny_bind (wpAny_typeOf ha (wpAny_bind (wpAny_typeOf hb ?_)))
  rw [if_pos (show (Value.type "datetime.IsoCalendarDate" != Value.type "tuple") = true from by decide)]
  refine wpAny_bind (wpAny_of_eq sub_tuple_iso ?_)
  dsimp only
  rw [if_neg Bool.false_ne_true]
  refine wpAny_bind (tryCompare_no ha slot_iso_ne (call_meets slot_iso_ne ha F.entry_tuple_ne (args_ne _ _) (iso_ne h1 h2 h3) ⟨N.get hma, N.get hmb, rfl, ?_⟩))
  exact wpAny_pure h
theorem r_ne_ti {a b : Addr} {x1 x2 x3 y1 y2 y3 : Int} {t1 t2 t3 u1 u2 u3 : Tok} (N : News h₀ L s.heap news) (hma : (a, isoObj #[.int x1 t1, .int x2 t2, .int x3 t3]) ∈ news) (hmb : (b, tupOf [.int y1 u1, .int y2 u2, .int y3 u3]) ∈ news)
    (hu : A.units < cLine) (h1 : x1 = y1) (h2 : x2 = y2) (h3 : x3 = y3) (h : Q (.bool false) s) : wpAny (model prog w) A (compareOp .NotEq (.ref b) (.ref a)) Q E s := by
  refine cmp_ofNotEq ?_
  have ha : s.TypeIs (.ref a) "datetime.IsoCalendarDate" := instIso (N.get hma) rfl
  have hb : s.TypeIs (.ref b) "tuple" := ⟨_, N.get hmb, rfl⟩
  unfold richCompare
  refine wpAny_holding (wpAny_bind (wpAny_cRoomFor hu ?_))
  show wpAny (model prog w) A (typeOf (.ref b) >>= _) Q E s
  refine wpAny_bind (wpAny_typeOf hb (wpAny_bind (wpAny_typeOf ha ?_)))
  rw [if_pos (show (Value.type "tuple" != Value.type "datetime.IsoCalendarDate") = true from by decide)]
  refine wpAny_bind (wpAny_of_eq sub_iso_tuple ?_)
  dsimp only
  rw [if_pos rfl]
  refine wpAny_bind (tryCompare_no ha slot_iso_ne (call_meets slot_iso_ne ha F.entry_tuple_ne (args_ne _ _) (iso_ne h1 h2 h3) ⟨N.get hma, N.get hmb, rfl, ?_⟩))
  exact wpAny_bind (wpAny_rule (wpAny_pure h))
end
end Mine
namespace Mine
section
variable {prog : Program} {w : World} {A : Around} {E : Value → Shared → Prop} {s : Shared} {h₀ : Heap} {L : Addr} {mm : Str → Option Value} {news : List (Addr × Obj)} {Q : Value → Shared → Prop}
theorem item_iso0 {value slice : Expr} {a : Addr} {v0 v1 v2 : Value} {u : Tok} (N : News h₀ L s.heap news) (hm : (a, isoObj #[v0, v1, v2]) ∈ news) (h : Q v0 s)
    (hs : subscripted slice false (.ref a) (.int 0 u) = operate [.ref a, .int 0 u] (getItem (.ref a) (.int 0 u)) := by with_unfolding_all rfl) :
    wpAny (model prog w) A (subscriptTail value slice (.ref a) (.int 0 u)) Q E s := item_iso (j := 0) N hm (by decide) (by decide) rfl rfl h hs
theorem item_iso1 {value slice : Expr} {a : Addr} {v0 v1 v2 : Value} {u : Tok} (N : News h₀ L s.heap news) (hm : (a, isoObj #[v0, v1, v2]) ∈ news) (h : Q v1 s)
    (hs : subscripted slice false (.ref a) (.int 1 u) = operate [.ref a, .int 1 u] (getItem (.ref a) (.int 1 u)) := by with_unfolding_all rfl) :
    wpAny (model prog w) A (subscriptTail value slice (.ref a) (.int 1 u)) Q E s := item_iso (j := 1) N hm (by decide) (by decide) rfl rfl h hs
theorem item_iso2 {value slice : Expr} {a : Addr} {v0 v1 v2 : Value} {u : Tok} (N : News h₀ L s.heap news) (hm : (a, isoObj #[v0, v1, v2]) ∈ news) (h : Q v2 s)
    (hs : subscripted slice false (.ref a) (.int 2 u) = operate [.ref a, .int 2 u] (getItem (.ref a) (.int 2 u)) := by with_unfolding_all rfl) :
    wpAny (model prog w) A (subscriptTail value slice (.ref a) (.int 2 u)) Q E s := item_iso (j := 2) N hm (by decide) (by decide) rfl rfl h hs
end
end Mine
end part_Dt2

section part_Cal2
set_option linter.unusedVariables false
namespace Mine
open PySem PySem.Builtin._datetime PySem.Builtin.Time
theorem timeIsLeap_eq (y : Int) : timeIsLeap y = leap y := by
  rw [Bool.eq_iff_iff, leap_t]
  unfold timeIsLeap
  simp
theorem daysInMonth_eq {y m : Int} (h1 : 1 ≤ m) (h2 : m ≤ 12) : daysInMonth y m = dim y m := by
  unfold daysInMonth dim
  rw [timeIsLeap_eq]
  obtain h | h | h | h | h | h | h | h | h | h | h | h : m = 1 ∨ m = 2 ∨ m = 3 ∨ m = 4 ∨ m = 5 ∨ m = 6 ∨ m = 7 ∨ m = 8 ∨ m = 9 ∨ m = 10 ∨ m = 11 ∨ m = 12 := by omega
  all_goals (subst h; cases leap y <;> rfl)
theorem toOrdinal_eq {y m d : Int} (h1 : 1 ≤ m) (h2 : m ≤ 12) : 2 * toOrdinal y m d + 3442849 = jd2 y m d := by
  rw [jd2_of, jd2_jan]
  unfold toOrdinal
  rw [timeIsLeap_eq]
  have e : timeDaysBefore (leap y) m = (367 * m - 362) / 12 + adj y m := by
    obtain h | h | h | h | h | h | h | h | h | h | h | h : m = 1 ∨ m = 2 ∨ m = 3 ∨ m = 4 ∨ m = 5 ∨ m = 6 ∨ m = 7 ∨ m = 8 ∨ m = 9 ∨ m = 10 ∨ m = 11 ∨ m = 12 := by omega
    all_goals (subst h; unfold adj; cases leap y <;> rfl)
  rw [e]
  simp only
  omega
/-- ordinal of the Monday of week 1 -/
def imon (y : Int) : Int := if (jan y + 6) % 7 > 3 then jan y - (jan y + 6) % 7 + 7 else jan y - (jan y + 6) % 7
theorem isoWeek1Monday_eq (y : Int) : isoWeek1Monday y = imon y := by
  have h := toOrdinal_eq (y := y) (m := 1) (d := 1) (by decide) (by decide)
  rw [jd2_is] at h
  have e : toOrdinal y 1 1 = jan y := by omega
  unfold isoWeek1Monday weekdayOf imon
  simp only [e]
theorem wpy_cases (y : Int) : (wpy y = 53 ∧ ((jan y + 6) % 7 = 3 ∨ ((jan y + 6) % 7 = 2 ∧ lp y = 1))) ∨ (wpy y = 52 ∧ ¬ ((jan y + 6) % 7 = 3 ∨ ((jan y + 6) % 7 = 2 ∧ lp y = 1))) := by
  have e : leap y = true ↔ lp y = 1 := by
    unfold lp
    by_cases h : leap y = true
    · simp [h]
    · simp [h]
  have e2 : ((jan y + 6) % 7 = 3 ∨ ((jan y + 6) % 7 = 2 ∧ leap y = true)) ↔ ((jan y + 6) % 7 = 3 ∨ ((jan y + 6) % 7 = 2 ∧ lp y = 1)) := by rw [e]
  unfold wpy
  split
  · rename_i h; exact .inl ⟨rfl, e2.mp h⟩
  · rename_i h; exact .inr ⟨rfl, fun q => h (e2.mpr q)⟩
theorem imon_cases (y : Int) : ((jan y + 6) % 7 > 3 ∧ imon y = jan y - (jan y + 6) % 7 + 7) ∨ ((jan y + 6) % 7 ≤ 3 ∧ imon y = jan y - (jan y + 6) % 7) := by
  unfold imon
  split
  · rename_i h; exact .inl ⟨h, rfl⟩
  · rename_i h; exact .inr ⟨by omega, rfl⟩
theorem imon_next (y : Int) : imon (y + 1) = imon y + 7 * wpy y := by
  have h1 := imon_cases y
  have h2 := imon_cases (y + 1)
  have h3 := wpy_cases y
  have h4 := jan_next y
  have h5 := lp_01 y
  rw [h4] at h2
  generalize jan y = J at *
  generalize lp y = l at *
  generalize wpy y = w at *
  generalize imon (y + 1) = a at *
  generalize imon y = b at *
  omega
theorem imon_bd (y : Int) : jan y - 3 ≤ imon y ∧ imon y ≤ jan y + 3 := by have := imon_cases y; omega
theorem wpy_bd (y : Int) : 52 ≤ wpy y ∧ wpy y ≤ 53 := by have := wpy_cases y; omega
def IsoDate (x Y W D : Int) : Prop := 1600 ≤ Y ∧ Y ≤ 10000 ∧ x = 2 * (imon Y + 7 * (W - 1) + D - 1) + 3442849 ∧ 1 ≤ D ∧ D ≤ 7 ∧ 1 ≤ W ∧ 7 * (W - 1) + D ≤ 7 * wpy Y
theorem iso_is {x y m d : Int} (h : GregDate x y m d) : ∃ Y W D, isoCalendarOf y m d = (Y, W, D) ∧ IsoDate x Y W D := by
  have hj := h.jan
  unfold GregDate at h
  obtain ⟨g1, g2, g3, g4, g5, g6, g7⟩ := h
  have ho := toOrdinal_eq (y := y) (m := m) (d := d) g3 g4
  rw [← g7] at ho
  rw [jd2_is] at hj
  have p1 := imon_bd y
  have p2 := imon_bd (y + 1)
  have p3 := imon_bd (y - 1)
  have p4 := jan_next y
  have p5 := jan_next (y - 1)
  have p6 := imon_next y
  have p7 := imon_next (y - 1)
  have p8 := lp_01 y
  have p9 := lp_01 (y - 1)
  have p10 := wpy_bd y
  have p11 := wpy_bd (y - 1)
  have p12 := wpy_bd (y + 1)
  rw [show y - 1 + 1 = y by omega] at p5 p7
  clear g5 g6 g7
  unfold isoCalendarOf
  simp only [isoWeek1Monday_eq, Int.fdiv_eq_ediv_of_nonneg _ (show (0 : Int) ≤ 7 by decide), Int.fmod_eq_emod_of_nonneg _ (show (0 : Int) ≤ 7 by decide)]
  generalize toOrdinal y m d = N at *
  generalize jan (y + 1) = J1 at *
  generalize jan (y - 1) = J0 at *
  generalize jan y = J at *
  split
  · rename_i hw
    refine ⟨_, _, _, rfl, ?_⟩
    unfold IsoDate
    clear p2 p4 p6 p10 p12
    generalize imon (y - 1) = a at *
    generalize imon y = b at *
    generalize wpy (y - 1) = c at *
    refine ⟨by omega, by omega, by omega, by omega, by omega, by omega, by omega⟩
  · rename_i hw
    split
    · rename_i hw2
      refine ⟨_, _, _, rfl, ?_⟩
      simp only [ge_iff_le, Bool.and_eq_true, decide_eq_true_eq] at hw2
      unfold IsoDate
      clear p3 p5 p7 p11 p9
      generalize imon (y + 1) = a at *
      generalize imon y = b at *
      generalize wpy (y + 1) = c at *
      generalize wpy y = e at *
      refine ⟨by omega, by omega, by omega, by omega, by omega, by omega, by omega⟩
    · rename_i hw2
      refine ⟨_, _, _, rfl, ?_⟩
      simp only [ge_iff_le, Bool.and_eq_true, decide_eq_true_eq] at hw2
      unfold IsoDate
      clear p3 p5 p7 p11 p9 p12
      generalize imon (y + 1) = a at *
      generalize imon y = b at *
      generalize wpy y = e at *
      refine ⟨by omega, by omega, by omega, by omega, by omega, by omega, by omega⟩
end Mine
end part_Cal2

section part_Wk3
open PySem PySem.W PyProof.Rows PySem.Calls
set_option Elab.async false
namespace Mine
set_option maxRecDepth 100000
set_option maxHeartbeats 8000000
local macro_rules | `(tactic| walk_at "my lit") => `(tactic| first | exact rfl | exact lit_half | exact lit_greg | exact lit_maya | exact lit_posi)
local macro_rules | `(tactic| walk_at "my bd") => `(tactic| (f_lean; first | (unfold Bd; omega) | omega))
local macro_rules | `(tactic| walk_at "binaryOp Add float float") => `(tactic| (refine' r_add_ff ?k1 ?k2 ?k3 ?k4 ?_; (case k1 => k_dflt (walk_at "my lit")); (case k2 => k_dflt (walk_at "my lit")); (case k3 => k_dflt (walk_at "my bd")); (case k4 => k_dflt (walk_at "my bd")); (try dsimp only)))
local macro_rules | `(tactic| walk_at "binaryOp Sub float float") => `(tactic| (refine' r_sub_ff ?k1 ?k2 ?k3 ?k4 ?k5 ?_; (case k1 => k_dflt (walk_at "my lit")); (case k2 => k_dflt (walk_at "my lit")); (case k3 => k_dflt (walk_at "my bd")); (case k4 => k_dflt (walk_at "my bd")); (case k5 => k_dflt (walk_at "my bd")); (try dsimp only)))
local macro_rules | `(tactic| walk_at "binaryOp Add float int") => `(tactic| (refine' r_add_qi ?k3 ?_; (case k3 => k_dflt (walk_at "my bd")); (try dsimp only)))
local macro_rules | `(tactic| walk_at "binaryOp Add float int") => `(tactic| (refine' r_add_fi ?k1 ?k2 ?k3 ?_; (case k1 => k_dflt (walk_at "my lit")); (case k2 => k_dflt (walk_at "my bd")); (case k3 => k_dflt (walk_at "my bd")); (try dsimp only)))
local macro_rules | `(tactic| walk_at "inplaceOp Add float int") => `(tactic| (refine' r_iadd_fi ?k1 ?k2 ?k3 ?_; (case k1 => k_dflt (walk_at "my lit")); (case k2 => k_dflt (walk_at "my bd")); (case k3 => k_dflt (walk_at "my bd")); (try dsimp only)))
local macro_rules | `(tactic| walk_at "binaryOp Add int float") => `(tactic| (refine' r_add_if ?k1 ?k2 ?k3 ?_; (case k1 => k_dflt (walk_at "my lit")); (case k2 => k_dflt (walk_at "my bd")); (case k3 => k_dflt (walk_at "my bd")); (try dsimp only)))
local macro_rules | `(tactic| walk_at "binaryOp Sub float int") => `(tactic| (refine' r_sub_fi ?k1 ?k2 ?k3 ?k4 ?_; (case k1 => k_dflt (walk_at "my lit")); (case k2 => k_dflt (walk_at "my bd")); (case k3 => k_dflt (walk_at "my bd")); (case k4 => k_dflt (walk_at "my bd")); (try dsimp only)))
local macro_rules | `(tactic| walk_at "inplaceOp Sub float int") => `(tactic| (refine' r_isub_fi ?k1 ?k2 ?k3 ?k4 ?_; (case k1 => k_dflt (walk_at "my lit")); (case k2 => k_dflt (walk_at "my bd")); (case k3 => k_dflt (walk_at "my bd")); (case k4 => k_dflt (walk_at "my bd")); (try dsimp only)))
local macro_rules | `(tactic| walk_at "binaryOp Mult float int") => `(tactic| (refine' r_mul_fi ?k1 ?k2 ?k3 ?k4 ?k5 ?_; (case k1 => k_dflt (walk_at "my lit")); (case k2 => k_dflt (walk_at "my bd")); (case k3 => k_dflt (walk_at "my bd")); (case k4 => k_dflt (walk_at "my bd")); (case k5 => k_dflt (walk_at "my bd")); (try dsimp only)))
local macro_rules | `(tactic| walk_at "binaryOp Div float int") => `(tactic| (refine' r_div_fi ?k1 ?k2 ?k3 ?_; (case k1 => k_dflt (walk_at "my lit")); (case k2 => k_dflt (walk_at "my bd")); (case k3 => k_dflt (walk_at "my bd")); (try dsimp only)))
local macro_rules | `(tactic| walk_at "binaryOp Div int int") => `(tactic| (refine' r_div_ii rfl ?k2 ?k3 ?_; (case k2 => k_dflt (walk_at "my bd")); (case k3 => k_dflt (walk_at "my bd")); (try dsimp only)))
local macro_rules | `(tactic| walk_at "binaryOp Mod float int") => `(tactic| (refine' r_mod_fi ?k1 ?k2 ?k3 ?k4 ?k5 ?_; (case k1 => k_dflt (walk_at "my lit")); (case k2 => k_dflt (walk_at "my bd")); (case k3 => k_dflt (walk_at "my bd")); (case k4 => k_dflt (walk_at "my bd")); (case k5 => k_dflt (walk_at "my bd")); (try dsimp only)))
local macro_rules | `(tactic| walk_at "binaryOp Mod int int") => `(tactic| (refine' r_mod_ii ?k2 ?_; (case k2 => k_dflt (walk_at "my bd")); (try dsimp only)))
local macro_rules | `(tactic| walk_at "binaryOp FloorDiv int int") => `(tactic| (refine' r_div_fd ?k2 ?k3 ?_; (case k2 => k_dflt (walk_at "my bd")); (case k3 => k_dflt (walk_at "my bd")); (try dsimp only)))
local macro_rules | `(tactic| walk_at "compareOp GtE float float") => `(tactic| (refine' r_ge_ff ?k1 ?k2 ?k3 ?k4 ?_; (case k1 => k_dflt (walk_at "my lit")); (case k2 => k_dflt (walk_at "my lit")); (case k3 => k_dflt (walk_at "my bd")); (case k4 => k_dflt (walk_at "my bd")); (try dsimp only)))
local macro_rules | `(tactic| walk_at "compareOp Lt float int") => `(tactic| (refine' r_lt_fi ?k1 ?k2 ?_; (case k1 => k_dflt (walk_at "my lit")); (case k2 => k_dflt (walk_at "my bd")); (try dsimp only)))
local macro_rules | `(tactic| walk_at "my floor") => `(tactic| (refine' q_floor_mq ?m1 ?m2 ?m3 ?m4 ?m5 ?m6 <;> walk_at "my bd"))
local macro_rules | `(tactic| walk_at "my floor") => `(tactic| (refine' q_floor_iq ?m1 ?m2 ?m3 ?m4 <;> walk_at "my bd"))
local macro_rules | `(tactic| walk_at "my floor") => `(tactic| (refine' q_floor_dq ?m1 ?m2 ?m3 ?m4 <;> walk_at "my bd"))
local macro_rules | `(tactic| walk_at "my floor") => `(tactic| (refine' q_floor_fl ?m1 ?m2 <;> walk_at "my bd"))
local macro_rules | `(tactic| walk_at "my trunc") => `(tactic| (refine' q_trunc_dq ?m1 ?m2 ?m3 ?m4 <;> walk_at "my bd"))
local macro_rules | `(tactic| walk_at "my trunc") => `(tactic| (refine' q_trunc_fl ?m1 ?m2 <;> walk_at "my bd"))
local macro_rules | `(tactic| walk_at "call builtin:math.floor") => `(tactic| ((with_reducible show wpAny _ _ (call _ [Value.float _ _]) _ _ _); (refine' r_floor_of rfl ?k1 ?_; (case k1 => k_dflt (walk_at "my floor")); (try dsimp only))))
local macro_rules | `(tactic| walk_at "call builtin:math.trunc") => `(tactic| ((with_reducible show wpAny _ _ (call _ [Value.float _ _]) _ _ _); (refine' r_trunc_of rfl ?k1 ?_; (case k1 => k_dflt (walk_at "my trunc")); (try dsimp only))))
local macro_rules | `(tactic| walk_at "call type:int") => `(tactic| ((with_reducible show wpAny _ _ (call _ [Value.float _ _]) _ _ _); (refine' r_int_of rfl ?k1 ?_; (case k1 => k_dflt (walk_at "my trunc")); (try dsimp only))))
local macro_rules | `(tactic| walk_at "my asks") => `(tactic| ((case k1 => k_asm); (case k2 => k_asm); (case k3 => k_asm); (case k4 => k_asm); (case k5 => k_asm); (case k6 => first | exact rfl | assumption); (case k7 => ktr_room); (case k8 => ktr_units)))
local macro_rules | `(tactic| walk_at "eval Name") => `(tactic| (k_here; name_kind "globalImplicit"; k_dflt (first | (refine' nameX_K ?F ?X ?T ?e ?_ ?a ?b; (case F => k_asm); (case X => k_asm); (case T => k_asm); (case a => rfl); (case b => rfl); (case e => k_is); k_whole) | (refine' nameX_B ?F ?X ?T ?e ?v ?n ?_ ?a ?b; (case F => k_asm); (case X => k_asm); (case T => k_asm); (case a => rfl); (case b => rfl); (case e => k_is); (case v => boot_fast); (case n => decide); k_whole))))
local macro_rules | `(tactic| walk_at "eval Name") => `(tactic| (k_here; name_kind "local"; k_dflt (refine' nameX_L ?F ?v ?_ ?a ?b; (case F => k_asm); (case a => rfl); (case b => rfl); (case v => rfl); k_whole)))
local macro_rules | `(tactic| walk_at "binaryOp Mod float int") => `(tactic| (refine' r_mod_fk ?k1 ?k2 ?k3 ?k4 ?k5 ?k6 ?k7 ?_; (case k1 => k_dflt (walk_at "my lit")); (case k6 => k_dflt (with_reducible assumption)); (case k7 => k_dflt (with_reducible assumption)); (case k2 => k_dflt (walk_at "my bd")); (case k3 => k_dflt (walk_at "my bd")); (case k4 => k_dflt (walk_at "my bd")); (case k5 => k_dflt (walk_at "my bd")); (try dsimp only)))
local macro_rules | `(tactic| walk_at "call builtin:math.floor") => `(tactic| ((with_reducible show wpAny _ _ (call _ [Value.float (dq _ _) _]) _ _ _); (refine' r_floor_dqF rfl ?k2 ?k3 ?k4 ?k5 ?_; (case k2 => k_dflt (walk_at "my bd")); (case k3 => k_dflt (walk_at "my bd")); (case k4 => k_dflt (walk_at "my bd")); (case k5 => k_dflt (walk_at "my bd")); intro kf hkf1 hkf2; (try dsimp only))))
local macro_rules | `(tactic| walk_at "binaryOp Add int float") => `(tactic| (k_dflt (refine' r_wjd ?k1 ?_; (case k1 => with_reducible assumption); (try dsimp only))))
local macro_rules | `(tactic| walk_at "call ref") => `(tactic| (k_dflt (refine' ClAt.use (c_isleap _ _ _) ?k1 ?k2 ?k3 ?k4 ?k5 ?k6 ?k7 ?k8 trivial ?_); walk_at "my asks"; intro t9 h9 tk9 F9 N9; (try dsimp only); (try k_sweep); (try k_fold)))
local macro_rules | `(tactic| walk_at "my pre") => `(tactic| first | omega | exact month_pre (by with_reducible assumption) (by with_reducible assumption) (by with_reducible assumption) (by with_reducible assumption) (by with_reducible assumption) (by with_reducible assumption))
local macro_rules | `(tactic| walk_at "call ref") => `(tactic| (k_dflt (refine' ClAt.use (c_to_jdZ _ _ _ _ _ _) ?k1 ?k2 ?k3 ?k4 ?k5 ?k6 ?k7 ?k8 ?k9 ?_); (case k9 => walk_at "my pre"); walk_at "my asks"; intro z9 t9 h9 tk9 hz9 hz9a hz9b F9 N9; (try dsimp only); (try k_sweep); (try k_fold)))
theorem c_from_jd (w : World) (x : Int) (tx : Tok) : ClAt w 6 88 [.float (fl2 x) tx] (OkDay x) (RetT3 (GregDate x)) := by
  unfold ClAt; k_fill; intro p loose mean mg mb dp un gd cn cs a ccd cl outer A₀ base h₀ L m news s Q E B F X N T hk hdp hun hpre hret; refine wpAny_call ?_; (k_dflt cell_enter)
  have hp2 := hpre
  unfold OkDay at hp2
  repeat' ((fail_if_success (with_reducible show wpAny _ _ (exec (Stmt.If (Expr.UnaryOp _ _ _) _ _ _) _) _ _ _)); first | (k_unfold; (try dsimp only)) | (k_end; wrow_close) | walk1 | (dsimp only; walk1) | (leave1; (try dsimp only)) | fail "no step")
  k_dflt (refine' cutYear hpre ?F ?N ?h1 ?h2)
  case F => k_asm
  case N => k_asm
  case h1 =>
    intro Q' hQ
    refine wpAny_If ?_
    k_steps
    all_goals (refine' hQ ?hP ?hF ?hN; (case hF => first | k_asm | exact fr_same (by k_asm) (if_pos rfl)); (case hN => k_asm); (case hP => (f_lean; first
      | exact year_A hpre (by omega) (by omega) (by omega) (by omega) (by omega) (by omega) (by omega) (by omega) (by omega) (by omega)
      | exact year_B hpre (by omega) (by omega) (by omega) (by omega) (by omega) (by omega) (by omega) (by omega) (by omega)
      | exact year_C hpre (by omega) (by omega) (by omega) (by omega) (by omega) (by omega) (by omega) (by omega) (by omega) (by omega))))
  case h2 =>
    intro Y tY hY tkY pY FY NY
    have pY2 := GregYear.bd pY
    (try dsimp only); (try k_sweep); (try k_fold)
    repeat' ((fail_if_success (with_reducible show wpAny _ _ (exec (Stmt.If (Expr.Compare _ _ _ _) _ _ _) _) _ _ _)); first | (k_unfold; (try dsimp only)) | (k_end; wrow_close) | walk1 | (dsimp only; walk1) | (leave1; (try dsimp only)) | fail "no step")
    k_dflt (refine' cutAdj pY ?F ?N ?h1 ?h2)
    case F => k_asm
    case N => k_asm
    case h1 =>
      intro Q' hQ
      refine wpAny_If ?_
      k_steps
      all_goals (refine' hQ ?hP ?hF ?hN; (case hF => first | k_asm | exact fr_same (by k_asm) (if_pos rfl)); (case hN => k_asm); (case hP => first
        | exact LeapAdj.a (by with_reducible assumption) (by with_reducible assumption)
        | exact LeapAdj.b (by with_reducible assumption) (by with_reducible assumption) (by with_reducible assumption)
        | exact LeapAdj.c (by with_reducible assumption) (by with_reducible assumption) (by with_reducible assumption)))
    case h2 =>
      intro A' tA hA tkA pA FA NA
      have pA2 := LeapAdj.bd pA
      (try dsimp only); (try k_sweep); (try k_fold)
      repeat' ((fail_if_success (with_reducible show wpAny _ _ (call (Value.type _) _ _) _ _ _)); first | (k_unfold; (try dsimp only)) | (k_end; wrow_close) | walk1 | (dsimp only; walk1) | (leave1; (try dsimp only)) | fail "no step")
      have hD := day_end hpre pY pA (by with_reducible assumption) (by with_reducible assumption) (by with_reducible assumption) (by with_reducible assumption)
      have hD1 := hD.1
      k_steps
      refine' end_t3 hret ?P ?F ?N
      case P => exact hD.2
      case F => k_asm
      case N => k_asm
end Mine
end part_Wk3

section part_Wk4
open PySem PySem.W PyProof.Rows PySem.Calls
set_option Elab.async false
namespace Mine
set_option maxRecDepth 100000
set_option maxHeartbeats 8000000
theorem c_to_jdY (w : World) (y mo d : Int) (ty tm td : Tok) : ClAt w 4 81 [.int y ty, .int mo tm, .int d td] (1 ≤ y ∧ y ≤ 10000 ∧ 1 ≤ mo ∧ mo ≤ 12 ∧ 0 < d ∧ d ≤ 31 ∧ d ≤ dim y mo) (RetZ (jd2 y mo d)) := by
  intro p loose mean mg mb dp un gd cn cs a ccd cl outer A₀ base h₀ L m news s Q E B F X N T hk hdp hun hpre hret
  have h := jd2_bd (y := y) (mo := mo) (by omega)
  have e : jd2 y mo d = jd2 y mo 1 + 2 * (d - 1) := by unfold jd2; omega
  have e2 : jd2 y mo 1 ≤ 19000000 := by
    rw [jd2_of, jd2_jan]
    have : -2 ≤ adj y mo ∧ adj y mo ≤ 0 := by unfold adj; split <;> (try split) <;> decide
    omega
  exact ClAt.use (c_to_jd w y mo d ty tm td) B F X N T hk hdp hun hpre (fun t h' tk' F' N' => hret _ t h' tk' rfl (by omega) (by omega) F' N')
local macro_rules | `(tactic| walk_at "my lit") => `(tactic| first | exact rfl | exact lit_half | exact lit_greg | exact lit_maya | exact lit_posi)
local macro_rules | `(tactic| walk_at "my bd") => `(tactic| (f_lean; first | (unfold Bd; omega) | omega))
local macro_rules | `(tactic| walk_at "binaryOp Add float float") => `(tactic| (refine' r_add_ff ?k1 ?k2 ?k3 ?k4 ?_; (case k1 => k_dflt (walk_at "my lit")); (case k2 => k_dflt (walk_at "my lit")); (case k3 => k_dflt (walk_at "my bd")); (case k4 => k_dflt (walk_at "my bd")); (try dsimp only)))
local macro_rules | `(tactic| walk_at "binaryOp Sub float float") => `(tactic| (refine' r_sub_ff ?k1 ?k2 ?k3 ?k4 ?k5 ?_; (case k1 => k_dflt (walk_at "my lit")); (case k2 => k_dflt (walk_at "my lit")); (case k3 => k_dflt (walk_at "my bd")); (case k4 => k_dflt (walk_at "my bd")); (case k5 => k_dflt (walk_at "my bd")); (try dsimp only)))
local macro_rules | `(tactic| walk_at "binaryOp Add float int") => `(tactic| (refine' r_add_qi ?k3 ?_; (case k3 => k_dflt (walk_at "my bd")); (try dsimp only)))
local macro_rules | `(tactic| walk_at "binaryOp Add float int") => `(tactic| (refine' r_add_fi ?k1 ?k2 ?k3 ?_; (case k1 => k_dflt (walk_at "my lit")); (case k2 => k_dflt (walk_at "my bd")); (case k3 => k_dflt (walk_at "my bd")); (try dsimp only)))
local macro_rules | `(tactic| walk_at "inplaceOp Add float int") => `(tactic| (refine' r_iadd_fi ?k1 ?k2 ?k3 ?_; (case k1 => k_dflt (walk_at "my lit")); (case k2 => k_dflt (walk_at "my bd")); (case k3 => k_dflt (walk_at "my bd")); (try dsimp only)))
local macro_rules | `(tactic| walk_at "binaryOp Add int float") => `(tactic| (refine' r_add_if ?k1 ?k2 ?k3 ?_; (case k1 => k_dflt (walk_at "my lit")); (case k2 => k_dflt (walk_at "my bd")); (case k3 => k_dflt (walk_at "my bd")); (try dsimp only)))
local macro_rules | `(tactic| walk_at "binaryOp Sub float int") => `(tactic| (refine' r_sub_fi ?k1 ?k2 ?k3 ?k4 ?_; (case k1 => k_dflt (walk_at "my lit")); (case k2 => k_dflt (walk_at "my bd")); (case k3 => k_dflt (walk_at "my bd")); (case k4 => k_dflt (walk_at "my bd")); (try dsimp only)))
local macro_rules | `(tactic| walk_at "inplaceOp Sub float int") => `(tactic| (refine' r_isub_fi ?k1 ?k2 ?k3 ?k4 ?_; (case k1 => k_dflt (walk_at "my lit")); (case k2 => k_dflt (walk_at "my bd")); (case k3 => k_dflt (walk_at "my bd")); (case k4 => k_dflt (walk_at "my bd")); (try dsimp only)))
local macro_rules | `(tactic| walk_at "binaryOp Mult float int") => `(tactic| (refine' r_mul_fi ?k1 ?k2 ?k3 ?k4 ?k5 ?_; (case k1 => k_dflt (walk_at "my lit")); (case k2 => k_dflt (walk_at "my bd")); (case k3 => k_dflt (walk_at "my bd")); (case k4 => k_dflt (walk_at "my bd")); (case k5 => k_dflt (walk_at "my bd")); (try dsimp only)))
local macro_rules | `(tactic| walk_at "binaryOp Div float int") => `(tactic| (refine' r_div_fi ?k1 ?k2 ?k3 ?_; (case k1 => k_dflt (walk_at "my lit")); (case k2 => k_dflt (walk_at "my bd")); (case k3 => k_dflt (walk_at "my bd")); (try dsimp only)))
local macro_rules | `(tactic| walk_at "binaryOp Div int int") => `(tactic| (refine' r_div_ii rfl ?k2 ?k3 ?_; (case k2 => k_dflt (walk_at "my bd")); (case k3 => k_dflt (walk_at "my bd")); (try dsimp only)))
local macro_rules | `(tactic| walk_at "binaryOp Mod float int") => `(tactic| (refine' r_mod_fi ?k1 ?k2 ?k3 ?k4 ?k5 ?_; (case k1 => k_dflt (walk_at "my lit")); (case k2 => k_dflt (walk_at "my bd")); (case k3 => k_dflt (walk_at "my bd")); (case k4 => k_dflt (walk_at "my bd")); (case k5 => k_dflt (walk_at "my bd")); (try dsimp only)))
local macro_rules | `(tactic| walk_at "binaryOp Mod int int") => `(tactic| (refine' r_mod_ii ?k2 ?_; (case k2 => k_dflt (walk_at "my bd")); (try dsimp only)))
local macro_rules | `(tactic| walk_at "binaryOp FloorDiv int int") => `(tactic| (refine' r_div_fd ?k2 ?k3 ?_; (case k2 => k_dflt (walk_at "my bd")); (case k3 => k_dflt (walk_at "my bd")); (try dsimp only)))
local macro_rules | `(tactic| walk_at "compareOp GtE float float") => `(tactic| (refine' r_ge_ff ?k1 ?k2 ?k3 ?k4 ?_; (case k1 => k_dflt (walk_at "my lit")); (case k2 => k_dflt (walk_at "my lit")); (case k3 => k_dflt (walk_at "my bd")); (case k4 => k_dflt (walk_at "my bd")); (try dsimp only)))
local macro_rules | `(tactic| walk_at "compareOp Lt float int") => `(tactic| (refine' r_lt_fi ?k1 ?k2 ?_; (case k1 => k_dflt (walk_at "my lit")); (case k2 => k_dflt (walk_at "my bd")); (try dsimp only)))
local macro_rules | `(tactic| walk_at "my floor") => `(tactic| (refine' q_floor_mq ?m1 ?m2 ?m3 ?m4 ?m5 ?m6 <;> walk_at "my bd"))
local macro_rules | `(tactic| walk_at "my floor") => `(tactic| (refine' q_floor_iq ?m1 ?m2 ?m3 ?m4 <;> walk_at "my bd"))
local macro_rules | `(tactic| walk_at "my floor") => `(tactic| (refine' q_floor_dq ?m1 ?m2 ?m3 ?m4 <;> walk_at "my bd"))
local macro_rules | `(tactic| walk_at "my floor") => `(tactic| (refine' q_floor_fl ?m1 ?m2 <;> walk_at "my bd"))
local macro_rules | `(tactic| walk_at "my trunc") => `(tactic| (refine' q_trunc_dq ?m1 ?m2 ?m3 ?m4 <;> walk_at "my bd"))
local macro_rules | `(tactic| walk_at "my trunc") => `(tactic| (refine' q_trunc_fl ?m1 ?m2 <;> walk_at "my bd"))
local macro_rules | `(tactic| walk_at "call builtin:math.floor") => `(tactic| ((with_reducible show wpAny _ _ (call _ [Value.float _ _]) _ _ _); (refine' r_floor_of rfl ?k1 ?_; (case k1 => k_dflt (walk_at "my floor")); (try dsimp only))))
local macro_rules | `(tactic| walk_at "call builtin:math.trunc") => `(tactic| ((with_reducible show wpAny _ _ (call _ [Value.float _ _]) _ _ _); (refine' r_trunc_of rfl ?k1 ?_; (case k1 => k_dflt (walk_at "my trunc")); (try dsimp only))))
local macro_rules | `(tactic| walk_at "call type:int") => `(tactic| ((with_reducible show wpAny _ _ (call _ [Value.float _ _]) _ _ _); (refine' r_int_of rfl ?k1 ?_; (case k1 => k_dflt (walk_at "my trunc")); (try dsimp only))))
local macro_rules | `(tactic| walk_at "my asks") => `(tactic| ((case k1 => k_asm); (case k2 => k_asm); (case k3 => k_asm); (case k4 => k_asm); (case k5 => k_asm); (case k6 => first | exact rfl | assumption); (case k7 => ktr_room); (case k8 => ktr_units)))
local macro_rules | `(tactic| walk_at "eval Name") => `(tactic| (k_here; name_kind "globalImplicit"; k_dflt (first | (refine' nameX_K ?F ?X ?T ?e ?_ ?a ?b; (case F => k_asm); (case X => k_asm); (case T => k_asm); (case a => rfl); (case b => rfl); (case e => k_is); k_whole) | (refine' nameX_B ?F ?X ?T ?e ?v ?n ?_ ?a ?b; (case F => k_asm); (case X => k_asm); (case T => k_asm); (case a => rfl); (case b => rfl); (case e => k_is); (case v => boot_fast); (case n => decide); k_whole))))
local macro_rules | `(tactic| walk_at "eval Name") => `(tactic| (k_here; name_kind "local"; k_dflt (refine' nameX_L ?F ?v ?_ ?a ?b; (case F => k_asm); (case a => rfl); (case b => rfl); (case v => rfl); k_whole)))
local macro_rules | `(tactic| walk_at "my pre") => `(tactic| first | omega | exact GregDate.bd (by with_reducible assumption) | exact pre28 (by omega))
local macro_rules | `(tactic| walk_at "call ref") => `(tactic| (k_dflt (refine' ClAt.use (c_isleap _ _ _) ?k1 ?k2 ?k3 ?k4 ?k5 ?k6 ?k7 ?k8 trivial ?_); walk_at "my asks"; intro t9 h9 tk9 F9 N9; (try dsimp only); (try k_sweep); (try k_fold)))
local macro_rules | `(tactic| walk_at "call ref") => `(tactic| (k_dflt (refine' ClAt.use (c_to_jdY _ _ _ _ _ _ _) ?k1 ?k2 ?k3 ?k4 ?k5 ?k6 ?k7 ?k8 ?k9 ?_); (case k9 => walk_at "my pre"); walk_at "my asks"; intro z9 t9 h9 tk9 hz9 hz9a hz9b F9 N9; (try dsimp only); (try k_sweep); (try k_fold)))
local macro_rules | `(tactic| walk_at "call ref") => `(tactic| (k_dflt (refine' ClAt.use (c_to_jdZ _ _ _ _ _ _) ?k1 ?k2 ?k3 ?k4 ?k5 ?k6 ?k7 ?k8 ?k9 ?_); (case k9 => walk_at "my pre"); walk_at "my asks"; intro z9 t9 h9 tk9 hz9 hz9a hz9b F9 N9; (try dsimp only); (try k_sweep); (try k_fold)))
local macro_rules | `(tactic| walk_at "call ref") => `(tactic| (k_dflt (refine' ClAt.use (c_from_jd _ _ _) ?k1 ?k2 ?k3 ?k4 ?k5 ?k6 ?k7 ?k8 ?k9 ?_); (case k9 => with_reducible assumption); walk_at "my asks"; intro y9 m9 d9 t9 t9b t9c q9 h9 tk9 hP9 F9 N9; (have hB9 := GregDate.bd hP9); (have hJ9 := GregDate.jan hP9); (try dsimp only); (try k_sweep); (try k_fold)))
theorem c_jwday (w : World) (z : Int) (tz : Tok) : ClAt w 2 59 [.float (fl2 z) tz] (0 ≤ z ∧ z ≤ 20000000) (RetV fun t => .int ((z + 1) / 2 % 7) t) := by
  unfold ClAt; k_fill; intro p loose mean mg mb dp un gd cn cs a ccd cl outer A₀ base h₀ L m news s Q E B F X N T hk hdp hun hpre hret; refine wpAny_call ?_; (k_dflt cell_enter)
  k_steps
  refine' end_i hret rfl ?f ?n (fun _ h => h)
  case f => k_asm
  case n => k_asm
local macro_rules | `(tactic| walk_at "call ref") => `(tactic| (k_dflt (refine' ClAt.use (c_jwday _ _ _) ?k1 ?k2 ?k3 ?k4 ?k5 ?k6 ?k7 ?k8 ?k9 ?_); (case k9 => omega); walk_at "my asks"; intro t9 h9 tk9 F9 N9; (try dsimp only); (try k_sweep); (try k_fold)))
theorem c_wpy (w : World) (y : Int) (ty : Tok) : ClAt w 6 102 [.int y ty] (1 ≤ y ∧ y ≤ 10000) (RetV fun t => .int (wpy y) t) := by
  unfold ClAt; k_fill; intro p loose mean mg mb dp un gd cn cs a ccd cl outer A₀ base h₀ L m news s Q E B F X N T hk hdp hun hpre hret; refine wpAny_call ?_; (k_dflt cell_enter)
  k_steps
  all_goals (refine' end_i hret ?e ?f ?n (fun _ h => h); (case f => k_asm); (case n => k_asm); (case e => first | exact wpy_1 (by with_reducible assumption) (by with_reducible assumption) | exact wpy_2 (by with_reducible assumption) (by with_reducible assumption) (by with_reducible assumption) | exact wpy_3 (by with_reducible assumption) (by with_reducible assumption) (by with_reducible assumption) | exact wpy_4 (by with_reducible assumption) (by with_reducible assumption) (by with_reducible assumption)))
theorem c_to_ord (w : World) (y d : Int) (ty td : Tok) : ClAt w 6 137 [.int y ty, .int d td] (1 ≤ y ∧ y ≤ 10000 ∧ 1 ≤ d ∧ d ≤ 1000000) (RetV fun t => .float (fl2 (jd2 y 1 1 + 2 * (d - 1))) t) := by
  unfold ClAt; k_fill; intro p loose mean mg mb dp un gd cn cs a ccd cl outer A₀ base h₀ L m news s Q E B F X N T hk hdp hun hpre hret; refine wpAny_call ?_; (k_dflt cell_enter)
  k_steps
  all_goals (refine' end_f hret ?e ?f ?n (fun _ h => h); (case f => k_asm); (case n => k_asm); (case e => (f_lean; omega)))
theorem c_from_ord (w : World) (x : Int) (tx : Tok) : ClAt w 8 144 [.float (fl2 x) tx] (OkDay x) (RetT2 (OrdDate x)) := by
  unfold ClAt; k_fill; intro p loose mean mg mb dp un gd cn cs a ccd cl outer A₀ base h₀ L m news s Q E B F X N T hk hdp hun hpre hret; refine wpAny_call ?_; (k_dflt cell_enter)
  repeat' ((fail_if_success (with_reducible show wpAny _ _ (call (Value.type _) _ _) _ _ _)); first | (k_unfold; (try dsimp only)) | (k_end; wrow_close) | walk1 | (dsimp only; walk1) | (leave1; (try dsimp only)) | fail "no step")
  have hD := GregDate.ordZ (by with_reducible assumption) (by with_reducible assumption) (by with_reducible assumption)
  have hD1 := hD.1
  k_steps
  refine' end_t2 hret hD.2 ?F ?N ?S
  case F => k_asm
  case N => k_asm
  case S => kcj_all
end Mine
end part_Wk4

section part_Wk5
open PySem PySem.W PyProof.Rows PySem.Calls
set_option Elab.async false
namespace Mine
set_option maxRecDepth 100000
set_option maxHeartbeats 8000000
local macro_rules | `(tactic| walk_at "my lit") => `(tactic| first | exact rfl | exact lit_half | exact lit_greg | exact lit_maya | exact lit_posi)
local macro_rules | `(tactic| walk_at "my bd") => `(tactic| (f_lean; first | (unfold Bd; omega) | omega))
local macro_rules | `(tactic| walk_at "binaryOp Add float float") => `(tactic| (refine' r_add_ff ?k1 ?k2 ?k3 ?k4 ?_; (case k1 => k_dflt (walk_at "my lit")); (case k2 => k_dflt (walk_at "my lit")); (case k3 => k_dflt (walk_at "my bd")); (case k4 => k_dflt (walk_at "my bd")); (try dsimp only)))
local macro_rules | `(tactic| walk_at "binaryOp Sub float float") => `(tactic| (refine' r_sub_ff ?k1 ?k2 ?k3 ?k4 ?k5 ?_; (case k1 => k_dflt (walk_at "my lit")); (case k2 => k_dflt (walk_at "my lit")); (case k3 => k_dflt (walk_at "my bd")); (case k4 => k_dflt (walk_at "my bd")); (case k5 => k_dflt (walk_at "my bd")); (try dsimp only)))
local macro_rules | `(tactic| walk_at "binaryOp Add float int") => `(tactic| (refine' r_add_qi ?k3 ?_; (case k3 => k_dflt (walk_at "my bd")); (try dsimp only)))
local macro_rules | `(tactic| walk_at "binaryOp Add float int") => `(tactic| (refine' r_add_fi ?k1 ?k2 ?k3 ?_; (case k1 => k_dflt (walk_at "my lit")); (case k2 => k_dflt (walk_at "my bd")); (case k3 => k_dflt (walk_at "my bd")); (try dsimp only)))
local macro_rules | `(tactic| walk_at "inplaceOp Add float int") => `(tactic| (refine' r_iadd_fi ?k1 ?k2 ?k3 ?_; (case k1 => k_dflt (walk_at "my lit")); (case k2 => k_dflt (walk_at "my bd")); (case k3 => k_dflt (walk_at "my bd")); (try dsimp only)))
local macro_rules | `(tactic| walk_at "binaryOp Add int float") => `(tactic| (refine' r_add_if ?k1 ?k2 ?k3 ?_; (case k1 => k_dflt (walk_at "my lit")); (case k2 => k_dflt (walk_at "my bd")); (case k3 => k_dflt (walk_at "my bd")); (try dsimp only)))
local macro_rules | `(tactic| walk_at "binaryOp Sub float int") => `(tactic| (refine' r_sub_fi ?k1 ?k2 ?k3 ?k4 ?_; (case k1 => k_dflt (walk_at "my lit")); (case k2 => k_dflt (walk_at "my bd")); (case k3 => k_dflt (walk_at "my bd")); (case k4 => k_dflt (walk_at "my bd")); (try dsimp only)))
local macro_rules | `(tactic| walk_at "inplaceOp Sub float int") => `(tactic| (refine' r_isub_fi ?k1 ?k2 ?k3 ?k4 ?_; (case k1 => k_dflt (walk_at "my lit")); (case k2 => k_dflt (walk_at "my bd")); (case k3 => k_dflt (walk_at "my bd")); (case k4 => k_dflt (walk_at "my bd")); (try dsimp only)))
local macro_rules | `(tactic| walk_at "binaryOp Mult float int") => `(tactic| (refine' r_mul_fi ?k1 ?k2 ?k3 ?k4 ?k5 ?_; (case k1 => k_dflt (walk_at "my lit")); (case k2 => k_dflt (walk_at "my bd")); (case k3 => k_dflt (walk_at "my bd")); (case k4 => k_dflt (walk_at "my bd")); (case k5 => k_dflt (walk_at "my bd")); (try dsimp only)))
local macro_rules | `(tactic| walk_at "binaryOp Div float int") => `(tactic| (refine' r_div_fi ?k1 ?k2 ?k3 ?_; (case k1 => k_dflt (walk_at "my lit")); (case k2 => k_dflt (walk_at "my bd")); (case k3 => k_dflt (walk_at "my bd")); (try dsimp only)))
local macro_rules | `(tactic| walk_at "binaryOp Div int int") => `(tactic| (refine' r_div_ii rfl ?k2 ?k3 ?_; (case k2 => k_dflt (walk_at "my bd")); (case k3 => k_dflt (walk_at "my bd")); (try dsimp only)))
local macro_rules | `(tactic| walk_at "binaryOp Mod float int") => `(tactic| (refine' r_mod_fi ?k1 ?k2 ?k3 ?k4 ?k5 ?_; (case k1 => k_dflt (walk_at "my lit")); (case k2 => k_dflt (walk_at "my bd")); (case k3 => k_dflt (walk_at "my bd")); (case k4 => k_dflt (walk_at "my bd")); (case k5 => k_dflt (walk_at "my bd")); (try dsimp only)))
local macro_rules | `(tactic| walk_at "binaryOp Mod int int") => `(tactic| (refine' r_mod_ii ?k2 ?_; (case k2 => k_dflt (walk_at "my bd")); (try dsimp only)))
local macro_rules | `(tactic| walk_at "binaryOp FloorDiv int int") => `(tactic| (refine' r_div_fd ?k2 ?k3 ?_; (case k2 => k_dflt (walk_at "my bd")); (case k3 => k_dflt (walk_at "my bd")); (try dsimp only)))
local macro_rules | `(tactic| walk_at "compareOp GtE float float") => `(tactic| (refine' r_ge_ff ?k1 ?k2 ?k3 ?k4 ?_; (case k1 => k_dflt (walk_at "my lit")); (case k2 => k_dflt (walk_at "my lit")); (case k3 => k_dflt (walk_at "my bd")); (case k4 => k_dflt (walk_at "my bd")); (try dsimp only)))
local macro_rules | `(tactic| walk_at "compareOp Lt float int") => `(tactic| (refine' r_lt_fi ?k1 ?k2 ?_; (case k1 => k_dflt (walk_at "my lit")); (case k2 => k_dflt (walk_at "my bd")); (try dsimp only)))
local macro_rules | `(tactic| walk_at "my floor") => `(tactic| (refine' q_floor_mq ?m1 ?m2 ?m3 ?m4 ?m5 ?m6 <;> walk_at "my bd"))
local macro_rules | `(tactic| walk_at "my floor") => `(tactic| (refine' q_floor_iq ?m1 ?m2 ?m3 ?m4 <;> walk_at "my bd"))
local macro_rules | `(tactic| walk_at "my floor") => `(tactic| (refine' q_floor_dq ?m1 ?m2 ?m3 ?m4 <;> walk_at "my bd"))
local macro_rules | `(tactic| walk_at "my floor") => `(tactic| (refine' q_floor_fl ?m1 ?m2 <;> walk_at "my bd"))
local macro_rules | `(tactic| walk_at "my trunc") => `(tactic| (refine' q_trunc_dq ?m1 ?m2 ?m3 ?m4 <;> walk_at "my bd"))
local macro_rules | `(tactic| walk_at "my trunc") => `(tactic| (refine' q_trunc_fl ?m1 ?m2 <;> walk_at "my bd"))
local macro_rules | `(tactic| walk_at "call builtin:math.floor") => `(tactic| ((with_reducible show wpAny _ _ (call _ [Value.float _ _]) _ _ _); (refine' r_floor_of rfl ?k1 ?_; (case k1 => k_dflt (walk_at "my floor")); (try dsimp only))))
local macro_rules | `(tactic| walk_at "call builtin:math.trunc") => `(tactic| ((with_reducible show wpAny _ _ (call _ [Value.float _ _]) _ _ _); (refine' r_trunc_of rfl ?k1 ?_; (case k1 => k_dflt (walk_at "my trunc")); (try dsimp only))))
local macro_rules | `(tactic| walk_at "call type:int") => `(tactic| ((with_reducible show wpAny _ _ (call _ [Value.float _ _]) _ _ _); (refine' r_int_of rfl ?k1 ?_; (case k1 => k_dflt (walk_at "my trunc")); (try dsimp only))))
local macro_rules | `(tactic| walk_at "my asks") => `(tactic| ((case k1 => k_asm); (case k2 => k_asm); (case k3 => k_asm); (case k4 => k_asm); (case k5 => k_asm); (case k6 => first | exact rfl | assumption); (case k7 => ktr_room); (case k8 => ktr_units)))
local macro_rules | `(tactic| walk_at "eval Name") => `(tactic| (k_here; name_kind "globalImplicit"; k_dflt (first | (refine' nameX_K ?F ?X ?T ?e ?_ ?a ?b; (case F => k_asm); (case X => k_asm); (case T => k_asm); (case a => rfl); (case b => rfl); (case e => k_is); k_whole) | (refine' nameX_B ?F ?X ?T ?e ?v ?n ?_ ?a ?b; (case F => k_asm); (case X => k_asm); (case T => k_asm); (case a => rfl); (case b => rfl); (case e => k_is); (case v => boot_fast); (case n => decide); k_whole))))
local macro_rules | `(tactic| walk_at "eval Name") => `(tactic| (k_here; name_kind "local"; k_dflt (refine' nameX_L ?F ?v ?_ ?a ?b; (case F => k_asm); (case a => rfl); (case b => rfl); (case v => rfl); k_whole)))
local macro_rules | `(tactic| walk_at "my pre") => `(tactic| first | omega | exact GregDate.bd (by with_reducible assumption) | exact pre28 (by omega))
local macro_rules | `(tactic| walk_at "call ref") => `(tactic| (k_dflt (refine' ClAt.use (c_isleap _ _ _) ?k1 ?k2 ?k3 ?k4 ?k5 ?k6 ?k7 ?k8 trivial ?_); walk_at "my asks"; intro t9 h9 tk9 F9 N9; (try dsimp only); (try k_sweep); (try k_fold)))
local macro_rules | `(tactic| walk_at "call ref") => `(tactic| (k_dflt (refine' ClAt.use (c_to_jdY _ _ _ _ _ _ _) ?k1 ?k2 ?k3 ?k4 ?k5 ?k6 ?k7 ?k8 ?k9 ?_); (case k9 => walk_at "my pre"); walk_at "my asks"; intro z9 t9 h9 tk9 hz9 hz9a hz9b F9 N9; (try dsimp only); (try k_sweep); (try k_fold)))
local macro_rules | `(tactic| walk_at "call ref") => `(tactic| (k_dflt (refine' ClAt.use (c_to_jdZ _ _ _ _ _ _) ?k1 ?k2 ?k3 ?k4 ?k5 ?k6 ?k7 ?k8 ?k9 ?_); (case k9 => walk_at "my pre"); walk_at "my asks"; intro z9 t9 h9 tk9 hz9 hz9a hz9b F9 N9; (try dsimp only); (try k_sweep); (try k_fold)))
local macro_rules | `(tactic| walk_at "call ref") => `(tactic| (k_dflt (refine' ClAt.use (c_from_jd _ _ _) ?k1 ?k2 ?k3 ?k4 ?k5 ?k6 ?k7 ?k8 ?k9 ?_); (case k9 => with_reducible assumption); walk_at "my asks"; intro y9 m9 d9 t9 t9b t9c q9 h9 tk9 hP9 F9 N9; (have hB9 := GregDate.bd hP9); (have hJ9 := GregDate.jan hP9); (try dsimp only); (try k_sweep); (try k_fold)))
local macro_rules | `(tactic| walk_at "binaryOp Mod float int") => `(tactic| (refine' r_mod_fk ?k1 ?k2 ?k3 ?k4 ?k5 ?k6 ?k7 ?_; (case k1 => k_dflt (walk_at "my lit")); (case k6 => k_dflt (with_reducible assumption)); (case k7 => k_dflt (with_reducible assumption)); (case k2 => k_dflt (walk_at "my bd")); (case k3 => k_dflt (walk_at "my bd")); (case k4 => k_dflt (walk_at "my bd")); (case k5 => k_dflt (walk_at "my bd")); (try dsimp only)))
local macro_rules | `(tactic| walk_at "call builtin:math.floor") => `(tactic| ((with_reducible show wpAny _ _ (call _ [Value.float (dq _ _) _]) _ _ _); (refine' r_floor_dqF rfl ?k2 ?k3 ?k4 ?k5 ?_; (case k2 => k_dflt (walk_at "my bd")); (case k3 => k_dflt (walk_at "my bd")); (case k4 => k_dflt (walk_at "my bd")); (case k5 => k_dflt (walk_at "my bd")); intro kf hkf1 hkf2; (try dsimp only))))
local macro_rules | `(tactic| walk_at "binaryOp Add int float") => `(tactic| (k_dflt (refine' r_wjd ?k1 ?_; (case k1 => with_reducible assumption); (try dsimp only))))
local macro_rules | `(tactic| walk_at "call builtin:math.trunc") => `(tactic| ((with_reducible show wpAny _ _ (call _ [Value.float (dq _ _) _]) _ _ _); (refine' r_trunc_dqF rfl ?k2 ?k3 ?k4 ?k5 ?_; (case k2 => k_dflt (walk_at "my bd")); (case k3 => k_dflt (walk_at "my bd")); (case k4 => k_dflt (walk_at "my bd")); (case k5 => k_dflt (walk_at "my bd")); intro kf hkf1 hkf2; (try dsimp only))))
theorem c_legalp (w : World) (y : Int) (ty tm td : Tok) : ClAt w 2 151 [.int y ty, .int 1 tm, .int 1 td] (1 ≤ y) (RetV fun t => .bool true) := by
  unfold ClAt; k_fill; intro p loose mean mg mb dp un gd cn cs a ccd cl outer A₀ base h₀ L m news s Q E B F X N T hk hdp hun hpre hret; refine wpAny_call ?_; (k_dflt cell_enter)
  k_steps
  refine' end_b hret rfl ?f ?n (fun _ h => h)
  case f => k_asm
  case n => k_asm
theorem c_to_jdp (w : World) (y : Int) (ty tm td : Tok) : ClAt w 4 158 [.int y ty, .int 1 tm, .int 1 td] (1 ≤ y ∧ y + 1788 ≤ 10000) (RetV fun t => .float (fl2 (jd2 (y + 1788) 1 1)) t) := by
  unfold ClAt; k_fill; intro p loose mean mg mb dp un gd cn cs a ccd cl outer A₀ base h₀ L m news s Q E B F X N T hk hdp hun hpre hret; refine wpAny_call ?_; (k_dflt cell_enter)
  repeat' ((fail_if_success (with_reducible show wpAny _ _ (call (Value.ref _) _ _) _ _ _)); first | (k_unfold; (try dsimp only)) | (k_end; wrow_close) | walk1 | (dsimp only; walk1) | (leave1; (try dsimp only)) | fail "no step")
  k_dflt (refine' ClAt.use (c_legalp _ _ _ _ _) ?k1 ?k2 ?k3 ?k4 ?k5 ?k6 ?k7 ?k8 ?k9 ?_)
  case k9 => omega
  walk_at "my asks"; intro t9 h9 tk9 F9 N9; (try dsimp only); (try k_sweep); (try k_fold)
  k_steps
  refine' end_f hret ?e ?f ?n (fun _ h => h)
  case f => k_asm
  case n => k_asm
  case e => rw [jd2_jan]; f_lean; omega
theorem c_from_jdp (w : World) (x : Int) (tx : Tok) : ClAt w 4 165 [.float (fl2 x) tx] (OkDay x ∧ NotOdd x) (RetT3 (PosDate x)) := by
  unfold ClAt; k_fill; intro p loose mean mg mb dp un gd cn cs a ccd cl outer A₀ base h₀ L m news s Q E B F X N T hk hdp hun hpre hret; refine wpAny_call ?_; (k_dflt cell_enter)
  have hp1 := hpre.1
  have hp2 := hp1
  unfold OkDay at hp2
  have hp3 := hpre.2
  k_steps
  · refine' end_t3 hret ?P ?F ?N
    case N => k_asm
    case F => k_asm
    case P =>
      (try simp only [Int.reduceDiv, Int.reduceAdd, Int.reduceMul, Int.reduceSub])
      exact pos_C hp1 hp3 (by with_reducible assumption) (by with_reducible assumption) (by with_reducible assumption) (by with_reducible assumption) (by with_reducible assumption) (by with_reducible assumption) (by with_reducible assumption) (by with_reducible assumption) (by with_reducible assumption)
  · refine' end_t3 hret ?P ?F ?N
    case N => k_asm
    case F => k_asm
    case P => exact pos_A hp1 hp3 (by with_reducible assumption) (by with_reducible assumption) (by with_reducible assumption) (by with_reducible assumption) (by with_reducible assumption) (by with_reducible assumption) (by with_reducible assumption) (by with_reducible assumption) (by with_reducible assumption) (by with_reducible assumption) (by with_reducible assumption)
end Mine
end part_Wk5

section part_Wk6
open PySem PySem.W PyProof.Rows PySem.Calls
set_option Elab.async false
namespace Mine
set_option maxRecDepth 100000
set_option maxHeartbeats 8000000
local macro_rules | `(tactic| walk_at "my lit") => `(tactic| first | exact rfl | exact lit_half | exact lit_greg | exact lit_maya | exact lit_posi)
local macro_rules | `(tactic| walk_at "my bd") => `(tactic| (f_lean; first | (unfold Bd; omega) | omega))
local macro_rules | `(tactic| walk_at "binaryOp Add float float") => `(tactic| (refine' r_add_ff ?k1 ?k2 ?k3 ?k4 ?_; (case k1 => k_dflt (walk_at "my lit")); (case k2 => k_dflt (walk_at "my lit")); (case k3 => k_dflt (walk_at "my bd")); (case k4 => k_dflt (walk_at "my bd")); (try dsimp only)))
local macro_rules | `(tactic| walk_at "binaryOp Sub float float") => `(tactic| (refine' r_sub_ff ?k1 ?k2 ?k3 ?k4 ?k5 ?_; (case k1 => k_dflt (walk_at "my lit")); (case k2 => k_dflt (walk_at "my lit")); (case k3 => k_dflt (walk_at "my bd")); (case k4 => k_dflt (walk_at "my bd")); (case k5 => k_dflt (walk_at "my bd")); (try dsimp only)))
local macro_rules | `(tactic| walk_at "binaryOp Add float int") => `(tactic| (refine' r_add_qi ?k3 ?_; (case k3 => k_dflt (walk_at "my bd")); (try dsimp only)))
local macro_rules | `(tactic| walk_at "binaryOp Add float int") => `(tactic| (refine' r_add_fi ?k1 ?k2 ?k3 ?_; (case k1 => k_dflt (walk_at "my lit")); (case k2 => k_dflt (walk_at "my bd")); (case k3 => k_dflt (walk_at "my bd")); (try dsimp only)))
local macro_rules | `(tactic| walk_at "inplaceOp Add float int") => `(tactic| (refine' r_iadd_fi ?k1 ?k2 ?k3 ?_; (case k1 => k_dflt (walk_at "my lit")); (case k2 => k_dflt (walk_at "my bd")); (case k3 => k_dflt (walk_at "my bd")); (try dsimp only)))
local macro_rules | `(tactic| walk_at "binaryOp Add int float") => `(tactic| (refine' r_add_if ?k1 ?k2 ?k3 ?_; (case k1 => k_dflt (walk_at "my lit")); (case k2 => k_dflt (walk_at "my bd")); (case k3 => k_dflt (walk_at "my bd")); (try dsimp only)))
local macro_rules | `(tactic| walk_at "binaryOp Sub float int") => `(tactic| (refine' r_sub_fi ?k1 ?k2 ?k3 ?k4 ?_; (case k1 => k_dflt (walk_at "my lit")); (case k2 => k_dflt (walk_at "my bd")); (case k3 => k_dflt (walk_at "my bd")); (case k4 => k_dflt (walk_at "my bd")); (try dsimp only)))
local macro_rules | `(tactic| walk_at "inplaceOp Sub float int") => `(tactic| (refine' r_isub_fi ?k1 ?k2 ?k3 ?k4 ?_; (case k1 => k_dflt (walk_at "my lit")); (case k2 => k_dflt (walk_at "my bd")); (case k3 => k_dflt (walk_at "my bd")); (case k4 => k_dflt (walk_at "my bd")); (try dsimp only)))
local macro_rules | `(tactic| walk_at "binaryOp Mult float int") => `(tactic| (refine' r_mul_fi ?k1 ?k2 ?k3 ?k4 ?k5 ?_; (case k1 => k_dflt (walk_at "my lit")); (case k2 => k_dflt (walk_at "my bd")); (case k3 => k_dflt (walk_at "my bd")); (case k4 => k_dflt (walk_at "my bd")); (case k5 => k_dflt (walk_at "my bd")); (try dsimp only)))
local macro_rules | `(tactic| walk_at "binaryOp Div float int") => `(tactic| (refine' r_div_fi ?k1 ?k2 ?k3 ?_; (case k1 => k_dflt (walk_at "my lit")); (case k2 => k_dflt (walk_at "my bd")); (case k3 => k_dflt (walk_at "my bd")); (try dsimp only)))
local macro_rules | `(tactic| walk_at "binaryOp Div int int") => `(tactic| (refine' r_div_ii rfl ?k2 ?k3 ?_; (case k2 => k_dflt (walk_at "my bd")); (case k3 => k_dflt (walk_at "my bd")); (try dsimp only)))
local macro_rules | `(tactic| walk_at "binaryOp Mod float int") => `(tactic| (refine' r_mod_fi ?k1 ?k2 ?k3 ?k4 ?k5 ?_; (case k1 => k_dflt (walk_at "my lit")); (case k2 => k_dflt (walk_at "my bd")); (case k3 => k_dflt (walk_at "my bd")); (case k4 => k_dflt (walk_at "my bd")); (case k5 => k_dflt (walk_at "my bd")); (try dsimp only)))
local macro_rules | `(tactic| walk_at "binaryOp Mod int int") => `(tactic| (refine' r_mod_ii ?k2 ?_; (case k2 => k_dflt (walk_at "my bd")); (try dsimp only)))
local macro_rules | `(tactic| walk_at "binaryOp FloorDiv int int") => `(tactic| (refine' r_div_fd ?k2 ?k3 ?_; (case k2 => k_dflt (walk_at "my bd")); (case k3 => k_dflt (walk_at "my bd")); (try dsimp only)))
local macro_rules | `(tactic| walk_at "compareOp GtE float float") => `(tactic| (refine' r_ge_ff ?k1 ?k2 ?k3 ?k4 ?_; (case k1 => k_dflt (walk_at "my lit")); (case k2 => k_dflt (walk_at "my lit")); (case k3 => k_dflt (walk_at "my bd")); (case k4 => k_dflt (walk_at "my bd")); (try dsimp only)))
local macro_rules | `(tactic| walk_at "compareOp Lt float int") => `(tactic| (refine' r_lt_fi ?k1 ?k2 ?_; (case k1 => k_dflt (walk_at "my lit")); (case k2 => k_dflt (walk_at "my bd")); (try dsimp only)))
local macro_rules | `(tactic| walk_at "my floor") => `(tactic| (refine' q_floor_mq ?m1 ?m2 ?m3 ?m4 ?m5 ?m6 <;> walk_at "my bd"))
local macro_rules | `(tactic| walk_at "my floor") => `(tactic| (refine' q_floor_iq ?m1 ?m2 ?m3 ?m4 <;> walk_at "my bd"))
local macro_rules | `(tactic| walk_at "my floor") => `(tactic| (refine' q_floor_dq ?m1 ?m2 ?m3 ?m4 <;> walk_at "my bd"))
local macro_rules | `(tactic| walk_at "my floor") => `(tactic| (refine' q_floor_fl ?m1 ?m2 <;> walk_at "my bd"))
local macro_rules | `(tactic| walk_at "my trunc") => `(tactic| (refine' q_trunc_dq ?m1 ?m2 ?m3 ?m4 <;> walk_at "my bd"))
local macro_rules | `(tactic| walk_at "my trunc") => `(tactic| (refine' q_trunc_fl ?m1 ?m2 <;> walk_at "my bd"))
local macro_rules | `(tactic| walk_at "call builtin:math.floor") => `(tactic| ((with_reducible show wpAny _ _ (call _ [Value.float _ _]) _ _ _); (refine' r_floor_of rfl ?k1 ?_; (case k1 => k_dflt (walk_at "my floor")); (try dsimp only))))
local macro_rules | `(tactic| walk_at "call builtin:math.trunc") => `(tactic| ((with_reducible show wpAny _ _ (call _ [Value.float _ _]) _ _ _); (refine' r_trunc_of rfl ?k1 ?_; (case k1 => k_dflt (walk_at "my trunc")); (try dsimp only))))
local macro_rules | `(tactic| walk_at "call type:int") => `(tactic| ((with_reducible show wpAny _ _ (call _ [Value.float _ _]) _ _ _); (refine' r_int_of rfl ?k1 ?_; (case k1 => k_dflt (walk_at "my trunc")); (try dsimp only))))
local macro_rules | `(tactic| walk_at "my asks") => `(tactic| ((case k1 => k_asm); (case k2 => k_asm); (case k3 => k_asm); (case k4 => k_asm); (case k5 => k_asm); (case k6 => first | exact rfl | assumption); (case k7 => ktr_room); (case k8 => ktr_units)))
local macro_rules | `(tactic| walk_at "eval Name") => `(tactic| (k_here; name_kind "globalImplicit"; k_dflt (first | (refine' nameX_K ?F ?X ?T ?e ?_ ?a ?b; (case F => k_asm); (case X => k_asm); (case T => k_asm); (case a => rfl); (case b => rfl); (case e => k_is); k_whole) | (refine' nameX_B ?F ?X ?T ?e ?v ?n ?_ ?a ?b; (case F => k_asm); (case X => k_asm); (case T => k_asm); (case a => rfl); (case b => rfl); (case e => k_is); (case v => boot_fast); (case n => decide); k_whole))))
local macro_rules | `(tactic| walk_at "eval Name") => `(tactic| (k_here; name_kind "local"; k_dflt (refine' nameX_L ?F ?v ?_ ?a ?b; (case F => k_asm); (case a => rfl); (case b => rfl); (case v => rfl); k_whole)))
local macro_rules | `(tactic| walk_at "my pre") => `(tactic| first | omega | exact GregDate.bd (by with_reducible assumption) | exact pre28 (by omega))
local macro_rules | `(tactic| walk_at "call ref") => `(tactic| (k_dflt (refine' ClAt.use (c_isleap _ _ _) ?k1 ?k2 ?k3 ?k4 ?k5 ?k6 ?k7 ?k8 trivial ?_); walk_at "my asks"; intro t9 h9 tk9 F9 N9; (try dsimp only); (try k_sweep); (try k_fold)))
local macro_rules | `(tactic| walk_at "call ref") => `(tactic| (k_dflt (refine' ClAt.use (c_to_jdY _ _ _ _ _ _ _) ?k1 ?k2 ?k3 ?k4 ?k5 ?k6 ?k7 ?k8 ?k9 ?_); (case k9 => walk_at "my pre"); walk_at "my asks"; intro z9 t9 h9 tk9 hz9 hz9a hz9b F9 N9; (try dsimp only); (try k_sweep); (try k_fold)))
local macro_rules | `(tactic| walk_at "call ref") => `(tactic| (k_dflt (refine' ClAt.use (c_to_jdZ _ _ _ _ _ _) ?k1 ?k2 ?k3 ?k4 ?k5 ?k6 ?k7 ?k8 ?k9 ?_); (case k9 => walk_at "my pre"); walk_at "my asks"; intro z9 t9 h9 tk9 hz9 hz9a hz9b F9 N9; (try dsimp only); (try k_sweep); (try k_fold)))
local macro_rules | `(tactic| walk_at "call ref") => `(tactic| (k_dflt (refine' ClAt.use (c_from_jd _ _ _) ?k1 ?k2 ?k3 ?k4 ?k5 ?k6 ?k7 ?k8 ?k9 ?_); (case k9 => with_reducible assumption); walk_at "my asks"; intro y9 m9 d9 t9 t9b t9c q9 h9 tk9 hP9 F9 N9; (have hB9 := GregDate.bd hP9); (have hJ9 := GregDate.jan hP9); (try dsimp only); (try k_sweep); (try k_fold)))
local macro_rules | `(tactic| walk_at "binaryOp Mod float int") => `(tactic| (refine' r_mod_fk ?k1 ?k2 ?k3 ?k4 ?k5 ?k6 ?k7 ?_; (case k1 => k_dflt (walk_at "my lit")); (case k6 => k_dflt (with_reducible assumption)); (case k7 => k_dflt (with_reducible assumption)); (case k2 => k_dflt (walk_at "my bd")); (case k3 => k_dflt (walk_at "my bd")); (case k4 => k_dflt (walk_at "my bd")); (case k5 => k_dflt (walk_at "my bd")); (try dsimp only)))
local macro_rules | `(tactic| walk_at "call builtin:math.floor") => `(tactic| ((with_reducible show wpAny _ _ (call _ [Value.float (dq _ _) _]) _ _ _); (refine' r_floor_dqF rfl ?k2 ?k3 ?k4 ?k5 ?_; (case k2 => k_dflt (walk_at "my bd")); (case k3 => k_dflt (walk_at "my bd")); (case k4 => k_dflt (walk_at "my bd")); (case k5 => k_dflt (walk_at "my bd")); intro kf hkf1 hkf2; (try dsimp only))))
local macro_rules | `(tactic| walk_at "binaryOp Add int float") => `(tactic| (k_dflt (refine' r_wjd ?k1 ?_; (case k1 => with_reducible assumption); (try dsimp only))))
local macro_rules | `(tactic| walk_at "call builtin:math.trunc") => `(tactic| ((with_reducible show wpAny _ _ (call _ [Value.float (dq _ _) _]) _ _ _); (refine' r_trunc_dqF rfl ?k2 ?k3 ?k4 ?k5 ?_; (case k2 => k_dflt (walk_at "my bd")); (case k3 => k_dflt (walk_at "my bd")); (case k4 => k_dflt (walk_at "my bd")); (case k5 => k_dflt (walk_at "my bd")); intro kf hkf1 hkf2; (try dsimp only))))
theorem c_may (w : World) (x : Int) (tx : Tok) : ClAt w 4 130 [.float (fl2 x) tx] (OkDay x) (RetT5 (MayDate x)) := by
  unfold ClAt; k_fill; intro p loose mean mg mb dp un gd cn cs a ccd cl outer A₀ base h₀ L m news s Q E B F X N T hk hdp hun hpre hret; refine wpAny_call ?_; (k_dflt cell_enter)
  have hp2 := hpre
  unfold OkDay at hp2
  k_steps
  refine' end_t5 (news' := []) hret ?P ?F ?N
  case N => k_asm
  case F => k_asm
  case P => unfold MayDate; f_lean; omega
theorem c_to_ind (w : World) (y mo d : Int) (ty tm td : Tok) : ClAt w 6 116 [.int y ty, .int mo tm, .int d td] (1 ≤ y ∧ y ≤ 9921 ∧ 1 ≤ mo ∧ mo ≤ 12 ∧ 1 ≤ d ∧ d ≤ 31) (RetV fun t => .float (fl2 (indJ y mo d)) t) := by
  unfold ClAt; k_fill; intro p loose mean mg mb dp un gd cn cs a ccd cl outer A₀ base h₀ L m news s Q E B F X N T hk hdp hun hpre hret; refine wpAny_call ?_; (k_dflt cell_enter)
  k_steps
  all_goals (refine' end_f hret ?e ?f ?n (fun _ h => h); (case f => k_asm); (case n => k_asm); (case e => (first | rw [ind_t (by with_reducible assumption) (by with_reducible assumption)] | rw [ind_f (by with_reducible assumption) (by with_reducible assumption)]); f_lean; (repeat' split) <;> omega))
local macro_rules | `(tactic| walk_at "binaryOp Add int float") => `(tactic| (k_dflt (refine' r_wjd2 ?k1 ?_; (case k1 => with_reducible assumption); (try dsimp only))))
theorem c_from_ind (w : World) (x : Int) (tx : Tok) : ClAt w 8 123 [.float (fl2 x) tx] (OkDay x) (RetT3 (IndDate x)) := by
  unfold ClAt; k_fill; intro p loose mean mg mb dp un gd cn cs a ccd cl outer A₀ base h₀ L m news s Q E B F X N T hk hdp hun hpre hret; refine wpAny_call ?_; (k_dflt cell_enter)
  have hp2 := hpre
  unfold OkDay at hp2
  k_steps
  · refine' end_t3' hret ?P ?F ?N ?S
    case N => k_asm
    case F => k_asm
    case S => kcj_all
    case P => exact ind_B hpre (by with_reducible assumption) (by with_reducible assumption) (by with_reducible assumption) (by with_reducible assumption) (by with_reducible assumption)
  · refine' end_t3' hret ?P ?F ?N ?S
    case N => k_asm
    case F => k_asm
    case S => kcj_all
    case P => exact ind_A1 hpre (by with_reducible assumption) (by with_reducible assumption) (c_lt (by with_reducible assumption)) (by with_reducible assumption) (by with_reducible assumption)
  · refine' end_t3' hret ?P ?F ?N ?S
    case N => k_asm
    case F => k_asm
    case S => kcj_all
    case P => exact ind_A2 hpre (by with_reducible assumption) (by with_reducible assumption) (c_lt (by with_reducible assumption)) (by with_reducible assumption) (by with_reducible assumption) (by with_reducible assumption) (by with_reducible assumption)
  · refine' end_t3' hret ?P ?F ?N ?S
    case N => k_asm
    case F => k_asm
    case S => kcj_all
    case P => exact ind_A3 hpre (by with_reducible assumption) (by with_reducible assumption) (c_lt (by with_reducible assumption)) (by with_reducible assumption) (by with_reducible assumption) (by with_reducible assumption)
  · refine' end_t3' hret ?P ?F ?N ?S
    case N => k_asm
    case F => k_asm
    case S => kcj_all
    case P => exact ind_B hpre (by with_reducible assumption) (by with_reducible assumption) (by with_reducible assumption) (by with_reducible assumption) (by with_reducible assumption)
  · refine' end_t3' hret ?P ?F ?N ?S
    case N => k_asm
    case F => k_asm
    case S => kcj_all
    case P => exact ind_A1 hpre (by with_reducible assumption) (by with_reducible assumption) (c_lf (by with_reducible assumption)) (by with_reducible assumption) (by with_reducible assumption)
  · refine' end_t3' hret ?P ?F ?N ?S
    case N => k_asm
    case F => k_asm
    case S => kcj_all
    case P => exact ind_A2 hpre (by with_reducible assumption) (by with_reducible assumption) (c_lf (by with_reducible assumption)) (by with_reducible assumption) (by with_reducible assumption) (by with_reducible assumption) (by with_reducible assumption)
  · refine' end_t3' hret ?P ?F ?N ?S
    case N => k_asm
    case F => k_asm
    case S => kcj_all
    case P => exact ind_A3 hpre (by with_reducible assumption) (by with_reducible assumption) (c_lf (by with_reducible assumption)) (by with_reducible assumption) (by with_reducible assumption) (by with_reducible assumption)
end Mine
end part_Wk6

section part_Wk7
open PySem PySem.W PyProof.Rows PySem.Calls
set_option Elab.async false
namespace Mine
set_option maxRecDepth 100000
set_option maxHeartbeats 8000000
abbrev RetI (P : Int → Int → Int → Prop) (h₀ : Heap) (L : Addr) (m : Str → Option Value) (news : List (Addr × Obj)) (s : Shared) (Q : Value → Shared → Prop) : Prop :=
  ∀ (y mo d : Int) (t1 t2 t3 : Tok) (q : Addr) (h' : Heap) (tk' : Nat), P y mo d → Fr h₀ L h' m → News h₀ L h' ((q, isoObj #[.int y t1, .int mo t2, .int d t3]) :: news) → Q (.ref q) { s with heap := h', toks := tk' }
theorem end_i3 {h₀ h' : Heap} {L : Addr} {m : Str → Option Value} {news news' : List (Addr × Obj)} {s : Shared} {Q : Value → Shared → Prop} {tk' : Nat} {P : Int → Int → Int → Prop} {y mo d : Int} {t1 t2 t3 : Tok} {q : Addr}
    (hret : RetI P h₀ L m news s Q) (hP : P y mo d) (F : Fr h₀ L h' m) (N : News h₀ L h' ((q, isoObj #[.int y t1, .int mo t2, .int d t3]) :: news')) (hs : ∀ p ∈ news, p ∈ news') : Q (.ref q) { s with heap := h', toks := tk' } :=
  hret _ _ _ _ _ _ _ _ _ hP F (fun a ha => by
    rcases List.mem_cons.mp ha with e | e
    · exact N a (by rw [e]; exact .head _)
    · exact N a (.tail _ (hs a e)))
local macro_rules | `(tactic| walk_at "my lit") => `(tactic| first | exact rfl | exact lit_half | exact lit_greg | exact lit_maya | exact lit_posi)
local macro_rules | `(tactic| walk_at "my bd") => `(tactic| (f_lean; first | (unfold Bd; omega) | omega))
local macro_rules | `(tactic| walk_at "binaryOp Add float float") => `(tactic| (refine' r_add_ff ?k1 ?k2 ?k3 ?k4 ?_; (case k1 => k_dflt (walk_at "my lit")); (case k2 => k_dflt (walk_at "my lit")); (case k3 => k_dflt (walk_at "my bd")); (case k4 => k_dflt (walk_at "my bd")); (try dsimp only)))
local macro_rules | `(tactic| walk_at "binaryOp Sub float float") => `(tactic| (refine' r_sub_ff ?k1 ?k2 ?k3 ?k4 ?k5 ?_; (case k1 => k_dflt (walk_at "my lit")); (case k2 => k_dflt (walk_at "my lit")); (case k3 => k_dflt (walk_at "my bd")); (case k4 => k_dflt (walk_at "my bd")); (case k5 => k_dflt (walk_at "my bd")); (try dsimp only)))
local macro_rules | `(tactic| walk_at "binaryOp Add float int") => `(tactic| (refine' r_add_qi ?k3 ?_; (case k3 => k_dflt (walk_at "my bd")); (try dsimp only)))
local macro_rules | `(tactic| walk_at "binaryOp Add float int") => `(tactic| (refine' r_add_fi ?k1 ?k2 ?k3 ?_; (case k1 => k_dflt (walk_at "my lit")); (case k2 => k_dflt (walk_at "my bd")); (case k3 => k_dflt (walk_at "my bd")); (try dsimp only)))
local macro_rules | `(tactic| walk_at "inplaceOp Add float int") => `(tactic| (refine' r_iadd_fi ?k1 ?k2 ?k3 ?_; (case k1 => k_dflt (walk_at "my lit")); (case k2 => k_dflt (walk_at "my bd")); (case k3 => k_dflt (walk_at "my bd")); (try dsimp only)))
local macro_rules | `(tactic| walk_at "binaryOp Add int float") => `(tactic| (refine' r_add_if ?k1 ?k2 ?k3 ?_; (case k1 => k_dflt (walk_at "my lit")); (case k2 => k_dflt (walk_at "my bd")); (case k3 => k_dflt (walk_at "my bd")); (try dsimp only)))
local macro_rules | `(tactic| walk_at "binaryOp Sub float int") => `(tactic| (refine' r_sub_fi ?k1 ?k2 ?k3 ?k4 ?_; (case k1 => k_dflt (walk_at "my lit")); (case k2 => k_dflt (walk_at "my bd")); (case k3 => k_dflt (walk_at "my bd")); (case k4 => k_dflt (walk_at "my bd")); (try dsimp only)))
local macro_rules | `(tactic| walk_at "inplaceOp Sub float int") => `(tactic| (refine' r_isub_fi ?k1 ?k2 ?k3 ?k4 ?_; (case k1 => k_dflt (walk_at "my lit")); (case k2 => k_dflt (walk_at "my bd")); (case k3 => k_dflt (walk_at "my bd")); (case k4 => k_dflt (walk_at "my bd")); (try dsimp only)))
local macro_rules | `(tactic| walk_at "binaryOp Mult float int") => `(tactic| (refine' r_mul_fi ?k1 ?k2 ?k3 ?k4 ?k5 ?_; (case k1 => k_dflt (walk_at "my lit")); (case k2 => k_dflt (walk_at "my bd")); (case k3 => k_dflt (walk_at "my bd")); (case k4 => k_dflt (walk_at "my bd")); (case k5 => k_dflt (walk_at "my bd")); (try dsimp only)))
local macro_rules | `(tactic| walk_at "binaryOp Div float int") => `(tactic| (refine' r_div_fi ?k1 ?k2 ?k3 ?_; (case k1 => k_dflt (walk_at "my lit")); (case k2 => k_dflt (walk_at "my bd")); (case k3 => k_dflt (walk_at "my bd")); (try dsimp only)))
local macro_rules | `(tactic| walk_at "binaryOp Div int int") => `(tactic| (refine' r_div_ii rfl ?k2 ?k3 ?_; (case k2 => k_dflt (walk_at "my bd")); (case k3 => k_dflt (walk_at "my bd")); (try dsimp only)))
local macro_rules | `(tactic| walk_at "binaryOp Mod float int") => `(tactic| (refine' r_mod_fi ?k1 ?k2 ?k3 ?k4 ?k5 ?_; (case k1 => k_dflt (walk_at "my lit")); (case k2 => k_dflt (walk_at "my bd")); (case k3 => k_dflt (walk_at "my bd")); (case k4 => k_dflt (walk_at "my bd")); (case k5 => k_dflt (walk_at "my bd")); (try dsimp only)))
local macro_rules | `(tactic| walk_at "binaryOp Mod int int") => `(tactic| (refine' r_mod_ii ?k2 ?_; (case k2 => k_dflt (walk_at "my bd")); (try dsimp only)))
local macro_rules | `(tactic| walk_at "binaryOp FloorDiv int int") => `(tactic| (refine' r_div_fd ?k2 ?k3 ?_; (case k2 => k_dflt (walk_at "my bd")); (case k3 => k_dflt (walk_at "my bd")); (try dsimp only)))
local macro_rules | `(tactic| walk_at "compareOp GtE float float") => `(tactic| (refine' r_ge_ff ?k1 ?k2 ?k3 ?k4 ?_; (case k1 => k_dflt (walk_at "my lit")); (case k2 => k_dflt (walk_at "my lit")); (case k3 => k_dflt (walk_at "my bd")); (case k4 => k_dflt (walk_at "my bd")); (try dsimp only)))
local macro_rules | `(tactic| walk_at "compareOp Lt float int") => `(tactic| (refine' r_lt_fi ?k1 ?k2 ?_; (case k1 => k_dflt (walk_at "my lit")); (case k2 => k_dflt (walk_at "my bd")); (try dsimp only)))
local macro_rules | `(tactic| walk_at "my floor") => `(tactic| (refine' q_floor_mq ?m1 ?m2 ?m3 ?m4 ?m5 ?m6 <;> walk_at "my bd"))
local macro_rules | `(tactic| walk_at "my floor") => `(tactic| (refine' q_floor_iq ?m1 ?m2 ?m3 ?m4 <;> walk_at "my bd"))
local macro_rules | `(tactic| walk_at "my floor") => `(tactic| (refine' q_floor_dq ?m1 ?m2 ?m3 ?m4 <;> walk_at "my bd"))
local macro_rules | `(tactic| walk_at "my floor") => `(tactic| (refine' q_floor_fl ?m1 ?m2 <;> walk_at "my bd"))
local macro_rules | `(tactic| walk_at "my trunc") => `(tactic| (refine' q_trunc_dq ?m1 ?m2 ?m3 ?m4 <;> walk_at "my bd"))
local macro_rules | `(tactic| walk_at "my trunc") => `(tactic| (refine' q_trunc_fl ?m1 ?m2 <;> walk_at "my bd"))
local macro_rules | `(tactic| walk_at "call builtin:math.floor") => `(tactic| ((with_reducible show wpAny _ _ (call _ [Value.float _ _]) _ _ _); (refine' r_floor_of rfl ?k1 ?_; (case k1 => k_dflt (walk_at "my floor")); (try dsimp only))))
local macro_rules | `(tactic| walk_at "call builtin:math.trunc") => `(tactic| ((with_reducible show wpAny _ _ (call _ [Value.float _ _]) _ _ _); (refine' r_trunc_of rfl ?k1 ?_; (case k1 => k_dflt (walk_at "my trunc")); (try dsimp only))))
local macro_rules | `(tactic| walk_at "call type:int") => `(tactic| ((with_reducible show wpAny _ _ (call _ [Value.float _ _]) _ _ _); (refine' r_int_of rfl ?k1 ?_; (case k1 => k_dflt (walk_at "my trunc")); (try dsimp only))))
local macro_rules | `(tactic| walk_at "my asks") => `(tactic| ((case k1 => k_asm); (case k2 => k_asm); (case k3 => k_asm); (case k4 => k_asm); (case k5 => k_asm); (case k6 => first | exact rfl | assumption); (case k7 => ktr_room); (case k8 => ktr_units)))
local macro_rules | `(tactic| walk_at "eval Name") => `(tactic| (k_here; name_kind "globalImplicit"; k_dflt (first | (refine' nameX_K ?F ?X ?T ?e ?_ ?a ?b; (case F => k_asm); (case X => k_asm); (case T => k_asm); (case a => rfl); (case b => rfl); (case e => k_is); k_whole) | (refine' nameX_B ?F ?X ?T ?e ?v ?n ?_ ?a ?b; (case F => k_asm); (case X => k_asm); (case T => k_asm); (case a => rfl); (case b => rfl); (case e => k_is); (case v => boot_fast); (case n => decide); k_whole))))
local macro_rules | `(tactic| walk_at "eval Name") => `(tactic| (k_here; name_kind "local"; k_dflt (refine' nameX_L ?F ?v ?_ ?a ?b; (case F => k_asm); (case a => rfl); (case b => rfl); (case v => rfl); k_whole)))
local macro_rules | `(tactic| walk_at "my pre") => `(tactic| first | omega | exact GregDate.bd (by with_reducible assumption) | exact pre28 (by omega))
local macro_rules | `(tactic| walk_at "call ref") => `(tactic| (k_dflt (refine' ClAt.use (c_isleap _ _ _) ?k1 ?k2 ?k3 ?k4 ?k5 ?k6 ?k7 ?k8 trivial ?_); walk_at "my asks"; intro t9 h9 tk9 F9 N9; (try dsimp only); (try k_sweep); (try k_fold)))
local macro_rules | `(tactic| walk_at "call ref") => `(tactic| (k_dflt (refine' ClAt.use (c_to_jdY _ _ _ _ _ _ _) ?k1 ?k2 ?k3 ?k4 ?k5 ?k6 ?k7 ?k8 ?k9 ?_); (case k9 => walk_at "my pre"); walk_at "my asks"; intro z9 t9 h9 tk9 hz9 hz9a hz9b F9 N9; (try dsimp only); (try k_sweep); (try k_fold)))
local macro_rules | `(tactic| walk_at "call ref") => `(tactic| (k_dflt (refine' ClAt.use (c_to_jdZ _ _ _ _ _ _) ?k1 ?k2 ?k3 ?k4 ?k5 ?k6 ?k7 ?k8 ?k9 ?_); (case k9 => walk_at "my pre"); walk_at "my asks"; intro z9 t9 h9 tk9 hz9 hz9a hz9b F9 N9; (try dsimp only); (try k_sweep); (try k_fold)))
local macro_rules | `(tactic| walk_at "call ref") => `(tactic| (k_dflt (refine' ClAt.use (c_from_jd _ _ _) ?k1 ?k2 ?k3 ?k4 ?k5 ?k6 ?k7 ?k8 ?k9 ?_); (case k9 => with_reducible assumption); walk_at "my asks"; intro y9 m9 d9 t9 t9b t9c q9 h9 tk9 hP9 F9 N9; (have hB9 := GregDate.bd hP9); (have hJ9 := GregDate.jan hP9); (try dsimp only); (try k_sweep); (try k_fold)))
local macro_rules | `(tactic| walk_at "call type:datetime.date") => `(tactic| (k_dflt (refine' r_date ?F ?N ?a ?b ?c ?d ?_; (case F => k_asm); (case N => k_asm); (case a => omega); (case b => omega); (case c => omega); (case d => (rw [daysInMonth_eq (by omega) (by omega)]; omega)); intro q8 h8 F8 N8; (try k_sweep))))
local macro_rules | `(tactic| walk_at "getMethod ref") => `(tactic| (k_dflt (refine' r_dateMeth ?N ?m ?_; (case N => k_asm); (case m => k_mem); (try dsimp only))))
theorem c_from_greg (w : World) (x y mo d : Int) (ty tm td : Tok) : ClAt w 2 109 [.int y ty, .int mo tm, .int d td] (GregDate x y mo d) (RetI (IsoDate x)) := by
  unfold ClAt; k_fill; intro p loose mean mg mb dp un gd cn cs a ccd cl outer A₀ base h₀ L m news s Q E B F X N T hk hdp hun hpre hret; refine wpAny_call ?_; (k_dflt cell_enter)
  have hB := GregDate.bd hpre
  have hJ := GregDate.jan hpre
  obtain ⟨Y, W, D, hi, hP⟩ := iso_is hpre
  repeat' ((fail_if_success (with_reducible show wpAny _ _ (call (Value.builtin "datetime.date.isocalendar") _ _) _ _ _)); first | (k_unfold; (try dsimp only)) | (k_end; wrow_close) | walk1 | (dsimp only; walk1) | (leave1; (try dsimp only)) | fail "no step")
  k_dflt (refine' r_iso ?F ?N ?m hi ?_)
  case F => k_asm
  case N => k_asm
  case m => k_mem
  intro q7 t7 t7b t7c h7 tk7 F7 N7
  (try k_sweep); (try dsimp only)
  k_steps
  refine' end_i3 hret hP ?f ?n ?s
  case f => k_asm
  case n => k_asm
  case s => kcj_all
theorem c_from_iso (w : World) (x : Int) (tx : Tok) : ClAt w 8 95 [.float (fl2 x) tx] (OkDay x) (RetI (IsoDate x)) := by
  unfold ClAt; k_fill; intro p loose mean mg mb dp un gd cn cs a ccd cl outer A₀ base h₀ L m news s Q E B F X N T hk hdp hun hpre hret; refine wpAny_call ?_; (k_dflt cell_enter)
  repeat' ((fail_if_success (with_reducible show wpAny _ _ (call (Value.ref 109) _ _) _ _ _)); first | (k_unfold; (try dsimp only)) | (k_end; wrow_close) | walk1 | (dsimp only; walk1) | (leave1; (try dsimp only)) | fail "no step")
  k_dflt (refine' ClAt.use (c_from_greg _ x _ _ _ _ _ _) ?k1 ?k2 ?k3 ?k4 ?k5 ?k6 ?k7 ?k8 ?k9 ?_)
  case k9 => with_reducible assumption
  walk_at "my asks"
  intro Y W D t7 t7b t7c q7 h7 tk7 hP F7 N7
  (try k_sweep); (try dsimp only)
  k_steps
  refine' end_i3 hret hP ?f ?n ?s
  case f => k_asm
  case n => k_asm
  case s => kcj_all
end Mine
end part_Wk7

section part_Cal3
set_option linter.unusedVariables false
namespace Mine
theorem jan_mono {y z : Int} (h : y ≤ z) : jan y ≤ jan z := by
  unfold jan
  by_cases e : y = z
  · subst e; omega
  · omega
theorem NotOdd.of {x y m d : Int} (ho : OkDay x) (h : GregDate x y m d) (hn : ¬ (y % 400 = 0 ∧ m = 12 ∧ d = 31)) : NotOdd x := by
  intro hx
  have hj := h.jan
  unfold GregDate at h
  obtain ⟨g1, g2, g3, g4, g5, g6, g7⟩ := h
  obtain ⟨k, hk⟩ : ∃ k : Int, x = 292194 * k + 292192 + 3442851 := ⟨(x - 3442851) / 292194, by omega⟩
  have e1 : jan (400 * k + 400) = 146097 * k + 145732 := by unfold jan; omega
  have e2 : jan (400 * k + 401) = 146097 * k + 146098 := by unfold jan; omega
  rw [jd2_is] at hj
  have hn1 := jan_next y
  have hy : y = 400 * k + 400 := by
    rcases Int.lt_trichotomy y (400 * k + 400) with q | q | q
    · have := jan_mono (show y + 1 ≤ 400 * k + 400 by omega)
      omega
    · exact q
    · have := jan_mono (show 400 * k + 401 ≤ y by omega)
      omega
  apply hn
  have hlp : lp y = 1 := by
    have := lp_cases y
    omega
  have hl : leap y = true := by
    by_cases h : leap y = true
    · exact h
    · have := lp_f (by simpa using h); omega
  rw [jd2_of, jd2_is] at g7
  have hdim : dim y m = if m = 2 then 28 + lp y else if m = 4 ∨ m = 6 ∨ m = 9 ∨ m = 11 then 30 else 31 := by
    unfold dim
    rw [hlp, if_pos hl]
    rfl
  rw [hdim, hlp] at g6
  have hjy : jan y = 146097 * k + 145732 := by rw [hy]; exact e1
  rw [hjy] at g7
  refine ⟨by omega, ?_⟩
  by_cases hm2 : m ≤ 2
  · rw [adj_1 hm2] at g7
    exfalso
    have : (367 * m - 362) / 12 ≤ 31 := by omega
    split at g6 <;> (try split at g6) <;> omega
  · rw [adj_2 hm2 hl] at g7
    obtain h | h | h | h | h | h | h | h | h | h : m = 3 ∨ m = 4 ∨ m = 5 ∨ m = 6 ∨ m = 7 ∨ m = 8 ∨ m = 9 ∨ m = 10 ∨ m = 11 ∨ m = 12 := by omega
    all_goals (subst h; simp at g6; omega)

/-- a count of years: where each begins, how long it is -/
structure Years (f l : Int → Int) : Prop where
  next : ∀ y, f (y + 1) = f y + l y
  pos : ∀ y, 1 ≤ l y
theorem Years.lt {f l : Int → Int} (h : Years f l) : ∀ (n : Nat) (y : Int), f y + l y ≤ f (y + 1 + n)
  | 0, y => by have := h.next y; rw [show y + 1 + ((0 : Nat) : Int) = y + 1 by omega]; omega
  | n + 1, y => by
    have h1 := Years.lt h n y
    have h2 := h.next (y + 1 + n)
    have h3 := h.pos (y + 1 + n)
    rw [show y + 1 + ((n + 1 : Nat) : Int) = y + 1 + n + 1 by omega]
    omega
theorem Years.uniq {f l : Int → Int} (h : Years f l) {y z p q : Int} (e : f y + p = f z + q) (hp : 1 ≤ p) (hp2 : p ≤ l y) (hq : 1 ≤ q) (hq2 : q ≤ l z) : y = z ∧ p = q := by
  have key : ∀ {y z p q : Int}, f y + p = f z + q → p ≤ l y → 1 ≤ q → ¬ y < z := by
    intro y z p q e hp2 hq hlt
    have := h.lt (z - y - 1).toNat y
    rw [show y + 1 + ((z - y - 1).toNat : Int) = z by omega] at this
    omega
  have h1 := key e hp2 hq
  have h2 := key e.symm hq2 hp
  have h3 : y = z := by omega
  subst h3
  exact ⟨rfl, by omega⟩
def st (k y : Int) : Int := if k = 0 then imon y else if k = 1 then jan y else jan (y + 1788)
def ln (k y : Int) : Int := if k = 0 then 7 * wpy y else if k = 1 then 365 + lp y else 365 + lp (y + 1788)
theorem years (k : Int) : Years (st k) (ln k) := by
  constructor
  · intro y
    unfold st ln
    split
    · exact imon_next y
    · split
      · have := jan_next y; omega
      · have := jan_next (y + 1788); rw [show y + 1 + 1788 = y + 1788 + 1 by omega]; omega
  · intro y
    unfold ln
    have := wpy_bd y
    have := lp_01 y
    have := lp_01 (y + 1788)
    split
    · omega
    · split <;> omega
end Mine
end part_Cal3

section part_Cl2
open PySem PySem.W PyProof.Rows PySem.Calls
set_option Elab.async false
namespace Mine
section
variable {prog : Program} {w : World} {A : Around} {E : Value → Shared → Prop} {s : Shared} {h₀ : Heap} {L : Addr} {mm : Str → Option Value} {news : List (Addr × Obj)} {Q : Value → Shared → Prop}
theorem r_eq2 {a b : Addr} {x1 x2 y1 y2 : Int} {t1 t2 u1 u2 : Tok} (N : News h₀ L s.heap news) (hma : (a, tupOf [.int x1 t1, .int x2 t2]) ∈ news) (hmb : (b, tupOf [.int y1 u1, .int y2 u2]) ∈ news)
    (hu : A.units < cLine) (h : Q (.bool (decide (x1 = y1 ∧ x2 = y2))) s) : wpAny (model prog w) A (compareOp .Eq (.ref a) (.ref b)) Q E s := by
  refine SeqAt.eq_tupleAt (items := #[.int x1 t1, .int x2 t2]) (items2 := #[.int y1 u1, .int y2 u2]) (e := fun j => if j = 0 then x1 == y1 else x2 == y2) ⟨_, N.get hma, rfl, _, rfl⟩ ⟨_, N.get hmb, rfl, _, rfl⟩ hu ?_ ?_
  · intro j h1 h2
    match j, h1, h2 with
    | 0, _, _ => exact fun prog w E Q h => wpAny_eqBool_int h
    | 1, _, _ => exact fun prog w E Q h => wpAny_eqBool_int h
  · have e : ((List.range (min (#[Value.int x1 t1, .int x2 t2] : Array Value).size (#[Value.int y1 u1, .int y2 u2] : Array Value).size)).all (fun j => if j = 0 then x1 == y1 else x2 == y2) && (#[Value.int x1 t1, .int x2 t2] : Array Value).size == (#[Value.int y1 u1, .int y2 u2] : Array Value).size) = decide (x1 = y1 ∧ x2 = y2) := by
      rw [Bool.eq_iff_iff]
      simp [List.range_succ]
    rw [e]
    exact h
end
end Mine
end part_Cl2

section part_Wk8
open PySem PySem.W PyProof.Rows PySem.Calls
set_option Elab.async false
namespace Mine
set_option maxRecDepth 100000
set_option maxHeartbeats 8000000
local macro_rules | `(tactic| walk_at "my lit") => `(tactic| first | exact rfl | exact lit_half | exact lit_greg | exact lit_maya | exact lit_posi)
local macro_rules | `(tactic| walk_at "my bd") => `(tactic| (f_lean; first | (unfold Bd; omega) | omega))
local macro_rules | `(tactic| walk_at "binaryOp Add float float") => `(tactic| (refine' r_add_ff ?k1 ?k2 ?k3 ?k4 ?_; (case k1 => k_dflt (walk_at "my lit")); (case k2 => k_dflt (walk_at "my lit")); (case k3 => k_dflt (walk_at "my bd")); (case k4 => k_dflt (walk_at "my bd")); (try dsimp only)))
local macro_rules | `(tactic| walk_at "binaryOp Sub float float") => `(tactic| (refine' r_sub_ff ?k1 ?k2 ?k3 ?k4 ?k5 ?_; (case k1 => k_dflt (walk_at "my lit")); (case k2 => k_dflt (walk_at "my lit")); (case k3 => k_dflt (walk_at "my bd")); (case k4 => k_dflt (walk_at "my bd")); (case k5 => k_dflt (walk_at "my bd")); (try dsimp only)))
local macro_rules | `(tactic| walk_at "binaryOp Add float int") => `(tactic| (refine' r_add_qi ?k3 ?_; (case k3 => k_dflt (walk_at "my bd")); (try dsimp only)))
local macro_rules | `(tactic| walk_at "binaryOp Add float int") => `(tactic| (refine' r_add_fi ?k1 ?k2 ?k3 ?_; (case k1 => k_dflt (walk_at "my lit")); (case k2 => k_dflt (walk_at "my bd")); (case k3 => k_dflt (walk_at "my bd")); (try dsimp only)))
local macro_rules | `(tactic| walk_at "inplaceOp Add float int") => `(tactic| (refine' r_iadd_fi ?k1 ?k2 ?k3 ?_; (case k1 => k_dflt (walk_at "my lit")); (case k2 => k_dflt (walk_at "my bd")); (case k3 => k_dflt (walk_at "my bd")); (try dsimp only)))
local macro_rules | `(tactic| walk_at "binaryOp Add int float") => `(tactic| (refine' r_add_if ?k1 ?k2 ?k3 ?_; (case k1 => k_dflt (walk_at "my lit")); (case k2 => k_dflt (walk_at "my bd")); (case k3 => k_dflt (walk_at "my bd")); (try dsimp only)))
local macro_rules | `(tactic| walk_at "binaryOp Sub float int") => `(tactic| (refine' r_sub_fi ?k1 ?k2 ?k3 ?k4 ?_; (case k1 => k_dflt (walk_at "my lit")); (case k2 => k_dflt (walk_at "my bd")); (case k3 => k_dflt (walk_at "my bd")); (case k4 => k_dflt (walk_at "my bd")); (try dsimp only)))
local macro_rules | `(tactic| walk_at "inplaceOp Sub float int") => `(tactic| (refine' r_isub_fi ?k1 ?k2 ?k3 ?k4 ?_; (case k1 => k_dflt (walk_at "my lit")); (case k2 => k_dflt (walk_at "my bd")); (case k3 => k_dflt (walk_at "my bd")); (case k4 => k_dflt (walk_at "my bd")); (try dsimp only)))
local macro_rules | `(tactic| walk_at "binaryOp Mult float int") => `(tactic| (refine' r_mul_fi ?k1 ?k2 ?k3 ?k4 ?k5 ?_; (case k1 => k_dflt (walk_at "my lit")); (case k2 => k_dflt (walk_at "my bd")); (case k3 => k_dflt (walk_at "my bd")); (case k4 => k_dflt (walk_at "my bd")); (case k5 => k_dflt (walk_at "my bd")); (try dsimp only)))
local macro_rules | `(tactic| walk_at "binaryOp Div float int") => `(tactic| (refine' r_div_fi ?k1 ?k2 ?k3 ?_; (case k1 => k_dflt (walk_at "my lit")); (case k2 => k_dflt (walk_at "my bd")); (case k3 => k_dflt (walk_at "my bd")); (try dsimp only)))
local macro_rules | `(tactic| walk_at "binaryOp Div int int") => `(tactic| (refine' r_div_ii rfl ?k2 ?k3 ?_; (case k2 => k_dflt (walk_at "my bd")); (case k3 => k_dflt (walk_at "my bd")); (try dsimp only)))
local macro_rules | `(tactic| walk_at "binaryOp Mod float int") => `(tactic| (refine' r_mod_fi ?k1 ?k2 ?k3 ?k4 ?k5 ?_; (case k1 => k_dflt (walk_at "my lit")); (case k2 => k_dflt (walk_at "my bd")); (case k3 => k_dflt (walk_at "my bd")); (case k4 => k_dflt (walk_at "my bd")); (case k5 => k_dflt (walk_at "my bd")); (try dsimp only)))
local macro_rules | `(tactic| walk_at "binaryOp Mod int int") => `(tactic| (refine' r_mod_ii ?k2 ?_; (case k2 => k_dflt (walk_at "my bd")); (try dsimp only)))
local macro_rules | `(tactic| walk_at "binaryOp FloorDiv int int") => `(tactic| (refine' r_div_fd ?k2 ?k3 ?_; (case k2 => k_dflt (walk_at "my bd")); (case k3 => k_dflt (walk_at "my bd")); (try dsimp only)))
local macro_rules | `(tactic| walk_at "compareOp GtE float float") => `(tactic| (refine' r_ge_ff ?k1 ?k2 ?k3 ?k4 ?_; (case k1 => k_dflt (walk_at "my lit")); (case k2 => k_dflt (walk_at "my lit")); (case k3 => k_dflt (walk_at "my bd")); (case k4 => k_dflt (walk_at "my bd")); (try dsimp only)))
local macro_rules | `(tactic| walk_at "compareOp Lt float int") => `(tactic| (refine' r_lt_fi ?k1 ?k2 ?_; (case k1 => k_dflt (walk_at "my lit")); (case k2 => k_dflt (walk_at "my bd")); (try dsimp only)))
local macro_rules | `(tactic| walk_at "my floor") => `(tactic| (refine' q_floor_mq ?m1 ?m2 ?m3 ?m4 ?m5 ?m6 <;> walk_at "my bd"))
local macro_rules | `(tactic| walk_at "my floor") => `(tactic| (refine' q_floor_iq ?m1 ?m2 ?m3 ?m4 <;> walk_at "my bd"))
local macro_rules | `(tactic| walk_at "my floor") => `(tactic| (refine' q_floor_dq ?m1 ?m2 ?m3 ?m4 <;> walk_at "my bd"))
local macro_rules | `(tactic| walk_at "my floor") => `(tactic| (refine' q_floor_fl ?m1 ?m2 <;> walk_at "my bd"))
local macro_rules | `(tactic| walk_at "my trunc") => `(tactic| (refine' q_trunc_dq ?m1 ?m2 ?m3 ?m4 <;> walk_at "my bd"))
local macro_rules | `(tactic| walk_at "my trunc") => `(tactic| (refine' q_trunc_fl ?m1 ?m2 <;> walk_at "my bd"))
local macro_rules | `(tactic| walk_at "call builtin:math.floor") => `(tactic| ((with_reducible show wpAny _ _ (call _ [Value.float _ _]) _ _ _); (refine' r_floor_of rfl ?k1 ?_; (case k1 => k_dflt (walk_at "my floor")); (try dsimp only))))
local macro_rules | `(tactic| walk_at "call builtin:math.trunc") => `(tactic| ((with_reducible show wpAny _ _ (call _ [Value.float _ _]) _ _ _); (refine' r_trunc_of rfl ?k1 ?_; (case k1 => k_dflt (walk_at "my trunc")); (try dsimp only))))
local macro_rules | `(tactic| walk_at "call type:int") => `(tactic| ((with_reducible show wpAny _ _ (call _ [Value.float _ _]) _ _ _); (refine' r_int_of rfl ?k1 ?_; (case k1 => k_dflt (walk_at "my trunc")); (try dsimp only))))
local macro_rules | `(tactic| walk_at "my asks") => `(tactic| ((case k1 => k_asm); (case k2 => k_asm); (case k3 => k_asm); (case k4 => k_asm); (case k5 => k_asm); (case k6 => first | exact rfl | assumption); (case k7 => ktr_room); (case k8 => ktr_units)))
local macro_rules | `(tactic| walk_at "eval Name") => `(tactic| (k_here; name_kind "globalImplicit"; k_dflt (first | (refine' nameX_K ?F ?X ?T ?e ?_ ?a ?b; (case F => k_asm); (case X => k_asm); (case T => k_asm); (case a => rfl); (case b => rfl); (case e => k_is); k_whole) | (refine' nameX_B ?F ?X ?T ?e ?v ?n ?_ ?a ?b; (case F => k_asm); (case X => k_asm); (case T => k_asm); (case a => rfl); (case b => rfl); (case e => k_is); (case v => boot_fast); (case n => decide); k_whole))))
local macro_rules | `(tactic| walk_at "eval Name") => `(tactic| (k_here; name_kind "local"; k_dflt (refine' nameX_L ?F ?v ?_ ?a ?b; (case F => k_asm); (case a => rfl); (case b => rfl); (case v => rfl); k_whole)))
local macro_rules | `(tactic| walk_at "my pre") => `(tactic| first | omega | exact GregDate.bd (by with_reducible assumption) | exact pre28 (by omega))
local macro_rules | `(tactic| walk_at "call ref") => `(tactic| (k_dflt (refine' ClAt.use (c_isleap _ _ _) ?k1 ?k2 ?k3 ?k4 ?k5 ?k6 ?k7 ?k8 trivial ?_); walk_at "my asks"; intro t9 h9 tk9 F9 N9; (try dsimp only); (try k_sweep); (try k_fold)))
local macro_rules | `(tactic| walk_at "call ref") => `(tactic| (k_dflt (refine' ClAt.use (c_to_jdY _ _ _ _ _ _ _) ?k1 ?k2 ?k3 ?k4 ?k5 ?k6 ?k7 ?k8 ?k9 ?_); (case k9 => walk_at "my pre"); walk_at "my asks"; intro z9 t9 h9 tk9 hz9 hz9a hz9b F9 N9; (try dsimp only); (try k_sweep); (try k_fold)))
local macro_rules | `(tactic| walk_at "call ref") => `(tactic| (k_dflt (refine' ClAt.use (c_to_jdZ _ _ _ _ _ _) ?k1 ?k2 ?k3 ?k4 ?k5 ?k6 ?k7 ?k8 ?k9 ?_); (case k9 => walk_at "my pre"); walk_at "my asks"; intro z9 t9 h9 tk9 hz9 hz9a hz9b F9 N9; (try dsimp only); (try k_sweep); (try k_fold)))
local macro_rules | `(tactic| walk_at "call ref") => `(tactic| (k_dflt (refine' ClAt.use (c_from_jd _ _ _) ?k1 ?k2 ?k3 ?k4 ?k5 ?k6 ?k7 ?k8 ?k9 ?_); (case k9 => with_reducible assumption); walk_at "my asks"; intro y9 m9 d9 t9 t9b t9c q9 h9 tk9 hP9 F9 N9; (have hB9 := GregDate.bd hP9); (have hJ9 := GregDate.jan hP9); (try dsimp only); (try k_sweep); (try k_fold)))
local macro_rules | `(tactic| walk_at "call ref") => `(tactic| (k_dflt (refine' ClAt.use (c_wpy _ _ _) ?k1 ?k2 ?k3 ?k4 ?k5 ?k6 ?k7 ?k8 ?k9 ?_); (case k9 => omega); walk_at "my asks"; intro t9 h9 tk9 F9 N9; (try dsimp only); (try k_sweep); (try k_fold)))
local macro_rules | `(tactic| walk_at "call ref") => `(tactic| (k_dflt (refine' ClAt.use (c_to_ord _ _ _ _ _) ?k1 ?k2 ?k3 ?k4 ?k5 ?k6 ?k7 ?k8 ?k9 ?_); (case k9 => omega); walk_at "my asks"; intro t9 h9 tk9 F9 N9; (try dsimp only); (try k_sweep); (try k_fold)))
local macro_rules | `(tactic| walk_at "call ref") => `(tactic| (k_dflt (refine' ClAt.use (c_to_jdp _ _ _ _ _) ?k1 ?k2 ?k3 ?k4 ?k5 ?k6 ?k7 ?k8 ?k9 ?_); (case k9 => omega); walk_at "my asks"; intro t9 h9 tk9 F9 N9; (try dsimp only); (try k_sweep); (try k_fold)))
local macro_rules | `(tactic| walk_at "call ref") => `(tactic| (k_dflt (refine' ClAt.use (c_from_iso _ _ _) ?k1 ?k2 ?k3 ?k4 ?k5 ?k6 ?k7 ?k8 ?k9 ?_); (case k9 => with_reducible assumption); walk_at "my asks"; intro y9 m9 d9 t9 t9b t9c q9 h9 tk9 hP9 F9 N9; (try dsimp only); (try k_sweep); (try k_fold)))
local macro_rules | `(tactic| walk_at "call ref") => `(tactic| (k_dflt (refine' ClAt.use (c_from_ord _ _ _) ?k1 ?k2 ?k3 ?k4 ?k5 ?k6 ?k7 ?k8 ?k9 ?_); (case k9 => with_reducible assumption); walk_at "my asks"; intro y9 d9 t9 t9b q9 h9 tk9 hP9 F9 N9; (try dsimp only); (try k_sweep); (try k_fold)))
local macro_rules | `(tactic| walk_at "call ref") => `(tactic| (k_dflt (refine' ClAt.use (c_from_jdp _ _ _) ?k1 ?k2 ?k3 ?k4 ?k5 ?k6 ?k7 ?k8 ?k9 ?_); (case k9 => with_reducible assumption); walk_at "my asks"; intro y9 m9 d9 t9 t9b t9c q9 h9 tk9 hP9 F9 N9; (try dsimp only); (try k_sweep); (try k_fold)))
theorem jd2_up (y : Int) : jd2 (y + 1) 1 1 = jd2 y 1 1 + 2 * (365 + lp y) := by have := jan_next y; rw [jd2_is, jd2_is]; omega
theorem jd2_bdy {y : Int} (h : 1 ≤ y ∧ y ≤ 10000) : 3442851 ≤ jd2 y 1 1 ∧ jd2 y 1 1 ≤ 20000000 := jd2_bd (mo := 1) (by omega)
theorem c_len0 (w : World) (y : Int) (t1 t2 : Tok) : ClAt w 8 172 [.int 0 t1, .int y t2] (1 ≤ y ∧ y ≤ 9999) (RetV fun t => .int (ln 0 y) t) := by
  unfold ClAt; k_fill; intro p loose mean mg mb dp un gd cn cs a ccd cl outer A₀ base h₀ L m news s Q E B F X N T hk hdp hun hpre hret; refine wpAny_call ?_; (k_dflt cell_enter)
  k_steps
  refine' end_i hret ?e ?f ?n (fun _ h => h)
  case f => k_asm
  case n => k_asm
  case e => rfl
theorem c_len1 (w : World) (y : Int) (t1 t2 : Tok) : ClAt w 8 172 [.int 1 t1, .int y t2] (1 ≤ y ∧ y ≤ 9999) (RetV fun t => .int (ln 1 y) t) := by
  unfold ClAt; k_fill; intro p loose mean mg mb dp un gd cn cs a ccd cl outer A₀ base h₀ L m news s Q E B F X N T hk hdp hun hpre hret; refine wpAny_call ?_; (k_dflt cell_enter)
  have h1 := jd2_bdy (y := y) (by omega)
  have h2 := jd2_bdy (y := y + 1) (by omega)
  have h3 := jd2_up y
  have h4 := lp_01 y
  k_steps
  refine' end_i hret ?e ?f ?n (fun _ h => h)
  case f => k_asm
  case n => k_asm
  case e => (show _ = 365 + lp y); f_lean; omega
theorem c_len2 (w : World) (y : Int) (t1 t2 : Tok) : ClAt w 8 172 [.int 2 t1, .int y t2] (1 ≤ y ∧ y ≤ 8200) (RetV fun t => .int (ln 2 y) t) := by
  unfold ClAt; k_fill; intro p loose mean mg mb dp un gd cn cs a ccd cl outer A₀ base h₀ L m news s Q E B F X N T hk hdp hun hpre hret; refine wpAny_call ?_; (k_dflt cell_enter)
  have h1 := jd2_bdy (y := y + 1788) (by omega)
  have h2 := jd2_bdy (y := y + 1 + 1788) (by omega)
  have h3 := jd2_up (y + 1788)
  rw [show y + 1788 + 1 = y + 1 + 1788 by omega] at h3
  have h4 := lp_01 (y + 1788)
  k_steps
  refine' end_i hret ?e ?f ?n (fun _ h => h)
  case f => k_asm
  case n => k_asm
  case e => (show _ = 365 + lp (y + 1788)); f_lean; omega
theorem c_date0 (w : World) (x : Int) (t1 tx : Tok) : ClAt w 10 179 [.int 0 t1, .float (fl2 x) tx] (OkDay x) (RetI (IsoDate x)) := by
  unfold ClAt; k_fill; intro p loose mean mg mb dp un gd cn cs a ccd cl outer A₀ base h₀ L m news s Q E B F X N T hk hdp hun hpre hret; refine wpAny_call ?_; (k_dflt cell_enter)
  k_steps
  refine' end_i3 hret (by with_reducible assumption) ?f ?n ?s
  case f => k_asm
  case n => k_asm
  case s => kcj_all
theorem c_date1 (w : World) (x : Int) (t1 tx : Tok) : ClAt w 10 179 [.int 1 t1, .float (fl2 x) tx] (OkDay x) (RetT2 (OrdDate x)) := by
  unfold ClAt; k_fill; intro p loose mean mg mb dp un gd cn cs a ccd cl outer A₀ base h₀ L m news s Q E B F X N T hk hdp hun hpre hret; refine wpAny_call ?_; (k_dflt cell_enter)
  k_steps
  refine' end_t2 hret (by with_reducible assumption) ?f ?n ?s
  case f => k_asm
  case n => k_asm
  case s => kcj_all
theorem c_date2 (w : World) (x : Int) (t1 tx : Tok) : ClAt w 10 179 [.int 2 t1, .float (fl2 x) tx] (OkDay x ∧ NotOdd x) (RetT3 (PosDate x)) := by
  unfold ClAt; k_fill; intro p loose mean mg mb dp un gd cn cs a ccd cl outer A₀ base h₀ L m news s Q E B F X N T hk hdp hun hpre hret; refine wpAny_call ?_; (k_dflt cell_enter)
  k_steps
  refine' end_t3' hret (by with_reducible assumption) ?f ?n ?s
  case f => k_asm
  case n => k_asm
  case s => kcj_all
abbrev RetB (P : Bool → Prop) (h₀ : Heap) (L : Addr) (m : Str → Option Value) (news : List (Addr × Obj)) (s : Shared) (Q : Value → Shared → Prop) : Prop :=
  ∀ (b : Bool) (h' : Heap) (tk' : Nat), P b → Fr h₀ L h' m → News h₀ L h' news → Q (.bool b) { s with heap := h', toks := tk' }
theorem end_B {h₀ h' : Heap} {L : Addr} {m : Str → Option Value} {news news' : List (Addr × Obj)} {s : Shared} {Q : Value → Shared → Prop} {tk' : Nat} {P : Bool → Prop} {b : Bool}
    (hret : RetB P h₀ L m news s Q) (hP : P b) (F : Fr h₀ L h' m) (N : News h₀ L h' news') (hs : ∀ p ∈ news, p ∈ news') : Q (.bool b) { s with heap := h', toks := tk' } :=
  hret b h' tk' hP F (fun a ha => N a (hs a ha))
theorem c_odd (w : World) (x : Int) (tx : Tok) : ClAt w 8 193 [.float (fl2 x) tx] (OkDay x) (RetB fun b => b = false → NotOdd x) := by
  unfold ClAt; k_fill; intro p loose mean mg mb dp un gd cn cs a ccd cl outer A₀ base h₀ L m news s Q E B F X N T hk hdp hun hpre hret; refine wpAny_call ?_; (k_dflt cell_enter)
  k_steps
  · k_dflt (refine' r_eq2 ?N ?m1 ?m2 ?u ?_)
    case N => k_asm
    case m1 => k_mem
    case m2 => k_mem
    case u => ktr_units
    (try dsimp only)
    k_steps
    refine' end_B hret ?P ?f ?n ?s
    case f => k_asm
    case n => k_asm
    case s => kcj_all
    case P => exact fun e => NotOdd.of hpre (by with_reducible assumption) (fun q => absurd (decide_eq_true q.2) (by rw [e]; exact Bool.false_ne_true))
  · refine' end_B hret ?P ?f ?n ?s
    case f => k_asm
    case n => k_asm
    case s => kcj_all
    case P => exact fun e => NotOdd.of hpre (by with_reducible assumption) (fun q => by have h9 := q.1; exact absurd h9 (by with_reducible assumption))
theorem c_due1 (w : World) (y p : Int) (t1 t2 t3 : Tok) : ClAt w 2 186 [.int 1 t1, .int y t2, .int p t3] True (RetT2 fun a b => a = y ∧ b = p) := by
  unfold ClAt; k_fill; intro p loose mean mg mb dp un gd cn cs a ccd cl outer A₀ base h₀ L m news s Q E B F X N T hk hdp hun hpre hret; refine wpAny_call ?_; (k_dflt cell_enter)
  k_steps
  refine' end_t2 hret ⟨rfl, rfl⟩ ?f ?n ?s
  case f => k_asm
  case n => k_asm
  case s => kcj_all
theorem c_due0 (w : World) (y p : Int) (t1 t2 t3 : Tok) : ClAt w 2 186 [.int 0 t1, .int y t2, .int p t3] (1 ≤ p) (RetT3 fun a b c => a = y ∧ b = (p - 1) / 7 + 1 ∧ c = (p - 1) % 7 + 1) := by
  unfold ClAt; k_fill; intro p loose mean mg mb dp un gd cn cs a ccd cl outer A₀ base h₀ L m news s Q E B F X N T hk hdp hun hpre hret; refine wpAny_call ?_; (k_dflt cell_enter)
  k_steps
  refine' end_t3' hret ⟨rfl, rfl, rfl⟩ ?f ?n ?s
  case f => k_asm
  case n => k_asm
  case s => kcj_all
theorem c_due2 (w : World) (y p : Int) (t1 t2 t3 : Tok) : ClAt w 2 186 [.int 2 t1, .int y t2, .int p t3] (1 ≤ p) (RetT3 fun a b c => a = y ∧ b = (p - 1) / 28 + 1 ∧ c = (p - 1) % 28 + 1) := by
  unfold ClAt; k_fill; intro p loose mean mg mb dp un gd cn cs a ccd cl outer A₀ base h₀ L m news s Q E B F X N T hk hdp hun hpre hret; refine wpAny_call ?_; (k_dflt cell_enter)
  k_steps
  refine' end_t3' hret ⟨rfl, rfl, rfl⟩ ?f ?n ?s
  case f => k_asm
  case n => k_asm
  case s => kcj_all
end Mine
end part_Wk8

section part_Dt3
open PySem PySem.W PyProof.Rows PySem.Calls
set_option Elab.async false
set_option maxRecDepth 100000
namespace Mine
open PySem.Spec PyProof.V
section
variable {prog : Program} {w : World} {A : Around} {E : Value → Shared → Prop} {s : Shared} {h₀ : Heap} {L : Addr} {mm : Str → Option Value} {news : List (Addr × Obj)} {Q : Value → Shared → Prop}
theorem r_ne2 {a b : Addr} {x1 x2 y1 y2 : Int} {t1 t2 u1 u2 : Tok} (N : News h₀ L s.heap news) (hma : (a, tupOf [.int x1 t1, .int x2 t2]) ∈ news) (hmb : (b, tupOf [.int y1 u1, .int y2 u2]) ∈ news)
    (hu : A.units + 64 < cLine) (h1 : x1 = y1) (h2 : x2 = y2) (h : Q (.bool false) s) : wpAny (model prog w) A (compareOp .NotEq (.ref a) (.ref b)) Q E s := by
  subst h1 h2
  refine ne_dataH (reads_tuple_at (N.get hma) rfl rfl (.cons (Reads.int _ _) (.cons (Reads.int _ _) .nil))) (reads_tuple_at (N.get hmb) rfl rfl (.cons (Reads.int _ _) (.cons (Reads.int _ _) .nil))) rfl rfl hu ?_
  simpa [PyData.eqv, PyData.eqvAll] using h
theorem r_ne3 {a b : Addr} {x1 x2 x3 y1 y2 y3 : Int} {t1 t2 t3 u1 u2 u3 : Tok} (N : News h₀ L s.heap news) (hma : (a, tupOf [.int x1 t1, .int x2 t2, .int x3 t3]) ∈ news) (hmb : (b, tupOf [.int y1 u1, .int y2 u2, .int y3 u3]) ∈ news)
    (hu : A.units + 64 < cLine) (h1 : x1 = y1) (h2 : x2 = y2) (h3 : x3 = y3) (h : Q (.bool false) s) : wpAny (model prog w) A (compareOp .NotEq (.ref a) (.ref b)) Q E s := by
  subst h1 h2 h3
  refine ne_dataH (reads_tuple_at (N.get hma) rfl rfl (.cons (Reads.int _ _) (.cons (Reads.int _ _) (.cons (Reads.int _ _) .nil)))) (reads_tuple_at (N.get hmb) rfl rfl (.cons (Reads.int _ _) (.cons (Reads.int _ _) (.cons (Reads.int _ _) .nil)))) rfl rfl hu ?_
  simpa [PyData.eqv, PyData.eqvAll] using h
theorem r_eq5 {a b : Addr} {x1 x2 x3 x4 x5 y1 y2 y3 y4 y5 : Int} {t1 t2 t3 t4 t5 u1 u2 u3 u4 u5 : Tok} (N : News h₀ L s.heap news) (hma : (a, tupOf [.int x1 t1, .int x2 t2, .int x3 t3, .int x4 t4, .int x5 t5]) ∈ news) (hmb : (b, tupOf [.int y1 u1, .int y2 u2, .int y3 u3, .int y4 u4, .int y5 u5]) ∈ news)
    (hu : A.units + 64 < cLine) (h1 : x1 = y1) (h2 : x2 = y2) (h3 : x3 = y3) (h4 : x4 = y4) (h5 : x5 = y5) (h : Q (.bool true) s) : wpAny (model prog w) A (compareOp .Eq (.ref a) (.ref b)) Q E s := by
  subst h1 h2 h3 h4 h5
  refine eq_dataH (reads_tuple_at (N.get hma) rfl rfl (.cons (Reads.int _ _) (.cons (Reads.int _ _) (.cons (Reads.int _ _) (.cons (Reads.int _ _) (.cons (Reads.int _ _) .nil)))))) (reads_tuple_at (N.get hmb) rfl rfl (.cons (Reads.int _ _) (.cons (Reads.int _ _) (.cons (Reads.int _ _) (.cons (Reads.int _ _) (.cons (Reads.int _ _) .nil)))))) rfl rfl hu ?_
  simpa [PyData.eqv, PyData.eqvAll] using h
/-- three ints that a while loop turns -/
abbrev upd3 (n1 n2 n3 : Str) (p y l : Int) (t1 t2 t3 : Tok) (m : Str → Option Value) : Str → Option Value := fun z => if z = n3 then some (.int l t3) else if z = n2 then some (.int y t2) else if z = n1 then some (.int p t1) else m z
theorem upd3_same {n1 n2 n3 : Str} {p y l : Int} {t1 t2 t3 : Tok} {m : Str → Option Value} (h1 : m n1 = some (.int p t1)) (h2 : m n2 = some (.int y t2)) (h3 : m n3 = some (.int l t3)) : upd3 n1 n2 n3 p y l t1 t2 t3 m = m := by
  funext z
  unfold upd3
  split
  · rename_i h; rw [h, h3]
  · split
    · rename_i h; rw [h, h2]
    · split
      · rename_i h; rw [h, h1]
      · rfl
theorem upd3_upd {n1 n2 n3 : Str} {p y l p' y' l' : Int} {t1 t2 t3 t1' t2' t3' : Tok} {m : Str → Option Value} : upd3 n1 n2 n3 p' y' l' t1' t2' t3' (upd3 n1 n2 n3 p y l t1 t2 t3 m) = upd3 n1 n2 n3 p' y' l' t1' t2' t3' m := by
  funext z
  unfold upd3
  split
  · rfl
  · split
    · rfl
    · split
      · rfl
      · rfl
theorem while3 {env : Env} {test : Expr} {body : List Stmt} {pos : Pos} {m : Str → Option Value} {Q : Flow → Shared → Prop} (n1 n2 n3 : Str) (P : Int → Int → Int → Prop) {p₀ y₀ l₀ : Int} {t1 t2 t3 : Tok}
    (F : Fr h₀ L s.heap m) (N : News h₀ L s.heap news) (hp : m n1 = some (.int p₀ t1)) (hy : m n2 = some (.int y₀ t2)) (hl : m n3 = some (.int l₀ t3)) (h0 : P p₀ y₀ l₀)
    (turn : ∀ (T : Flow → Shared → Prop) (p y l : Int) (t1 t2 t3 : Tok) (h₁ : Heap) (tk₁ : Nat), Fr h₀ L h₁ (upd3 n1 n2 n3 p y l t1 t2 t3 m) → News h₀ L h₁ news → P p y l →
      (∀ {p' y' l' : Int} {t1' t2' t3' : Tok} {h' : Heap} {tk' : Nat}, p' < p → 0 ≤ p' → P p' y' l' → Fr h₀ L h' (upd3 n1 n2 n3 p' y' l' t1' t2' t3' (upd3 n1 n2 n3 p y l t1 t2 t3 m)) → News h₀ L h' news → T .next { s with heap := h', toks := tk' }) →
      wpAny (model prog w) A (isTrue test env (eval test env)) (fun b s₂ =>
        if b = true then wpAny (model prog w) A (execs body env) T E s₂ else Q .next s₂) E { s with heap := h₁, toks := tk₁ })
    (hE : PassesOwn (model prog w) A env E) :
    wpAny (model prog w) A (exec (.While test body [] pos) env) Q E s := by
  refine While_inv (fun n m' news' => news' = news ∧ ∃ p y l t1 t2 t3, n = p.toNat ∧ m' = upd3 n1 n2 n3 p y l t1 t2 t3 m ∧ P p y l) (n₀ := p₀.toNat) F N ⟨rfl, p₀, y₀, l₀, t1, t2, t3, rfl, (upd3_same hp hy hl).symm, h0⟩ ?_ hE
  rintro n m₁ news₁ h₁ tk₁ F₁ N₁ ⟨rfl, p, y, l, t1, t2, t3, rfl, rfl, hP⟩
  refine turn _ p y l t1 t2 t3 h₁ tk₁ F₁ N₁ hP ?_
  intro p' y' l' t1' t2' t3' h' tk' hlt h0' hP' F' N'
  rw [upd3_upd] at F'
  exact ⟨rfl, h', tk', _, _, p'.toNat, rfl, F', N', by omega, rfl, p', y', l', t1', t2', t3', rfl, rfl, hP'⟩
def OkNum (x : Int) : Prop := 4748959 ≤ x ∧ x ≤ 10548957 ∧ x % 2 = 1
theorem cutNum {M : Model} {env : Env} {st : Stmt} {m : Str → Option Value} {Q : Flow → Shared → Prop} (F : Fr h₀ L s.heap m) (N : News h₀ L s.heap news)
    (h1 : ∀ Q' : Flow → Shared → Prop, (∀ {Y : Int} {t : Tok} {h' : Heap} {tk' : Nat}, OkNum Y → Fr h₀ L h' (fun y => if y = Str.ofString "number" then some (.float (fl2 Y) t) else m y) → News h₀ L h' news → Q' .next { s with heap := h', toks := tk' }) → wpAny M A (exec st env) Q' E s)
    (h2 : ∀ (Y : Int) (t : Tok) (h' : Heap) (tk' : Nat), OkNum Y → Fr h₀ L h' (fun y => if y = Str.ofString "number" then some (.float (fl2 Y) t) else m y) → News h₀ L h' news → Q .next { s with heap := h', toks := tk' }) : wpAny M A (exec st env) Q E s := h1 Q (fun {Y t h' tk'} => h2 Y t h' tk')
theorem cutDays {M : Model} {env : Env} {st : Stmt} {m : Str → Option Value} {Q : Flow → Shared → Prop} (F : Fr h₀ L s.heap m) (N : News h₀ L s.heap news)
    (h1 : ∀ Q' : Flow → Shared → Prop, (∀ {Y : Int} {t : Tok} {h' : Heap} {tk' : Nat}, 0 ≤ Y ∧ Y < 8000 → Fr h₀ L h' (fun y => if y = Str.ofString "days" then some (.int Y t) else m y) → News h₀ L h' news → Q' .next { s with heap := h', toks := tk' }) → wpAny M A (exec st env) Q' E s)
    (h2 : ∀ (Y : Int) (t : Tok) (h' : Heap) (tk' : Nat), 0 ≤ Y ∧ Y < 8000 → Fr h₀ L h' (fun y => if y = Str.ofString "days" then some (.int Y t) else m y) → News h₀ L h' news → Q .next { s with heap := h', toks := tk' }) : wpAny M A (exec st env) Q E s := h1 Q (fun {Y t h' tk'} => h2 Y t h' tk')
end
end Mine
end part_Dt3

section part_Cal4
set_option linter.unusedVariables false
namespace Mine
def Inv (k c p y l : Int) : Prop := l = ln k y ∧ 1 ≤ p ∧ st k y + p = c ∧ 1 ≤ y ∧ c ≤ 3562000
theorem jan_bd {y : Int} (h : jan y ≤ 3562010) : y ≤ 9790 := by unfold jan at h; omega
theorem jan_bd2 {y : Int} (h : 651000 ≤ jan y) : 1780 ≤ y := by unfold jan at h; omega
theorem Inv.y0 {c p y l : Int} (h : Inv 0 c p y l) : 1 ≤ y ∧ y ≤ 9790 := by
  unfold Inv st at h
  rw [if_pos rfl] at h
  have h1 := imon_bd y
  have h2 := jan_bd (y := y) (by omega)
  omega
theorem Inv.y1 {c p y l : Int} (h : Inv 1 c p y l) : 1 ≤ y ∧ y ≤ 9790 := by
  unfold Inv st at h
  rw [if_neg (by decide), if_pos rfl] at h
  have h2 := jan_bd (y := y) (by omega)
  omega
theorem Inv.y2 {c p y l : Int} (h : Inv 2 c p y l) : 1 ≤ y ∧ y ≤ 8002 := by
  unfold Inv st at h
  rw [if_neg (by decide), if_neg (by decide)] at h
  have h2 := jan_bd (y := y + 1788) (by omega)
  omega
theorem Inv.turn {k c p y l : Int} (h : Inv k c p y l) (hl : l < p) : Inv k c (p - l) (y + 1) (ln k (y + 1)) ∧ p - l < p ∧ 0 ≤ p - l := by
  unfold Inv at *
  have h1 := (years k).next y
  have h2 := (years k).pos y
  obtain ⟨a, b, d, e, f⟩ := h
  refine ⟨⟨rfl, by omega, by omega, by omega, by omega⟩, by omega, by omega⟩
/-- a day at a place of a year -/
def Pl (k x y p : Int) : Prop := x = 2 * (st k y + p - 1) + 3442849 ∧ 1 ≤ p ∧ p ≤ ln k y
theorem Pl.inv {k x y p d l : Int} (h : Pl k x y p) (hd : 0 ≤ d ∧ d < 8000) (hx : x ≤ 10548957) (hy : 1 ≤ y) (hl : l = ln k y) : Inv k (st k y + p + d) (p + d) y l := by
  unfold Pl at h
  unfold Inv
  omega
theorem Inv.pl {k c p y l x d y0 p0 : Int} (h : Inv k c p y l) (hl : ¬ l < p) (h0 : Pl k x y0 p0) (hc : c = st k y0 + p0 + d) : Pl k (x + 2 * d) y p := by
  unfold Inv at h
  unfold Pl at *
  omega
theorem Pl.uniq {k x y p y' p' : Int} (h : Pl k x y p) (h' : Pl k x y' p') : y = y' ∧ p = p' := by
  unfold Pl at *
  exact (years k).uniq (by omega) h.2.1 h.2.2 h'.2.1 h'.2.2
theorem iso_pl {x Y W D : Int} (h : IsoDate x Y W D) : Pl 0 x Y (7 * (W - 1) + D) ∧ 1 ≤ Y ∧ 1 ≤ W ∧ 1 ≤ D ∧ D ≤ 7 := by
  unfold IsoDate at h
  unfold Pl st ln
  rw [if_pos rfl, if_pos rfl]
  omega
theorem ord_pl {x Y P : Int} (h : OrdDate x Y P) : Pl 1 x Y P ∧ 1 ≤ Y := by
  unfold OrdDate at h
  rw [jd2_is] at h
  unfold Pl st ln
  rw [if_neg (by decide), if_pos rfl, if_neg (by decide), if_pos rfl]
  omega
theorem pos_pl {x Y M D : Int} (h : PosDate x Y M D) : Pl 2 x Y (28 * (M - 1) + D) ∧ 1 ≤ Y ∧ 1 ≤ M ∧ 1 ≤ D ∧ D ≤ 28 := by
  unfold PosDate at h
  rw [jd2_is] at h
  unfold Pl st ln
  rw [if_neg (by decide), if_neg (by decide), if_neg (by decide), if_neg (by decide)]
  omega
theorem iso_end {x y p Y W D : Int} (hp : Pl 0 x y p) (h : IsoDate x Y W D) : Y = y ∧ W = (p - 1) / 7 + 1 ∧ D = (p - 1) % 7 + 1 := by
  have h1 := iso_pl h
  have h2 := h1.1.uniq hp
  omega
theorem ord_end {x y p Y P : Int} (hp : Pl 1 x y p) (h : OrdDate x Y P) : Y = y ∧ P = p := (ord_pl h).1.uniq hp
theorem pos_end {x y p Y M D : Int} (hp : Pl 2 x y p) (h : PosDate x Y M D) : Y = y ∧ M = (p - 1) / 28 + 1 ∧ D = (p - 1) % 28 + 1 := by
  have h1 := pos_pl h
  have h2 := h1.1.uniq hp
  omega
-- the Saka months
def imst (n : Int) : Int := jan (n / 12 + 78) + ioff (n / 12) (n % 12 + 1)
def imln (n : Int) : Int := ilen (n / 12) (n % 12 + 1)
theorem ioff_next {y m : Int} (h1 : 1 ≤ m) (h2 : m < 12) : ioff y (m + 1) = ioff y m + ilen y m := by
  unfold ioff ilen
  split <;> (try split) <;> (try split) <;> (try split) <;> (try split) <;> omega
theorem imYears : Years imst imln := by
  constructor
  · intro n
    unfold imst imln
    by_cases h : n % 12 = 11
    · have e1 : (n + 1) / 12 = n / 12 + 1 := by omega
      have e2 : (n + 1) % 12 = 0 := by omega
      rw [e1, e2, h]
      have h1 := jan_next (n / 12 + 78)
      rw [show n / 12 + 1 + 78 = n / 12 + 78 + 1 by omega, h1]
      unfold ioff ilen
      simp
      omega
    · have e1 : (n + 1) / 12 = n / 12 := by omega
      have e2 : (n + 1) % 12 = n % 12 + 1 := by omega
      rw [e1, e2, ioff_next (by omega) (by omega)]
      omega
  · intro n
    unfold imln ilen
    have := lp_01 (n / 12 + 78)
    split
    · omega
    · split <;> omega
theorem indJ_is (y m d : Int) : indJ y m d = 2 * (jan (y + 78) + ioff y m + d - 1) + 3443009 := by
  unfold indJ ist
  rw [jd2_is]
  omega
theorem ind_len {y m : Int} (h1 : 1 ≤ m) (h2 : m < 12) : indJ y (m + 1) 1 = indJ y m 1 + 2 * ilen y m := by
  rw [indJ_is, indJ_is, ioff_next h1 h2]
  omega
def IInv (c d y m l : Int) : Prop := l = ilen y m ∧ 1 ≤ d ∧ jan (y + 78) + ioff y m + d = c ∧ 1 ≤ m ∧ m ≤ 12 ∧ 1 ≤ y ∧ c ≤ 3562000
theorem ioff_bd {y m : Int} (h1 : 1 ≤ m) (h2 : m ≤ 12) : 0 ≤ ioff y m ∧ ioff y m ≤ 400 := by
  have := lp_01 (y + 78)
  unfold ioff
  split
  · omega
  · split <;> omega
theorem ilen_bd (y m : Int) : 30 ≤ ilen y m ∧ ilen y m ≤ 31 := by
  have := lp_01 (y + 78)
  unfold ilen
  split
  · omega
  · split <;> omega
theorem IInv.bd {c d y m l : Int} (h : IInv c d y m l) : 1 ≤ y ∧ y ≤ 9712 ∧ 1 ≤ m ∧ m ≤ 12 ∧ 1 ≤ d ∧ 30 ≤ l ∧ l ≤ 31 := by
  unfold IInv at h
  have h1 := ioff_bd (y := y) h.2.2.2.1 h.2.2.2.2.1
  have h2 := jan_bd (y := y + 78) (by omega)
  have h3 := ilen_bd y m
  omega
theorem IInv.next {c d y m l : Int} (h : IInv c d y m l) (hl : l < d) (hm : m < 12) : IInv c (d - l) y (m + 1) (ilen y (m + 1)) ∧ d - l < d ∧ 0 ≤ d - l := by
  have hb := h.bd
  unfold IInv at *
  have h1 := ioff_next (y := y) h.2.2.2.1 hm
  omega
theorem IInv.last {c d y m l : Int} (h : IInv c d y m l) (hl : l < d) (hm : ¬ m < 12) : IInv c (d - l) (y + 1) 1 (ilen (y + 1) 1) ∧ d - l < d ∧ 0 ≤ d - l := by
  have hb := h.bd
  have hm2 : m = 12 := by omega
  subst hm2
  unfold IInv at *
  have h1 := jan_next (y + 78)
  rw [show y + 78 + 1 = y + 1 + 78 by omega] at h1
  have e1 : ioff y 12 = 185 + lp (y + 78) + 30 * 5 := by unfold ioff; rw [if_neg (by decide), if_neg (by decide)]; omega
  have e2 : ioff (y + 1) 1 = 0 := by unfold ioff; rw [if_pos rfl]
  have e3 : ilen y 12 = 30 := by unfold ilen; rw [if_neg (by decide), if_neg (by decide)]
  omega
def IPl (x y m d : Int) : Prop := x = indJ y m d ∧ 1 ≤ m ∧ m ≤ 12 ∧ 1 ≤ d ∧ d ≤ ilen y m
theorem IPl.uniq {x y m d y' m' d' : Int} (h : IPl x y m d) (h' : IPl x y' m' d') : y = y' ∧ m = m' ∧ d = d' := by
  unfold IPl at *
  obtain ⟨a1, a2, a3, a4, a5⟩ := h
  obtain ⟨b1, b2, b3, b4, b5⟩ := h'
  rw [indJ_is] at a1 b1
  have e1 : (12 * y + (m - 1)) / 12 = y := by omega
  have e2 : (12 * y + (m - 1)) % 12 + 1 = m := by omega
  have e3 : (12 * y' + (m' - 1)) / 12 = y' := by omega
  have e4 : (12 * y' + (m' - 1)) % 12 + 1 = m' := by omega
  have := imYears.uniq (y := 12 * y + (m - 1)) (z := 12 * y' + (m' - 1)) (p := d) (q := d')
    (by unfold imst; rw [e1, e2, e3, e4]; omega) a4 (by unfold imln; rw [e1, e2]; exact a5) b4 (by unfold imln; rw [e3, e4]; exact b5)
  omega
theorem ind_pl {x y m d : Int} (h : IndDate x y m d) : IPl x y m d ∧ 1 ≤ y ∧ y ≤ 9921 ∧ 1 ≤ m ∧ m ≤ 12 ∧ 1 ≤ d ∧ d ≤ 31 := by
  unfold IndDate at h
  unfold IPl
  have := ilen_bd y m
  omega
theorem ind_start {x y m d so l : Int} (h : IPl x y m d) (hs : 0 ≤ so ∧ so < 1200) (hx : x ≤ 10548957) (hy : 1 ≤ y) (hl : l = ilen y m) : IInv (jan (y + 78) + ioff y m + d + so) (d + so) y m l := by
  unfold IPl at h
  rw [indJ_is] at h
  unfold IInv
  omega
theorem ind_done {x y0 m0 d0 so c y m d l : Int} (h0 : IPl x y0 m0 d0) (hc : c = jan (y0 + 78) + ioff y0 m0 + d0 + so) (h : IInv c d y m l) (hl : ¬ l < d) : IPl (x + 2 * so) y m d := by
  unfold IPl at *
  rw [indJ_is] at *
  unfold IInv at h
  omega
theorem ind_end {x y m d y' m' d' : Int} (h : IPl x y m d) (h' : IndDate x y' m' d') : y' = y ∧ m' = m ∧ d' = d := (ind_pl h').1.uniq h
-- the Long Count
theorem may_end {x dd b k t u n b' k' t' u' n' : Int} (h : MayDate x b k t u n) (h' : MayDate (x + 2 * dd) b' k' t' u' n') (hd : 0 ≤ dd) :
    n' = (dd + n) % 20 ∧ u' = ((dd + n) / 20 + u) % 18 ∧ t' = (((dd + n) / 20 + u) / 18 + t) % 20 ∧ k' = ((((dd + n) / 20 + u) / 18 + t) / 20 + k) % 20 ∧ b' = (((((dd + n) / 20 + u) / 18 + t) / 20 + k) / 20 + b) := by
  unfold MayDate at *
  omega
end Mine
end part_Cal4

section part_Dt4
open PySem PySem.W PyProof.Rows PySem.Calls
set_option Elab.async false
set_option linter.unusedVariables false
set_option maxRecDepth 100000
namespace Mine
section
variable {prog : Program} {w : World} {A : Around} {E : Value → Shared → Prop} {s : Shared} {h₀ : Heap} {L : Addr} {mm : Str → Option Value} {news : List (Addr × Obj)} {Q : Value → Shared → Prop}
theorem nodd {b : Bool} {x : Int} (h : b = false → NotOdd x) (hb : b = false) : NotOdd x := h hb
theorem cutFor {M : Model} {env : Env} {st : Stmt} {m : Str → Option Value} {Q : Flow → Shared → Prop} {x d : Int} {tx td : Tok} (F : Fr h₀ L s.heap m) (N : News h₀ L s.heap news)
    (hx : m (Str.ofString "number") = some (.float (fl2 x) tx)) (hd : m (Str.ofString "days") = some (.int d td))
    (h1 : ∀ Q' : Flow → Shared → Prop, (∀ {m' : Str → Option Value} {h' : Heap} {tk' : Nat} {news' : List (Addr × Obj)}, m' (Str.ofString "number") = some (.float (fl2 x) tx) → m' (Str.ofString "days") = some (.int d td) → Fr h₀ L h' m' → News h₀ L h' news' → Q' .next { s with heap := h', toks := tk' }) → wpAny M A (exec st env) Q' E s)
    (h2 : ∀ (m' : Str → Option Value) (h' : Heap) (tk' : Nat), Fr h₀ L h' (fun y => if y = Str.ofString "number" then some (.float (fl2 x) tx) else if y = Str.ofString "days" then some (.int d td) else m' y) → News h₀ L h' [] → Q .next { s with heap := h', toks := tk' }) : wpAny M A (exec st env) Q E s :=
  h1 Q (fun {m' h' tk' news'} a b F' N' => h2 m' h' tk' (by
    have e : (fun y => if y = Str.ofString "number" then some (.float (fl2 x) tx) else if y = Str.ofString "days" then some (.int d td) else m' y) = m' := funext fun y => by
      split
      · rename_i h; rw [h, a]
      · split
        · rename_i h; rw [h, b]
        · rfl
    rw [e]
    exact F') News.nil)
theorem cutLen {M : Model} {env : Env} {st : Stmt} {m : Str → Option Value} {Q : Flow → Shared → Prop} (y mo : Int) (F : Fr h₀ L s.heap m) (N : News h₀ L s.heap news)
    (h1 : ∀ Q' : Flow → Shared → Prop, (∀ {Y : Int} {t : Tok} {h' : Heap} {tk' : Nat} {news' : List (Addr × Obj)}, Y = ilen y mo → Fr h₀ L h' (fun y => if y = Str.ofString "length" then some (.int Y t) else m y) → News h₀ L h' news' → (∀ p ∈ news, p ∈ news') → Q' .next { s with heap := h', toks := tk' }) → wpAny M A (exec st env) Q' E s)
    (h2 : ∀ (Y : Int) (t : Tok) (h' : Heap) (tk' : Nat), Y = ilen y mo → Fr h₀ L h' (fun y => if y = Str.ofString "length" then some (.int Y t) else m y) → News h₀ L h' news → Q .next { s with heap := h', toks := tk' }) : wpAny M A (exec st env) Q E s :=
  h1 Q (fun {Y t h' tk' news'} a F' N' hs => h2 Y t h' tk' a F' (fun p hp => N' p (hs p hp)))
/-- four ints that a while loop turns -/
abbrev upd4 (n1 n2 n3 n4 : Str) (d y m l : Int) (t1 t2 t3 t4 : Tok) (f : Str → Option Value) : Str → Option Value := fun z => if z = n4 then some (.int l t4) else if z = n3 then some (.int m t3) else if z = n2 then some (.int y t2) else if z = n1 then some (.int d t1) else f z
theorem upd4_same {n1 n2 n3 n4 : Str} {d y m l : Int} {t1 t2 t3 t4 : Tok} {f : Str → Option Value} (h1 : f n1 = some (.int d t1)) (h2 : f n2 = some (.int y t2)) (h3 : f n3 = some (.int m t3)) (h4 : f n4 = some (.int l t4)) : upd4 n1 n2 n3 n4 d y m l t1 t2 t3 t4 f = f := by
  funext z
  unfold upd4
  split
  · rename_i h; rw [h, h4]
  · split
    · rename_i h; rw [h, h3]
    · split
      · rename_i h; rw [h, h2]
      · split
        · rename_i h; rw [h, h1]
        · rfl
theorem upd4_upd {n1 n2 n3 n4 : Str} {d y m l d' y' m' l' : Int} {t1 t2 t3 t4 t1' t2' t3' t4' : Tok} {f : Str → Option Value} : upd4 n1 n2 n3 n4 d' y' m' l' t1' t2' t3' t4' (upd4 n1 n2 n3 n4 d y m l t1 t2 t3 t4 f) = upd4 n1 n2 n3 n4 d' y' m' l' t1' t2' t3' t4' f := by
  funext z
  unfold upd4
  split
  · rfl
  · split
    · rfl
    · split
      · rfl
      · split
        · rfl
        · rfl
theorem while4 {env : Env} {test : Expr} {body : List Stmt} {pos : Pos} {f : Str → Option Value} {Q : Flow → Shared → Prop} (n1 n2 n3 n4 : Str) (P : Int → Int → Int → Int → Prop) {d₀ y₀ m₀ l₀ : Int} {t1 t2 t3 t4 : Tok}
    (F : Fr h₀ L s.heap f) (N : News h₀ L s.heap news) (hp : f n1 = some (.int d₀ t1)) (hy : f n2 = some (.int y₀ t2)) (hm : f n3 = some (.int m₀ t3)) (hl : f n4 = some (.int l₀ t4)) (h0 : P d₀ y₀ m₀ l₀)
    (turn : ∀ (T : Flow → Shared → Prop) (d y m l : Int) (t1 t2 t3 t4 : Tok) (h₁ : Heap) (tk₁ : Nat), Fr h₀ L h₁ (upd4 n1 n2 n3 n4 d y m l t1 t2 t3 t4 f) → News h₀ L h₁ news → P d y m l →
      (∀ {d' y' m' l' : Int} {t1' t2' t3' t4' : Tok} {h' : Heap} {tk' : Nat} {news' : List (Addr × Obj)}, d' < d → 0 ≤ d' → P d' y' m' l' → Fr h₀ L h' (upd4 n1 n2 n3 n4 d' y' m' l' t1' t2' t3' t4' (upd4 n1 n2 n3 n4 d y m l t1 t2 t3 t4 f)) → News h₀ L h' news' → (∀ p ∈ news, p ∈ news') → T .next { s with heap := h', toks := tk' }) →
      wpAny (model prog w) A (isTrue test env (eval test env)) (fun b s₂ =>
        if b = true then wpAny (model prog w) A (execs body env) T E s₂ else Q .next s₂) E { s with heap := h₁, toks := tk₁ })
    (hE : PassesOwn (model prog w) A env E) :
    wpAny (model prog w) A (exec (.While test body [] pos) env) Q E s := by
  refine While_inv (fun n m' news' => news' = news ∧ ∃ d y m l t1 t2 t3 t4, n = d.toNat ∧ m' = upd4 n1 n2 n3 n4 d y m l t1 t2 t3 t4 f ∧ P d y m l) (n₀ := d₀.toNat) F N ⟨rfl, d₀, y₀, m₀, l₀, t1, t2, t3, t4, rfl, (upd4_same hp hy hm hl).symm, h0⟩ ?_ hE
  rintro n m₁ news₁ h₁ tk₁ F₁ N₁ ⟨rfl, d, y, m, l, t1, t2, t3, t4, rfl, rfl, hP⟩
  refine turn _ d y m l t1 t2 t3 t4 h₁ tk₁ F₁ N₁ hP ?_
  intro d' y' m' l' t1' t2' t3' t4' h' tk' news' hlt h0' hP' F' N' hs
  rw [upd4_upd] at F'
  exact ⟨rfl, h', tk', _, _, d'.toNat, rfl, F', (fun p hp => N' p (hs p hp)), by omega, rfl, d', y', m', l', t1', t2', t3', t4', rfl, rfl, hP'⟩
end
end Mine
end part_Dt4

section part_Cal5
set_option linter.unusedVariables false
namespace Mine
theorem indJ_bd {y m : Int} (h : 1 ≤ y ∧ y ≤ 9921) (h1 : 1 ≤ m ∧ m ≤ 12) : 0 ≤ indJ y m 1 ∧ indJ y m 1 ≤ 19000000 := by
  have h2 := ioff_bd (y := y) h1.1 h1.2
  rw [indJ_is]
  have : 0 ≤ jan (y + 78) ∧ jan (y + 78) ≤ 4000000 := by unfold jan; omega
  omega
theorem ilen_12 {y m : Int} (h : ¬ m < 12) : ilen y m = 30 := by unfold ilen; rw [if_neg (by omega), if_neg (by omega)]
theorem IInv.nextE {c d y m l e : Int} (h : IInv c d y m l) (hl : l < d) (hm : m < 12) (he : e = ilen y (m + 1)) : IInv c (d - l) y (m + 1) e ∧ d - l < d ∧ 0 ≤ d - l := he ▸ h.next hl hm
theorem IInv.lastE {c d y m l e : Int} (h : IInv c d y m l) (hl : l < d) (hm : ¬ m < 12) (he : e = ilen (y + 1) 1) : IInv c (d - l) (y + 1) 1 e ∧ d - l < d ∧ 0 ≤ d - l := he ▸ h.last hl hm
end Mine
end part_Cal5

section part_Dt5
open PySem PySem.W PyProof.Rows PySem.Calls
set_option Elab.async false
set_option linter.unusedVariables false
set_option maxRecDepth 100000
namespace Mine
section
variable {prog : Program} {w : World} {A : Around} {E : Value → Shared → Prop} {s : Shared} {h₀ : Heap} {L : Addr} {news : List (Addr × Obj)}
/-- the frame behind a turn: number and days stand, the rest is forgotten -/
abbrev fnd (x d : Int) (tx td : Tok) (m : Str → Option Value) : Str → Option Value := fun y => if y = Str.ofString "number" then some (.float (fl2 x) tx) else if y = Str.ofString "days" then some (.int d td) else m y
theorem fnd_same {x d : Int} {tx td : Tok} {m : Str → Option Value} (a : m (Str.ofString "number") = some (.float (fl2 x) tx)) (b : m (Str.ofString "days") = some (.int d td)) : fnd x d tx td m = m := funext fun y => by
  unfold fnd
  split
  · rename_i h; rw [h, a]
  · split
    · rename_i h; rw [h, b]
    · rfl
/-- a turn of the loop over the kinds -/
theorem cutTurn {M : Model} {env : Env} {bs : List Stmt} {m : Str → Option Value} {Q : Flow → Shared → Prop} {x d : Int} {tx td : Tok} (F : Fr h₀ L s.heap m) (N : News h₀ L s.heap news)
    (hx : m (Str.ofString "number") = some (.float (fl2 x) tx)) (hd : m (Str.ofString "days") = some (.int d td))
    (h1 : ∀ Q' : Flow → Shared → Prop, (∀ {f : Flow} {m' : Str → Option Value} {h' : Heap} {tk' : Nat} {news' : List (Addr × Obj)}, (f = .next ∨ f = .cont) → m' (Str.ofString "number") = some (.float (fl2 x) tx) → m' (Str.ofString "days") = some (.int d td) → Fr h₀ L h' m' → News h₀ L h' news' → (∀ p ∈ news, p ∈ news') → Q' f { s with heap := h', toks := tk' }) → wpAny M A (execs bs env) Q' E s)
    (h2 : ∀ (m' : Str → Option Value) (h' : Heap) (tk' : Nat), Fr h₀ L h' (fnd x d tx td m') → News h₀ L h' news → Q .next { s with heap := h', toks := tk' } ∧ Q .cont { s with heap := h', toks := tk' }) : wpAny M A (execs bs env) Q E s :=
  h1 Q (fun {f m' h' tk' news'} e a b F' N' hs => by
    have := h2 m' h' tk' (by rw [fnd_same a b]; exact F') (fun p hp => N' p (hs p hp))
    rcases e with e | e <;> subst e
    · exact this.1
    · exact this.2)
end
end Mine
namespace Mine
theorem unr_both {h₀ : Heap} {L : Addr} {s₁ : Shared} {I : Addr} {it : Obj} {rest : (Str → Option Value) → List (Addr × Obj) → Prop} {Q : Flow → Shared → Prop} {s₂ : Shared}
    (h : UnrPost h₀ L s₁ I it rest Q .next s₂) : UnrPost h₀ L s₁ I it rest Q .next s₂ ∧ UnrPost h₀ L s₁ I it rest Q .cont s₂ := ⟨h, h⟩
end Mine
end part_Dt5

section part_WkAll
open PySem PySem.W PyProof.Rows PySem.Calls
set_option Elab.async false
set_option rowWalk.seconds 0
namespace Mine
set_option maxRecDepth 100000
set_option maxHeartbeats 0
local macro_rules | `(tactic| walk_at "my lit") => `(tactic| first | exact rfl | exact lit_half | exact lit_greg | exact lit_maya | exact lit_posi)
local macro_rules | `(tactic| walk_at "my bd") => `(tactic| (f_lean; first | (unfold Bd; omega) | omega))
local macro_rules | `(tactic| walk_at "binaryOp Add float float") => `(tactic| (refine' r_add_ff ?k1 ?k2 ?k3 ?k4 ?_; (case k1 => k_dflt (walk_at "my lit")); (case k2 => k_dflt (walk_at "my lit")); (case k3 => k_dflt (walk_at "my bd")); (case k4 => k_dflt (walk_at "my bd")); (try dsimp only)))
local macro_rules | `(tactic| walk_at "binaryOp Sub float float") => `(tactic| (refine' r_sub_ff ?k1 ?k2 ?k3 ?k4 ?k5 ?_; (case k1 => k_dflt (walk_at "my lit")); (case k2 => k_dflt (walk_at "my lit")); (case k3 => k_dflt (walk_at "my bd")); (case k4 => k_dflt (walk_at "my bd")); (case k5 => k_dflt (walk_at "my bd")); (try dsimp only)))
local macro_rules | `(tactic| walk_at "binaryOp Add float int") => `(tactic| (refine' r_add_qi ?k3 ?_; (case k3 => k_dflt (walk_at "my bd")); (try dsimp only)))
local macro_rules | `(tactic| walk_at "binaryOp Add float int") => `(tactic| (refine' r_add_fi ?k1 ?k2 ?k3 ?_; (case k1 => k_dflt (walk_at "my lit")); (case k2 => k_dflt (walk_at "my bd")); (case k3 => k_dflt (walk_at "my bd")); (try dsimp only)))
local macro_rules | `(tactic| walk_at "inplaceOp Add float int") => `(tactic| (refine' r_iadd_fi ?k1 ?k2 ?k3 ?_; (case k1 => k_dflt (walk_at "my lit")); (case k2 => k_dflt (walk_at "my bd")); (case k3 => k_dflt (walk_at "my bd")); (try dsimp only)))
local macro_rules | `(tactic| walk_at "binaryOp Add int float") => `(tactic| (refine' r_add_if ?k1 ?k2 ?k3 ?_; (case k1 => k_dflt (walk_at "my lit")); (case k2 => k_dflt (walk_at "my bd")); (case k3 => k_dflt (walk_at "my bd")); (try dsimp only)))
local macro_rules | `(tactic| walk_at "binaryOp Sub float int") => `(tactic| (refine' r_sub_fi ?k1 ?k2 ?k3 ?k4 ?_; (case k1 => k_dflt (walk_at "my lit")); (case k2 => k_dflt (walk_at "my bd")); (case k3 => k_dflt (walk_at "my bd")); (case k4 => k_dflt (walk_at "my bd")); (try dsimp only)))
local macro_rules | `(tactic| walk_at "inplaceOp Sub float int") => `(tactic| (refine' r_isub_fi ?k1 ?k2 ?k3 ?k4 ?_; (case k1 => k_dflt (walk_at "my lit")); (case k2 => k_dflt (walk_at "my bd")); (case k3 => k_dflt (walk_at "my bd")); (case k4 => k_dflt (walk_at "my bd")); (try dsimp only)))
local macro_rules | `(tactic| walk_at "binaryOp Mult float int") => `(tactic| (refine' r_mul_fi ?k1 ?k2 ?k3 ?k4 ?k5 ?_; (case k1 => k_dflt (walk_at "my lit")); (case k2 => k_dflt (walk_at "my bd")); (case k3 => k_dflt (walk_at "my bd")); (case k4 => k_dflt (walk_at "my bd")); (case k5 => k_dflt (walk_at "my bd")); (try dsimp only)))
local macro_rules | `(tactic| walk_at "binaryOp Div float int") => `(tactic| (refine' r_div_fi ?k1 ?k2 ?k3 ?_; (case k1 => k_dflt (walk_at "my lit")); (case k2 => k_dflt (walk_at "my bd")); (case k3 => k_dflt (walk_at "my bd")); (try dsimp only)))
local macro_rules | `(tactic| walk_at "binaryOp Div int int") => `(tactic| (refine' r_div_ii rfl ?k2 ?k3 ?_; (case k2 => k_dflt (walk_at "my bd")); (case k3 => k_dflt (walk_at "my bd")); (try dsimp only)))
local macro_rules | `(tactic| walk_at "binaryOp Mod float int") => `(tactic| (refine' r_mod_fi ?k1 ?k2 ?k3 ?k4 ?k5 ?_; (case k1 => k_dflt (walk_at "my lit")); (case k2 => k_dflt (walk_at "my bd")); (case k3 => k_dflt (walk_at "my bd")); (case k4 => k_dflt (walk_at "my bd")); (case k5 => k_dflt (walk_at "my bd")); (try dsimp only)))
local macro_rules | `(tactic| walk_at "binaryOp Mod int int") => `(tactic| (refine' r_mod_ii ?k2 ?_; (case k2 => k_dflt (walk_at "my bd")); (try dsimp only)))
local macro_rules | `(tactic| walk_at "binaryOp FloorDiv int int") => `(tactic| (refine' r_div_fd ?k2 ?k3 ?_; (case k2 => k_dflt (walk_at "my bd")); (case k3 => k_dflt (walk_at "my bd")); (try dsimp only)))
local macro_rules | `(tactic| walk_at "compareOp GtE float float") => `(tactic| (refine' r_ge_ff ?k1 ?k2 ?k3 ?k4 ?_; (case k1 => k_dflt (walk_at "my lit")); (case k2 => k_dflt (walk_at "my lit")); (case k3 => k_dflt (walk_at "my bd")); (case k4 => k_dflt (walk_at "my bd")); (try dsimp only)))
local macro_rules | `(tactic| walk_at "compareOp Lt float int") => `(tactic| (refine' r_lt_fi ?k1 ?k2 ?_; (case k1 => k_dflt (walk_at "my lit")); (case k2 => k_dflt (walk_at "my bd")); (try dsimp only)))
local macro_rules | `(tactic| walk_at "my floor") => `(tactic| (refine' q_floor_mq ?m1 ?m2 ?m3 ?m4 ?m5 ?m6 <;> walk_at "my bd"))
local macro_rules | `(tactic| walk_at "my floor") => `(tactic| (refine' q_floor_iq ?m1 ?m2 ?m3 ?m4 <;> walk_at "my bd"))
local macro_rules | `(tactic| walk_at "my floor") => `(tactic| (refine' q_floor_dq ?m1 ?m2 ?m3 ?m4 <;> walk_at "my bd"))
local macro_rules | `(tactic| walk_at "my floor") => `(tactic| (refine' q_floor_fl ?m1 ?m2 <;> walk_at "my bd"))
local macro_rules | `(tactic| walk_at "my trunc") => `(tactic| (refine' q_trunc_dq ?m1 ?m2 ?m3 ?m4 <;> walk_at "my bd"))
local macro_rules | `(tactic| walk_at "my trunc") => `(tactic| (refine' q_trunc_fl ?m1 ?m2 <;> walk_at "my bd"))
local macro_rules | `(tactic| walk_at "call builtin:math.floor") => `(tactic| ((with_reducible show wpAny _ _ (call _ [Value.float _ _]) _ _ _); (refine' r_floor_of rfl ?k1 ?_; (case k1 => k_dflt (walk_at "my floor")); (try dsimp only))))
local macro_rules | `(tactic| walk_at "call builtin:math.trunc") => `(tactic| ((with_reducible show wpAny _ _ (call _ [Value.float _ _]) _ _ _); (refine' r_trunc_of rfl ?k1 ?_; (case k1 => k_dflt (walk_at "my trunc")); (try dsimp only))))
local macro_rules | `(tactic| walk_at "call type:int") => `(tactic| ((with_reducible show wpAny _ _ (call _ [Value.float _ _]) _ _ _); (refine' r_int_of rfl ?k1 ?_; (case k1 => k_dflt (walk_at "my trunc")); (try dsimp only))))
local macro_rules | `(tactic| walk_at "my asks") => `(tactic| ((case k1 => k_asm); (case k2 => k_asm); (case k3 => k_asm); (case k4 => k_asm); (case k5 => k_asm); (case k6 => first | exact rfl | assumption); (case k7 => ktr_room); (case k8 => ktr_units)))
local macro_rules | `(tactic| walk_at "eval Name") => `(tactic| (k_here; name_kind "globalImplicit"; k_dflt (first | (refine' nameX_K ?F ?X ?T ?e ?_ ?a ?b; (case F => k_asm); (case X => k_asm); (case T => k_asm); (case a => rfl); (case b => rfl); (case e => k_is); k_whole) | (refine' nameX_B ?F ?X ?T ?e ?v ?n ?_ ?a ?b; (case F => k_asm); (case X => k_asm); (case T => k_asm); (case a => rfl); (case b => rfl); (case e => k_is); (case v => boot_fast); (case n => decide); k_whole))))
local macro_rules | `(tactic| walk_at "eval Name") => `(tactic| (k_here; name_kind "local"; k_dflt (refine' nameX_L ?F ?v ?_ ?a ?b; (case F => k_asm); (case a => rfl); (case b => rfl); (case v => rfl); k_whole)))
local macro_rules | `(tactic| walk_at "subscriptTail") => `(tactic| (k_here; (with_reducible show wpAny _ _ (subscriptTail _ _ (Value.ref _) (Value.int 0 _)) _ _ _); k_dflt (refine' item_iso0 ?N ?m ?_; (case N => k_asm); (case m => k_mem))))
local macro_rules | `(tactic| walk_at "subscriptTail") => `(tactic| (k_here; (with_reducible show wpAny _ _ (subscriptTail _ _ (Value.ref _) (Value.int 1 _)) _ _ _); k_dflt (refine' item_iso1 ?N ?m ?_; (case N => k_asm); (case m => k_mem))))
local macro_rules | `(tactic| walk_at "subscriptTail") => `(tactic| (k_here; (with_reducible show wpAny _ _ (subscriptTail _ _ (Value.ref _) (Value.int 2 _)) _ _ _); k_dflt (refine' item_iso2 ?N ?m ?_; (case N => k_asm); (case m => k_mem))))
local macro_rules | `(tactic| walk_at "call ref") => `(tactic| (k_dflt (refine' ClAt.use (c_len0 _ _ _ _) ?k1 ?k2 ?k3 ?k4 ?k5 ?k6 ?k7 ?k8 ?k9 ?_); (case k9 => omega); walk_at "my asks"; intro t9 h9 tk9 F9 N9; (try dsimp only); (try k_sweep); (try k_fold)))
local macro_rules | `(tactic| walk_at "call ref") => `(tactic| (k_dflt (refine' ClAt.use (c_len1 _ _ _ _) ?k1 ?k2 ?k3 ?k4 ?k5 ?k6 ?k7 ?k8 ?k9 ?_); (case k9 => omega); walk_at "my asks"; intro t9 h9 tk9 F9 N9; (try dsimp only); (try k_sweep); (try k_fold)))
local macro_rules | `(tactic| walk_at "call ref") => `(tactic| (k_dflt (refine' ClAt.use (c_len2 _ _ _ _) ?k1 ?k2 ?k3 ?k4 ?k5 ?k6 ?k7 ?k8 ?k9 ?_); (case k9 => omega); walk_at "my asks"; intro t9 h9 tk9 F9 N9; (try dsimp only); (try k_sweep); (try k_fold)))
local macro_rules | `(tactic| walk_at "call ref") => `(tactic| (k_dflt (refine' ClAt.use (c_due0 _ _ _ _ _ _) ?k1 ?k2 ?k3 ?k4 ?k5 ?k6 ?k7 ?k8 ?k9 ?_); (case k9 => (f_lean; omega)); walk_at "my asks"; intro y9 m9 d9 t9 t9b t9c q9 h9 tk9 hP9 F9 N9; (try dsimp only); (try k_sweep); (try k_fold)))
local macro_rules | `(tactic| walk_at "call ref") => `(tactic| (k_dflt (refine' ClAt.use (c_due2 _ _ _ _ _ _) ?k1 ?k2 ?k3 ?k4 ?k5 ?k6 ?k7 ?k8 ?k9 ?_); (case k9 => (f_lean; omega)); walk_at "my asks"; intro y9 m9 d9 t9 t9b t9c q9 h9 tk9 hP9 F9 N9; (try dsimp only); (try k_sweep); (try k_fold)))
local macro_rules | `(tactic| walk_at "call ref") => `(tactic| (k_dflt (refine' ClAt.use (c_due1 _ _ _ _ _ _) ?k1 ?k2 ?k3 ?k4 ?k5 ?k6 ?k7 ?k8 trivial ?_); walk_at "my asks"; intro y9 d9 t9 t9b q9 h9 tk9 hP9 F9 N9; (try dsimp only); (try k_sweep); (try k_fold)))
local macro_rules | `(tactic| walk_at "my ne") => `(tactic| ((case N => k_asm); (case ma => k_mem); (case mb => k_mem); (case u => ktr_units); (case h1 => (f_lean; omega)); (case h2 => (f_lean; omega)); (try (case h3 => (f_lean; omega))); (try dsimp only)))
local macro_rules | `(tactic| walk_at "compareOp NotEq ref ref") => `(tactic| (k_dflt (refine' r_ne3 ?N ?ma ?mb ?u ?h1 ?h2 ?h3 ?_; walk_at "my ne")))
local macro_rules | `(tactic| walk_at "compareOp NotEq ref ref") => `(tactic| (k_dflt (refine' r_ne2 ?N ?ma ?mb ?u ?h1 ?h2 ?_; walk_at "my ne")))
local macro_rules | `(tactic| walk_at "compareOp NotEq ref ref") => `(tactic| (k_dflt (refine' r_ne_ti ?N ?ma ?mb ?u ?h1 ?h2 ?h3 ?_; walk_at "my ne")))
local macro_rules | `(tactic| walk_at "compareOp NotEq ref ref") => `(tactic| (k_dflt (refine' r_ne_it ?N ?ma ?mb ?u ?h1 ?h2 ?h3 ?_; walk_at "my ne")))
local macro_rules | `(tactic| walk_at "call ref") => `(tactic| (k_dflt (refine' ClAt.use (c_odd _ _ _) ?k1 ?k2 ?k3 ?k4 ?k5 ?k6 ?k7 ?k8 ?k9 ?_); (case k9 => with_reducible assumption); walk_at "my asks"; intro b9 h9 tk9 hb9 F9 N9; (try dsimp only); (try k_sweep); (try k_fold)))
local macro_rules | `(tactic| walk_at "call ref") => `(tactic| (k_dflt (refine' ClAt.use (c_to_ind _ _ _ _ _ _ _) ?k1 ?k2 ?k3 ?k4 ?k5 ?k6 ?k7 ?k8 ?k9 ?_); (case k9 => (f_lean; omega)); walk_at "my asks"; intro t9 h9 tk9 F9 N9; (try dsimp only); (try k_sweep); (try k_fold)))
local macro_rules | `(tactic| walk_at "call type:reversed") => `(tactic| (k_dflt (refine' r_rev ?F ?N ?ma ?_; (case F => k_asm); (case N => k_asm); (case ma => k_mem)); intro D' h' tk' F' N' l1; (try k_lt l1); (try dsimp only)))
local macro_rules | `(tactic| walk_at "call type:zip") => `(tactic| (k_dflt (refine' r_zip ?hh ?F ?N ?ma ?mo ?_; (case hh => rfl); (case F => k_asm); (case N => k_asm); (case ma => k_mem); (case mo => (repeat (first | exact trivial | (refine ⟨?_, ?_⟩; (simp; done)))))); intro I' l1; (try k_lt l1); (try dsimp only)))
local macro_rules | `(tactic| walk_at "call builtin:list.append") => `(tactic| (k_dflt (refine' r_append (pre := [_, _, _, _, _, _, _]) ?F ?N ?o1 ?o2 ?sz ?_; (case F => k_asm); (case N => k_asm); (case o1 => (repeat (first | exact OffList.nil | refine OffList.cons (by dsimp only; first | exact ne_cls (by with_reducible assumption) (by simp) | (show Value.type _ ≠ Value.type _; simp)) ?_))); (case o2 => (repeat (first | exact OffList.nil | refine OffList.cons (by dsimp only; first | exact ne_cls (by with_reducible assumption) (by simp) | (show Value.type _ ≠ Value.type _; simp)) ?_))); (case sz => (simp; done))); intro h' F' N'; (try dsimp only [List.cons_append, List.nil_append] at N'); (try simp only [List.push_toArray, List.nil_append, List.cons_append] at N'); (try k_sweep)))
local macro_rules | `(tactic| walk_at "call type:tuple") => `(tactic| (k_dflt (refine' r_tuple_rev ?hh ?F ?N ?ma ?mo ?_; (case hh => rfl); (case F => k_asm); (case N => k_asm); (case ma => k_mem); (case mo => (repeat (first | exact OffLri.nil | refine OffLri.cons (by dsimp only; first | exact ne_cls (by with_reducible assumption) (by simp) | (show Value.type _ ≠ Value.type _; simp)) ?_)))); intro D' h' tk' F' N' l1; (try k_lt l1); (try dsimp only)))
theorem he_l1 {c d y m l l' : Int} (h : IInv c d y m l) (e : l' = l) : IInv c d y m l' := e ▸ h
theorem law_holds : PySem.Challenge.rw_ak5017_01.Holds := hd (by
  k_go0
  (all_goals try k_fold)
  repeat' ((fail_if_success (with_reducible show wpAny _ _ (exec (Stmt.Assign _ _ _) _) _ _ _)); first | (k_unfold; (try dsimp only)) | (k_end; wrow_close) | walk1 | (dsimp only; walk1) | (leave1; (try dsimp only)) | fail "no step")
  k_dflt (refine' cutNum ?F ?N ?h1 ?h2)
  case F => k_asm
  case N => k_asm
  case h1 =>
    intro Q' hQ
    walk1
    k_steps
    all_goals (refine' hQ ?hP ?hF ?hN; (case hF => k_asm); (case hN => k_asm); (case hP => (unfold OkNum; f_lean; omega)))
  case h2 =>
  intro x tx hx tkx pX FX NX
  have pX2 := pX
  unfold OkNum at pX2
  (try dsimp only); (try k_sweep); (try k_fold)
  repeat' ((fail_if_success (with_reducible show wpAny _ _ (exec (Stmt.Assign _ _ _) _) _ _ _)); first | (k_unfold; (try dsimp only)) | (k_end; wrow_close) | walk1 | (dsimp only; walk1) | (leave1; (try dsimp only)) | fail "no step")
  k_dflt (refine' cutDays ?F ?N ?h1 ?h2)
  case F => k_asm
  case N => k_asm
  case h1 =>
    intro Q' hQ
    walk1
    k_steps
    all_goals (refine' hQ ?hP ?hF ?hN; (case hF => k_asm); (case hN => k_asm); (case hP => (f_lean; omega)))
  case h2 =>
  intro d td hdd tkd pD FD ND
  (try dsimp only); (try k_sweep); (try k_fold)
  have hO1 : OkDay x := by unfold OkDay; omega
  have hO2 : OkDay (x + 2 * d) := by unfold OkDay; omega
  repeat' ((fail_if_success (with_reducible show wpAny _ _ (exec (Stmt.For _ _ _ _ _) _) _ _ _)); first | (k_unfold; (try dsimp only)) | (k_end; wrow_close) | walk1 | (dsimp only; walk1) | (leave1; (try dsimp only)) | fail "no step")
  k_dflt (refine' cutFor (x := x) (d := d) ?F ?N ?hx ?hd ?h1 ?h2)
  case F => k_asm
  case N => k_asm
  case hx => rfl
  case hd => rfl
  case h1 =>
    intro Q' hQ
    walk1
    repeat' ((fail_if_success (with_reducible show wpAny _ _ (execs (Stmt.If _ _ _ _ :: _) _) _ _ _)); first | (k_unfold; (try dsimp only)) | (k_end; wrow_close) | walk1 | (dsimp only; walk1) | (leave1; (try dsimp only)) | fail "no step")
    k_dflt (refine' cutTurn (x := x) (d := d) ?F ?N ?tx ?td ?ta0 ?tb0)
    case F => k_asm
    case N => k_asm
    case tx => rfl
    case td => rfl
    case ta0 =>
      intro Q0 hQ0
      -- kind 0
      repeat' ((fail_if_success (with_reducible show wpAny _ _ (call (Value.ref 179) _ _) _ _ _)); first | (k_unfold; (try dsimp only)) | (k_end; wrow_close) | walk1 | (dsimp only; walk1) | (leave1; (try dsimp only)) | fail "no step")
      k_dflt (refine' ClAt.use (c_date0 _ _ _ _) ?k1 ?k2 ?k3 ?k4 ?k5 ?k6 ?k7 ?k8 hO1 ?_)
      walk_at "my asks"
      intro Y W D t7 t7b t7c q7 h7 tk7 hP F7 N7
      (try k_sweep); (try dsimp only)
      have hPl := iso_pl hP
      have hI := Inv.y0 (Pl.inv hPl.1 pD (by omega) (by omega) rfl)
      have hPl2 := hPl.1
      unfold Pl at hPl2
      repeat' ((fail_if_success (with_reducible show wpAny _ _ (exec (Stmt.While _ _ _ _) _) _ _ _)); first | (k_unfold; (try dsimp only)) | (k_end; wrow_close) | walk1 | (dsimp only; walk1) | (leave1; (try dsimp only)) | fail "no step")
      k_dflt (refine' while3 (Str.ofString "place") (Str.ofString "year") (Str.ofString "length") (Inv 0 (st 0 Y + (7 * (W - 1) + D) + d)) ?F ?N ?hp ?hy ?hl ?h0 ?turn ?hE)
      case F => k_asm
      case N => k_asm
      case hp => rfl
      case hy => rfl
      case hl => rfl
      case h0 => exact Pl.inv hPl.1 pD (by omega) (by omega) rfl
      case hE => first | passes_own | with_unfolding_all passes_own
      case turn =>
      intro T p y l u1 u2 u3 h1 tk1 F1 N1 hI1 hT
      have hI2 := Inv.y0 hI1
      have hI3 := hI1
      unfold Inv at hI3
      (try k_sweep); (try dsimp only)
      repeat' ((fail_if_success (with_reducible show wpAny _ _ (call (Value.ref 179) _ _) _ _ _)); first | (k_unfold; (try dsimp only)) | (k_end; wrow_close) | walk1 | (dsimp only; walk1) | (leave1; (try dsimp only)) | fail "no step")
      · have hTu := Inv.turn hI1 (by with_reducible assumption)
        refine' hT hTu.2.1 hTu.2.2 hTu.1 ?F ?N
        case F => k_asm
        case N => k_asm
      have hPl3 := Inv.pl hI1 (by with_reducible assumption) hPl.1 rfl
      k_dflt (refine' ClAt.use (c_date0 _ _ _ _) ?k1 ?k2 ?k3 ?k4 ?k5 ?k6 ?k7 ?k8 hO2 ?_)
      walk_at "my asks"
      intro Y' W' D' t7 t7b t7c q7' h7 tk7 hP' F7 N7
      (try k_sweep); (try dsimp only)
      have hEn := iso_end hPl3 hP'
      have hp1 := hI3.2.1
      clear hI3 hPl3
      k_steps
      (refine' hQ0 (Or.inl rfl) ?eA ?eB ?F ?N ?S; (case F => k_asm); (case N => k_asm); (case eA => rfl); (case eB => rfl); (case S => kcj_all))
    case tb0 =>
    intro mb0 hb0 tkb0 Fb0 Nb0
    (try dsimp only); (try k_sweep); (try k_fold)
    refine unr_both ?_
    repeat' ((fail_if_success (with_reducible show wpAny _ _ (execs (Stmt.If _ _ _ _ :: _) _) _ _ _)); first | (k_unfold; (try dsimp only)) | (k_end; wrow_close) | walk1 | (dsimp only; walk1) | (leave1; (try dsimp only)) | fail "no step")
    k_dflt (refine' cutTurn (x := x) (d := d) ?F ?N ?tx ?td ?ta1 ?tb1)
    case F => k_asm
    case N => k_asm
    case tx => rfl
    case td => rfl
    case ta1 =>
      intro Q1 hQ1
      -- kind 1
      repeat' ((fail_if_success (with_reducible show wpAny _ _ (call (Value.ref 179) _ _) _ _ _)); first | (k_unfold; (try dsimp only)) | (k_end; wrow_close) | walk1 | (dsimp only; walk1) | (leave1; (try dsimp only)) | fail "no step")
      k_dflt (refine' ClAt.use (c_date1 _ _ _ _) ?k1 ?k2 ?k3 ?k4 ?k5 ?k6 ?k7 ?k8 hO1 ?_)
      walk_at "my asks"
      intro Y1 P1 t7 t7b q7 h7 tk7 hP F7 N7
      (try k_sweep); (try dsimp only)
      have hPl := ord_pl hP
      have hI := Inv.y1 (Pl.inv hPl.1 pD (by omega) (by omega) rfl)
      have hPl2 := hPl.1
      unfold Pl at hPl2
      repeat' ((fail_if_success (with_reducible show wpAny _ _ (exec (Stmt.While _ _ _ _) _) _ _ _)); first | (k_unfold; (try dsimp only)) | (k_end; wrow_close) | walk1 | (dsimp only; walk1) | (leave1; (try dsimp only)) | fail "no step")
      k_dflt (refine' while3 (Str.ofString "place") (Str.ofString "year") (Str.ofString "length") (Inv 1 (st 1 Y1 + P1 + d)) ?F ?N ?hp ?hy ?hl ?h0 ?turn ?hE)
      case F => k_asm
      case N => k_asm
      case hp => rfl
      case hy => rfl
      case hl => rfl
      case h0 => exact Pl.inv hPl.1 pD (by omega) (by omega) rfl
      case hE => first | passes_own | with_unfolding_all passes_own
      case turn =>
      intro T p y l u1 u2 u3 h1 tk1 F1 N1 hI1 hT
      have hI2 := Inv.y1 hI1
      have hI3 := hI1
      unfold Inv at hI3
      (try k_sweep); (try dsimp only)
      repeat' ((fail_if_success (with_reducible show wpAny _ _ (call (Value.ref 179) _ _) _ _ _)); first | (k_unfold; (try dsimp only)) | (k_end; wrow_close) | walk1 | (dsimp only; walk1) | (leave1; (try dsimp only)) | fail "no step")
      · have hTu := Inv.turn hI1 (by with_reducible assumption)
        refine' hT hTu.2.1 hTu.2.2 hTu.1 ?F ?N
        case F => k_asm
        case N => k_asm
      have hPl3 := Inv.pl hI1 (by with_reducible assumption) hPl.1 rfl
      k_dflt (refine' ClAt.use (c_date1 _ _ _ _) ?k1 ?k2 ?k3 ?k4 ?k5 ?k6 ?k7 ?k8 hO2 ?_)
      walk_at "my asks"
      intro Y1' P1' t7 t7b q7' h7 tk7 hP' F7 N7
      (try k_sweep); (try dsimp only)
      have hEn := ord_end hPl3 hP'
      have hp1 := hI3.2.1
      clear hI3 hPl3
      k_steps
      (refine' hQ1 (Or.inl rfl) ?eA ?eB ?F ?N ?S; (case F => k_asm); (case N => k_asm); (case eA => rfl); (case eB => rfl); (case S => kcj_all))
    case tb1 =>
    intro mb1 hb1 tkb1 Fb1 Nb1
    (try dsimp only); (try k_sweep); (try k_fold)
    refine unr_both ?_
    repeat' ((fail_if_success (with_reducible show wpAny _ _ (execs (Stmt.If _ _ _ _ :: _) _) _ _ _)); first | (k_unfold; (try dsimp only)) | (k_end; wrow_close) | walk1 | (dsimp only; walk1) | (leave1; (try dsimp only)) | fail "no step")
    k_dflt (refine' cutTurn (x := x) (d := d) ?F ?N ?tx ?td ?ta2 ?tb2)
    case F => k_asm
    case N => k_asm
    case tx => rfl
    case td => rfl
    case ta2 =>
      intro Q2 hQ2
      -- kind 2
      repeat' ((fail_if_success (with_reducible show wpAny _ _ (call (Value.ref 193) _ _) _ _ _)); first | (k_unfold; (try dsimp only)) | (k_end; wrow_close) | walk1 | (dsimp only; walk1) | (leave1; (try dsimp only)) | fail "no step")
      k_dflt (refine' ClAt.use (c_odd _ _ _) ?k1 ?k2 ?k3 ?k4 ?k5 ?k6 ?k7 ?k8 hO1 ?_)
      walk_at "my asks"
      intro b8 h8 tk8 hb8 F8 N8; (try dsimp only); (try k_sweep); (try k_fold)
      repeat' ((fail_if_success (with_reducible show wpAny _ _ (call (Value.ref 193) _ _) _ _ _)); (fail_if_success (with_reducible show wpAny _ _ (exec (Stmt.Continue _) _) _ _ _)); first | (k_unfold; (try dsimp only)) | (k_end; wrow_close) | walk1 | (dsimp only; walk1) | (leave1; (try dsimp only)) | fail "no step")
      · k_steps
        (refine' hQ2 (Or.inr rfl) ?eA ?eB ?F ?N ?S; (case F => k_asm); (case N => k_asm); (case eA => rfl); (case eB => rfl); (case S => kcj_all))
      k_dflt (refine' ClAt.use (c_odd _ _ _) ?k1 ?k2 ?k3 ?k4 ?k5 ?k6 ?k7 ?k8 hO2 ?_)
      walk_at "my asks"
      intro b9 h9 tk9 hb9 F9 N9; (try dsimp only); (try k_sweep); (try k_fold)
      repeat' ((fail_if_success (with_reducible show wpAny _ _ (call (Value.ref 179) _ _) _ _ _)); (fail_if_success (with_reducible show wpAny _ _ (exec (Stmt.Continue _) _) _ _ _)); first | (k_unfold; (try dsimp only)) | (k_end; wrow_close) | walk1 | (dsimp only; walk1) | (leave1; (try dsimp only)) | fail "no step")
      · k_steps
        (refine' hQ2 (Or.inr rfl) ?eA ?eB ?F ?N ?S; (case F => k_asm); (case N => k_asm); (case eA => rfl); (case eB => rfl); (case S => kcj_all))
      k_dflt (refine' ClAt.use (c_date2 _ _ _ _) ?k1 ?k2 ?k3 ?k4 ?k5 ?k6 ?k7 ?k8 ⟨hO1, hb8 (by with_reducible assumption)⟩ ?_)
      walk_at "my asks"
      intro Y2 M2 D2 t7 t7b t7c q7 h7 tk7 hP F7 N7
      (try k_sweep); (try dsimp only)
      have hPl := pos_pl hP
      have hI := Inv.y2 (Pl.inv hPl.1 pD (by omega) (by omega) rfl)
      have hPl2 := hPl.1
      unfold Pl at hPl2
      repeat' ((fail_if_success (with_reducible show wpAny _ _ (exec (Stmt.While _ _ _ _) _) _ _ _)); first | (k_unfold; (try dsimp only)) | (k_end; wrow_close) | walk1 | (dsimp only; walk1) | (leave1; (try dsimp only)) | fail "no step")
      k_dflt (refine' while3 (Str.ofString "place") (Str.ofString "year") (Str.ofString "length") (Inv 2 (st 2 Y2 + (28 * (M2 - 1) + D2) + d)) ?F ?N ?hp ?hy ?hl ?h0 ?turn ?hE)
      case F => k_asm
      case N => k_asm
      case hp => rfl
      case hy => rfl
      case hl => rfl
      case h0 => exact Pl.inv hPl.1 pD (by omega) (by omega) rfl
      case hE => first | passes_own | with_unfolding_all passes_own
      case turn =>
      intro T p y l u1 u2 u3 h1 tk1 F1 N1 hI1 hT
      have hI2 := Inv.y2 hI1
      have hI3 := hI1
      unfold Inv at hI3
      (try k_sweep); (try dsimp only)
      repeat' ((fail_if_success (with_reducible show wpAny _ _ (call (Value.ref 179) _ _) _ _ _)); first | (k_unfold; (try dsimp only)) | (k_end; wrow_close) | walk1 | (dsimp only; walk1) | (leave1; (try dsimp only)) | fail "no step")
      · have hTu := Inv.turn hI1 (by with_reducible assumption)
        refine' hT hTu.2.1 hTu.2.2 hTu.1 ?F ?N
        case F => k_asm
        case N => k_asm
      have hPl3 := Inv.pl hI1 (by with_reducible assumption) hPl.1 rfl
      k_dflt (refine' ClAt.use (c_date2 _ _ _ _) ?k1 ?k2 ?k3 ?k4 ?k5 ?k6 ?k7 ?k8 ⟨hO2, hb9 (by with_reducible assumption)⟩ ?_)
      walk_at "my asks"
      intro Y2' M2' D2' t7 t7b t7c q7' h7 tk7 hP' F7 N7
      (try k_sweep); (try dsimp only)
      have hEn := pos_end hPl3 hP'
      have hp1 := hI3.2.1
      clear hI3 hPl3
      k_steps
      (refine' hQ2 (Or.inl rfl) ?eA ?eB ?F ?N ?S; (case F => k_asm); (case N => k_asm); (case eA => rfl); (case eB => rfl); (case S => kcj_all))
    case tb2 =>
    intro mb2 hb2 tkb2 Fb2 Nb2
    (try dsimp only); (try k_sweep); (try k_fold)
    refine unr_both ?_
    k_steps
    (refine' hQ ?eA ?eB ?F ?N; (case F => k_asm); (case N => k_asm); (case eA => rfl); (case eB => rfl))
  case h2 =>
  intro m' hFo tkFo FFo NFo
  (try dsimp only); (try k_sweep); (try k_fold)
  repeat' ((fail_if_success (with_reducible show wpAny _ _ (call (Value.ref 123) _ _) _ _ _)); first | (k_unfold; (try dsimp only)) | (k_end; wrow_close) | walk1 | (dsimp only; walk1) | (leave1; (try dsimp only)) | fail "no step")
  have hso : 0 ≤ d % 1200 ∧ d % 1200 < 1200 := by omega
  have hO3 : OkDay (x + 2 * (d % 1200)) := by unfold OkDay; omega
  k_dflt (refine' ClAt.use (c_from_ind _ _ _) ?k1 ?k2 ?k3 ?k4 ?k5 ?k6 ?k7 ?k8 hO1 ?_)
  walk_at "my asks"
  intro iy im idd t7 t7b t7c q7 h7 tk7 hIn F7 N7
  (try k_sweep); (try dsimp only)
  have hIp := ind_pl hIn
  have hIb := indJ_bd (y := iy) (m := im) (by omega) (by omega)
  have hIl : im < 12 → indJ iy (im + 1) 1 = indJ iy im 1 + 2 * ilen iy im := fun h => ind_len (by omega) h
  have hIm : ¬ im < 12 → ilen iy im = 30 := ilen_12
  have hIk := ilen_bd iy im
  have hIt := hIp.2
  repeat' ((fail_if_success (with_reducible show wpAny _ _ (exec (Stmt.Assign [Expr.Name _ _] (Expr.IfExp _ _ _ _) _) _) _ _ _)); first | (k_unfold; (try dsimp only)) | (k_end; wrow_close) | walk1 | (dsimp only; walk1) | (leave1; (try dsimp only)) | fail "no step")
  k_dflt (refine' cutLen iy im ?F ?N ?h1 ?h2)
  case F => k_asm
  case N => k_asm
  case h1 =>
    intro Q' hQ
    walk1
    k_steps
    all_goals (refine' hQ ?eL ?F ?N ?S; (case F => k_asm); (case N => k_asm); (case S => kcj_all); (case eL => (f_lean; omega)))
  case h2 =>
  intro il tl hil tkl hLen FL NL
  (try dsimp only); (try k_sweep); (try k_fold)
  repeat' ((fail_if_success (with_reducible show wpAny _ _ (exec (Stmt.While _ _ _ _) _) _ _ _)); first | (k_unfold; (try dsimp only)) | (k_end; wrow_close) | walk1 | (dsimp only; walk1) | (leave1; (try dsimp only)) | fail "no step")
  k_dflt (refine' while4 (Str.ofString "day") (Str.ofString "year") (Str.ofString "month") (Str.ofString "length") (IInv (jan (iy + 78) + ioff iy im + idd + d % 1200)) ?F ?N ?hp ?hy ?hm ?hl ?h0 ?turn ?hE)
  case F => k_asm
  case N => k_asm
  case hp => rfl
  case hy => rfl
  case hm => rfl
  case hl => rfl
  case h0 => exact ind_start hIp.1 hso (by omega) (by omega) hLen
  case hE => first | passes_own | with_unfolding_all passes_own
  case turn =>
  intro T e y m l u1 u2 u3 u4 h1 tk1 F1 N1 hI1 hT
  have hI2 := IInv.bd hI1
  have f1 : m + 1 < 12 → indJ y (m + 1 + 1) 1 = indJ y (m + 1) 1 + 2 * ilen y (m + 1) := fun h => ind_len (by omega) h
  have f2 : m < 12 → 0 ≤ indJ y (m + 1) 1 ∧ indJ y (m + 1) 1 ≤ 19000000 := fun h => indJ_bd (by omega) (by omega)
  have f3 : ¬ m + 1 < 12 → ilen y (m + 1) = 30 := ilen_12
  have f4 : indJ (y + 1) (1 + 1) 1 = indJ (y + 1) 1 1 + 2 * ilen (y + 1) 1 := ind_len (by decide) (by decide)
  have f5 := indJ_bd (y := y + 1) (m := 1) (by omega) (by decide)
  have f6 := ilen_bd y (m + 1)
  have f7 := ilen_bd (y + 1) 1
  clear hIl hIm hIk hIb
  (try k_sweep); (try dsimp only)
  repeat' ((fail_if_success (with_reducible show wpAny _ _ (call (Value.ref 123) _ _) _ _ _)); first | (k_unfold; (try dsimp only)) | (k_end; wrow_close) | walk1 | (dsimp only; walk1) | (leave1; (try dsimp only)) | fail "no step")
  · have hNx := IInv.nextE (e := ilen y (m + 1)) hI1 (by with_reducible assumption) (by with_reducible assumption) rfl
    refine' hT hNx.2.1 hNx.2.2 (he_l1 hNx.1 ?hl) ?F ?N ?S
    case F => k_asm
    case N => k_asm
    case S => kcj_all
    case hl => (f_lean; omega)
  · have hNx := IInv.nextE (e := ilen y (m + 1)) hI1 (by with_reducible assumption) (by with_reducible assumption) rfl
    refine' hT hNx.2.1 hNx.2.2 (he_l1 hNx.1 ?hl) ?F ?N ?S
    case F => k_asm
    case N => k_asm
    case S => kcj_all
    case hl => (f_lean; omega)
  · have hNx := IInv.lastE (e := ilen (y + 1) 1) hI1 (by with_reducible assumption) (by with_reducible assumption) rfl
    refine' hT hNx.2.1 hNx.2.2 (he_l1 hNx.1 ?hl) ?F ?N ?S
    case F => k_asm
    case N => k_asm
    case S => kcj_all
    case hl => (f_lean; omega)
  have hDn := ind_done hIp.1 rfl hI1 (by with_reducible assumption)
  clear f1 f2 f3 f4 f5 f6 f7
  k_dflt (refine' ClAt.use (c_from_ind _ _ _) ?k1 ?k2 ?k3 ?k4 ?k5 ?k6 ?k7 ?k8 hO3 ?_)
  walk_at "my asks"
  intro jy jm jdd t8 t8b t8c q8 h8 tk8 hJn F8 N8
  (try k_sweep); (try dsimp only)
  have hEn := ind_end hDn hJn
  repeat' ((fail_if_success (with_reducible show wpAny _ _ (exec (Stmt.For _ _ _ _ _) _) _ _ _)); first | (k_unfold; (try dsimp only)) | (k_end; wrow_close) | walk1 | (dsimp only; walk1) | (leave1; (try dsimp only)) | fail "no step")
  (rename Fr _ _ _ _ => lF')
  with_unfolding_all refine' For_turns lF' ?_
  repeat' ((fail_if_success (with_reducible show wpAny _ _ (call (Value.ref 130) _ _) _ _ _)); first | (k_unfold; (try dsimp only)) | (k_end; wrow_close) | walk1 | (dsimp only; walk1) | (leave1; (try dsimp only)) | fail "no step")
  k_dflt (refine' ClAt.use (c_may _ _ _) ?k1 ?k2 ?k3 ?k4 ?k5 ?k6 ?k7 ?k8 hO1 ?_)
  walk_at "my asks"
  intro ba bb bc bd be v1 v2 v3 v4 v5 q9 h9 tk9 hMy F9 N9
  (try k_sweep); (try dsimp only)
  repeat' ((fail_if_success (with_reducible show wpAny _ _ (call (Value.type "zip") _ _) _ _ _)); first | (k_unfold; (try dsimp only)) | (k_end; wrow_close) | walk1 | (dsimp only; walk1) | (leave1; (try dsimp only)) | fail "no step")
  k_dflt (refine' r_zip ?hh ?F ?N ?ma ?mo ?_)
  case hh => rfl
  case F => k_asm
  case N => k_asm
  case ma => k_mem
  case mo => (repeat (first | exact OffRev.nil | refine OffRev.cons (by show Value.type _ ≠ Value.type _; simp) ?_))
  intro I' l1; (try k_lt l1); (try dsimp only)
  repeat' ((fail_if_success (with_reducible show wpAny _ _ (call (Value.ref 130) _ _) _ _ _)); first | (k_unfold; (try dsimp only)) | (k_end; wrow_close) | walk1 | (dsimp only; walk1) | (leave1; (try dsimp only)) | fail "no step")
  k_dflt (refine' ClAt.use (c_may _ _ _) ?k1 ?k2 ?k3 ?k4 ?k5 ?k6 ?k7 ?k8 hO2 ?_)
  walk_at "my asks"
  intro ca cb cc cd' ce u1' u2' u3' u4' u5' q10 h10 tk10 hMy2 F10 N10
  (try k_sweep); (try dsimp only)
  repeat' ((fail_if_success (with_reducible show wpAny _ _ (compareOp _ _ _) _ _ _)); first | (k_unfold; (try dsimp only)) | (k_end; wrow_close) | walk1 | (dsimp only; walk1) | (leave1; (try dsimp only)) | fail "no step")
  have hE5 := may_end hMy hMy2 pD.1
  k_dflt (refine' r_eq5 ?N ?ma ?mb ?u ?h1 ?h2 ?h3 ?h4 ?h5 ?_)
  case N => k_asm
  case ma => k_mem
  case mb => k_mem
  case u => ktr_units
  case h1 => (f_lean; omega)
  case h2 => (f_lean; omega)
  case h3 => (f_lean; omega)
  case h4 => (f_lean; omega)
  case h5 => (f_lean; omega)
  (try dsimp only)
  k_steps)
end Mine
end part_WkAll
set_option maxRecDepth 100000 in
set_option maxHeartbeats 8000000 in
theorem PySem.Challenge.cw_ak5017_01_holds : PySem.Challenge.rw_ak5017_01.Holds := by
  exact Mine.law_holds
