import PyProof.Rows.All
import Wide.All
import OpenK.AllK
import Wide.FinOn
import PySem.Challenge.RW_ba5006_01
set_option Elab.async false
set_option maxRecDepth 100000
set_option maxHeartbeats 8000000

namespace Mine
open PySem PySem.W PyProof.Rows
open_top hd for PySem.Challenge.rw_ba5006_01

end Mine

namespace Mine
open PySem PySem.Float64

/-- the float of n / 2 -/
def hf (n : Int) : UInt64 := ofFrac (decide (n < 0)) n.natAbs 2

theorem V_inj {a b : Nat} (h : V a = V b) : a = b := by
  rcases Nat.lt_trichotomy a b with h1 | h1 | h1
  · have := V_lt h1; omega
  · exact h1
  · have := V_lt h1; omega

theorem dist_zero {a b : Nat} (h : dist a b = 0) : a = b := by unfold dist at h; omega
theorem dist_self (a : Nat) : dist a a = 0 := by unfold dist; omega

theorem exact_of {r : UInt64} {neg : Bool} {W D t0 : Nat} (hD : 0 < D) (h : Right r neg W D) (hW : W = D * V t0) (h0 : t0 < infMag) : r = pack neg t0 := by
  obtain ⟨t, hr, hle, hov, hn⟩ := h
  have hlt : t < infMag := by
    refine Nat.lt_of_le_of_ne hle fun e => ?_
    have h1 := hov.mp e
    have h2 : V t0 ≤ V (infMag - 1) := V_mono (by omega)
    have h3 : V (infMag - 1) = (2 ^ 53 - 1) * 2 ^ 2045 := by
      have : infMag - 1 = 2045 * 2 ^ 52 + (2 ^ 53 - 1) := by decide
      rw [this]
      exact V_at (by decide) (.inl (by decide))
    rw [h3] at h2
    rw [hW] at h1
    have h4 : D * V t0 ≤ D * ((2 ^ 53 - 1) * 2 ^ 2045) := Nat.mul_le_mul_left _ h2
    have hK : 0 < (2 : Nat) ^ 2045 := Nat.two_pow_pos _
    generalize (2 : Nat) ^ 2045 = K at *
    have h5 : D * ((2 ^ 54 - 1) * K) = (2 ^ 54 - 1) * (D * K) := by ac_rfl
    have h6 : D * ((2 ^ 53 - 1) * K) = (2 ^ 53 - 1) * (D * K) := by ac_rfl
    rw [h5] at h1
    rw [h6] at h4
    have h7 : 0 < D * K := Nat.mul_pos hD hK
    omega
  have h1 := (hn hlt t0).1
  rw [hW, dist_self] at h1
  have h2 : D * V t0 = D * V t := dist_zero (by omega)
  have h3 := Nat.eq_of_mul_eq_mul_left hD h2
  rw [hr, V_inj h3]

/-- every whole number below 2 ^ 53, halved, is a float -/
theorem has_float (k : Nat) (h : k < 2 ^ 53) (j : Nat) (hj : 60 ≤ j) (hj2 : j ≤ 1100) : ∃ t, t < infMag ∧ V t = k * 2 ^ j := by
  by_cases hk : k = 0
  · refine ⟨0, by decide, ?_⟩
    rw [hk, V_zero, Nat.zero_mul]
  · have hl : k.log2 < 53 := (Nat.log2_lt hk).mpr h
    have hlo : 2 ^ k.log2 ≤ k := Nat.log2_self_le hk
    have hhi : k < 2 ^ (k.log2 + 1) := Nat.lt_log2_self
    let s := 52 - k.log2
    have es : k.log2 + s = 52 := by omega
    have q1 : 2 ^ 52 ≤ k * 2 ^ s := by
      rw [← es, Nat.pow_add]
      exact Nat.mul_le_mul_right _ hlo
    have q2 : k * 2 ^ s ≤ 2 ^ 53 := by
      have : (2 : Nat) ^ 53 = 2 ^ (k.log2 + 1) * 2 ^ s := by rw [← Nat.pow_add]; congr 1; omega
      rw [this]
      exact Nat.mul_le_mul_right _ (Nat.le_of_lt hhi)
    have q3 : k * 2 ^ s < 2 ^ 53 := by
      have : (2 : Nat) ^ 53 = 2 ^ (k.log2 + 1) * 2 ^ s := by rw [← Nat.pow_add]; congr 1; omega
      rw [this]
      exact Nat.mul_lt_mul_of_pos_right hhi (Nat.two_pow_pos _)
    refine ⟨(j - s) * 2 ^ 52 + k * 2 ^ s, ?_, ?_⟩
    · have : infMag = 2047 * 2 ^ 52 := rfl
      have : (j - s) ≤ 1100 := by omega
      omega
    · rw [V_at q2 (.inl q1), Nat.mul_assoc, ← Nat.pow_add]
      congr 2
      omega

theorem pow1074 : (2 : Nat) ^ 1074 = 2 * 2 ^ 1073 := by rw [show 1074 = 1073 + 1 from rfl, Nat.pow_succ, Nat.mul_comm]
theorem hf_right (n : Int) : Right (hf n) (decide (n < 0)) (n.natAbs * 2 ^ 1073) 1 := by
  unfold hf
  refine ofFrac_right (by decide) ?_ (by decide)
  rw [pow1074]
  generalize (2 : Nat) ^ 1073 = K
  rw [Nat.mul_one, Nat.mul_assoc]
  ac_rfl
theorem hf_pack {n : Int} (h : n.natAbs < 2 ^ 53) : ∃ t, t < infMag ∧ V t = n.natAbs * 2 ^ 1073 ∧ hf n = pack (decide (n < 0)) t := by
  obtain ⟨t, ht, hv⟩ := has_float n.natAbs h 1073 (by decide) (by decide)
  exact ⟨t, ht, hv, exact_of (by decide) (hf_right n) (by rw [hv, Nat.one_mul]) ht⟩
theorem hf_of_right {r : UInt64} {n : Int} {neg : Bool} {W D : Nat} (h : n.natAbs < 2 ^ 53) (hD : 0 < D) (hr : Right r neg W D) (hn : neg = decide (n < 0)) (hW : W = D * (n.natAbs * 2 ^ 1073)) : r = hf n := by
  obtain ⟨t, ht, hv, hp⟩ := hf_pack h
  rw [hp, ← hn]
  exact exact_of hD hr (by rw [hW, hv]) ht
theorem hf_decode {n : Int} (h : n.natAbs < 2 ^ 53) : ∃ m e, decode (hf n) = .fin (decide (n < 0)) m e ∧ m * 2 ^ (e + 1074).toNat = n.natAbs * 2 ^ 1073 := by
  obtain ⟨t, ht, hv, hp⟩ := hf_pack h
  obtain ⟨m, e, hd, hm⟩ := decode_pack (decide (n < 0)) ht
  exact ⟨m, e, by rw [hp]; exact hd, by rw [hm, hv]⟩
theorem sgn_abs (n : Int) : sgn (decide (n < 0)) n.natAbs = n := by
  unfold sgn
  by_cases h : n < 0
  · simp [h]; omega
  · simp [h]; omega
theorem hf_val {n : Int} (h : n.natAbs < 2 ^ 53) : val (hf n) = n * ((2 ^ 1073 : Nat) : Int) := by
  obtain ⟨m, e, hd, hm⟩ := hf_decode h
  rw [val_eq hd, hm, sgn_mul, sgn_abs]

theorem hf_zero : hf 0 = zero false := by decide +kernel
theorem Kpos : (0 : Int) < ((2 ^ 1073 : Nat) : Int) := Int.ofNat_lt.mpr (Nat.two_pow_pos _)

theorem ofInt_hf {i : Int} (h : i.natAbs < 2 ^ 52) : ofInt i = hf (2 * i) := by
  refine hf_of_right (by omega) (by decide) (ofInt_right i) (by simp only [decide_eq_decide]; omega) ?_
  rw [pow1074]
  have : (2 * i).natAbs = 2 * i.natAbs := by omega
  rw [this]
  generalize (2 : Nat) ^ 1073 = K
  rw [Nat.one_mul, Nat.mul_comm 2 i.natAbs, Nat.mul_assoc]

theorem add_hf {a b : Int} (ha : a.natAbs < 2 ^ 51) (hb : b.natAbs < 2 ^ 51) : add (hf a) (hf b) = hf (a + b) := by
  obtain ⟨m, e, hd, hm⟩ := hf_decode (n := a) (by omega)
  obtain ⟨k, f, hd', hm'⟩ := hf_decode (n := b) (by omega)
  have h := add_right hd hd'
  rw [hf_val (n := a) (by omega), hf_val (n := b) (by omega), ← Int.add_mul] at h
  have hK := Kpos
  by_cases hz : a + b = 0
  · rw [h.1 (by rw [hz, Int.zero_mul]), hz, hf_zero]
    congr 1
    by_cases h1 : a < 0 <;> by_cases h2 : b < 0 <;> simp [h1, h2]
    omega
  · have hne : (a + b) * ((2 ^ 1073 : Nat) : Int) ≠ 0 := by
      intro e
      rcases Int.mul_eq_zero.mp e with h1 | h1
      · exact hz h1
      · omega
    refine hf_of_right (by omega) (by decide) (h.2 hne) ?_ ?_
    · simp only [decide_eq_decide]
      constructor
      · intro h1
        refine Int.not_le.mp fun h2 => ?_
        have := Int.mul_nonneg h2 (Int.le_of_lt hK)
        omega
      · intro h1
        exact Int.mul_neg_of_neg_of_pos h1 hK
    · rw [Int.natAbs_mul, Int.natAbs_natCast, Nat.one_mul]

theorem sub_hf {a b : Int} (ha : a.natAbs < 2 ^ 51) (hb : b.natAbs < 2 ^ 51) : sub (hf a) (hf b) = hf (a - b) := by
  obtain ⟨m, e, hd, hm⟩ := hf_decode (n := a) (by omega)
  obtain ⟨k, f, hd', hm'⟩ := hf_decode (n := b) (by omega)
  have h := sub_right hd hd'
  rw [hf_val (n := a) (by omega), hf_val (n := b) (by omega), ← Int.sub_mul] at h
  have hK := Kpos
  by_cases hz : a - b = 0
  · rw [h.1 (by rw [hz, Int.zero_mul]), hz, hf_zero]
    congr 1
    by_cases h1 : a < 0 <;> by_cases h2 : b < 0 <;> simp [h1, h2]
    omega
  · have hne : (a - b) * ((2 ^ 1073 : Nat) : Int) ≠ 0 := by
      intro e
      rcases Int.mul_eq_zero.mp e with h1 | h1
      · exact hz h1
      · omega
    refine hf_of_right (by omega) (by decide) (h.2 hne) ?_ ?_
    · simp only [decide_eq_decide]
      constructor
      · intro h1
        refine Int.not_le.mp fun h2 => ?_
        have := Int.mul_nonneg h2 (Int.le_of_lt hK)
        omega
      · intro h1
        exact Int.mul_neg_of_neg_of_pos h1 hK
    · rw [Int.natAbs_mul, Int.natAbs_natCast, Nat.one_mul]

theorem hf_nonneg {a : Int} (h : 0 ≤ a) : decide (a < 0) = false := by simp; omega

theorem mul_hf {a b : Int} (ha : 0 ≤ a) (hb : 0 ≤ b) (ha2 : a < 2 ^ 25) (hb2 : b < 2 ^ 25) : mul (hf (2 * a)) (hf (2 * b)) = hf (2 * (a * b)) := by
  obtain ⟨m, e, hd, hm⟩ := hf_decode (n := 2 * a) (by omega)
  obtain ⟨k, f, hd', hm'⟩ := hf_decode (n := 2 * b) (by omega)
  have h := mul_right hd hd'
  rw [hf_val (n := 2 * a) (by omega), hf_val (n := 2 * b) (by omega)] at h
  have hab : 0 ≤ a * b := Int.mul_nonneg ha hb
  have hlt : a * b < 2 ^ 50 := by
    have h1 : a * b ≤ a * 2 ^ 25 := Int.mul_le_mul_of_nonneg_left (by omega) ha
    omega
  refine hf_of_right (by omega) (Nat.two_pow_pos _) h ?_ ?_
  · rw [hf_nonneg (by omega), hf_nonneg (by omega), hf_nonneg (by omega)]
    rfl
  · rw [Int.natAbs_mul (2 * a), Int.natAbs_mul (2 * b), Int.natAbs_natCast, pow1074]
    have e1 : (2 * (a * b)).natAbs = 2 * (a.natAbs * b.natAbs) := by rw [Int.natAbs_mul, Int.natAbs_mul]; rfl
    have e2 : (2 * a).natAbs = 2 * a.natAbs := by omega
    have e3 : (2 * b).natAbs = 2 * b.natAbs := by omega
    rw [e1, e2, e3]
    generalize (2 : Nat) ^ 1073 = K
    ac_rfl

theorem hf_fin {n : Int} (h : n.natAbs < 2 ^ 53) : isFinite (hf n) = true := by
  obtain ⟨m, e, hd, _⟩ := hf_decode h
  unfold isFinite
  rw [hd]

/-- floor of a decoded float, by its value times 2 ^ 1074 -/
theorem floorOf_val (s : Bool) (m : Nat) (e : Int) (he : -1074 ≤ e) : floorOf s m e = (sgn s (m * 2 ^ (e + 1074).toNat)) / ((2 ^ 1074 : Nat) : Int) := by
  have hpow : ∀ n : Nat, ((2 ^ n : Nat) : Int) = (2 : Int) ^ n := fun n => by simp
  have hpos : ∀ n : Nat, (0 : Int) < ((2 ^ n : Nat) : Int) := fun n => Int.ofNat_lt.mpr (Nat.two_pow_pos _)
  unfold floorOf
  rw [sgn_mul]
  split
  · rename_i h
    have e1 : (e + 1074).toNat = e.toNat + 1074 := by omega
    rw [e1, Nat.pow_add, Int.natCast_mul, ← Int.mul_assoc, Int.mul_ediv_cancel _ (Int.ne_of_gt (hpos 1074)), ← hpow]
  · rename_i h
    have e1 : (1074 : Nat) = (-e).toNat + (e + 1074).toNat := by omega
    have e2 : (2 ^ 1074 : Nat) = 2 ^ (-e).toNat * 2 ^ (e + 1074).toNat := by rw [← Nat.pow_add, ← e1]
    rw [e2, Int.natCast_mul, Int.mul_ediv_mul_of_pos_left _ _ (hpos _), Int.fdiv_eq_ediv_of_nonneg _ (by rw [← hpow]; exact Int.le_of_lt (hpos _)), ← hpow]

theorem toInt_floor {x : UInt64} {s : Bool} {m : Nat} {e : Int} (h : decode x = .fin s m e) : Flt.toInt floorOf x = val x / ((2 ^ 1074 : Nat) : Int) := by
  rw [Flt.toInt_fin h, floorOf_val _ _ _ (decode_ge h), val_eq h]

theorem floor_hf {n : Int} (h : n.natAbs < 2 ^ 53) : Flt.toInt floorOf (hf n) = n / 2 := by
  obtain ⟨m, e, hd, hm⟩ := hf_decode h
  rw [toInt_floor hd, hf_val h, pow1074, Int.natCast_mul]
  have hK := Kpos
  generalize ((2 ^ 1073 : Nat) : Int) = K at *
  rw [Int.mul_ediv_mul_of_pos_left _ _ hK]
  rfl

theorem trunc_hf {n : Int} (h : n.natAbs < 2 ^ 51) : Flt.toInt truncOf (hf (2 * n)) = n := by
  obtain ⟨m, e, hd, hm⟩ := hf_decode (n := 2 * n) (by omega)
  rw [Flt.toInt_fin hd]
  unfold truncOf
  have hge := decode_ge hd
  have hK := Kpos
  by_cases hn : 2 * n < 0
  · rw [if_pos (by simpa using hn)]
    unfold ceilOf
    rw [floorOf_val _ _ _ hge, hm]
    simp only [hn, decide_true, Bool.not_true]
    have : sgn false ((2 * n).natAbs * 2 ^ 1073) = -n * ((2 ^ 1074 : Nat) : Int) := by
      unfold sgn
      simp only [Bool.false_eq_true, if_false]
      rw [pow1074]
      generalize (2 : Nat) ^ 1073 = K
      have e1 : (2 * n).natAbs = (-n).toNat * 2 := by omega
      rw [e1, Nat.mul_assoc, Int.natCast_mul]
      congr 1
      omega
    rw [this, Int.mul_ediv_cancel _ (by rw [pow1074]; omega)]
    omega
  · rw [if_neg (by simpa using hn), ← toInt_fin' hd, floor_hf (by omega)]
    omega
where
  toInt_fin' {x : UInt64} {s : Bool} {m : Nat} {e : Int} (h : decode x = .fin s m e) : Flt.toInt floorOf x = floorOf s m e := Flt.toInt_fin h

theorem sgn_pos {n : Int} (h : 0 ≤ n) (M : Nat) : sgn (decide (n < 0)) M = (M : Int) := by
  rw [hf_nonneg h]; rfl

/-- the floor of a rounded quotient of small whole numbers is the quotient's floor -/
theorem floor_right {r : UInt64} {W D a b : Nat} (hr : Right r false W D) (hD : 0 < D) (hb : 0 < b) (hW : W * b = a * 2 ^ 1074 * D) (hb2 : b ≤ 2 ^ 29) (hq : a / b < 2 ^ 22) : Flt.toInt floorOf r = ((a / b : Nat) : Int) ∧ isFinite r = true := by
  obtain ⟨t, hr, hle, hov, hn⟩ := hr
  have hqb := Nat.div_add_mod a b
  have hmb := Nat.mod_lt a hb
  generalize hqe : a / b = q at *
  generalize a % b = c at *
  have hlt : t < infMag := by
    refine Nat.lt_of_le_of_ne hle fun e => ?_
    have h1 := hov.mp e
    have h2 : D * ((2 ^ 54 - 1) * 2 ^ 2045) * b ≤ 2 * W * b := Nat.mul_le_mul_right _ h1
    rw [Nat.mul_assoc 2 W b, hW] at h2
    have h3 : a < 2 ^ 22 * 2 ^ 29 := by
      have : a < (q + 1) * b := by rw [Nat.add_mul, Nat.mul_comm q b]; omega
      have h4 : (q + 1) * b ≤ 2 ^ 22 * 2 ^ 29 := Nat.mul_le_mul (by omega) hb2
      omega
    have e2 : (2 : Nat) ^ 2045 = 2 ^ 971 * 2 ^ 1074 := by rw [← Nat.pow_add]
    rw [e2] at h2
    have hK : 0 < (2 : Nat) ^ 1074 := Nat.two_pow_pos _
    have hJ : 2 ^ 60 ≤ (2 : Nat) ^ 971 := Nat.pow_le_pow_right (by decide) (by decide)
    generalize (2 : Nat) ^ 1074 = K at *
    generalize (2 : Nat) ^ 971 = J at *
    have h5 : D * ((2 ^ 54 - 1) * (J * K)) * b = (2 ^ 54 - 1) * J * b * (D * K) := by ac_rfl
    have h6 : 2 * (a * K * D) = 2 * a * (D * K) := by ac_rfl
    rw [h5, h6] at h2
    have h7 := Nat.le_of_mul_le_mul_right h2 (Nat.mul_pos hD hK)
    have h8 : (2 ^ 54 - 1) * 2 ^ 60 * 1 ≤ (2 ^ 54 - 1) * J * b := Nat.mul_le_mul (Nat.mul_le_mul_left _ hJ) hb
    omega
  -- the floats at q, at q + 1, and just under q + 1
  obtain ⟨t1, ht1, hv1⟩ := has_float q (by omega) 1074 (by decide) (by decide)
  obtain ⟨t2, ht2, hv2⟩ := has_float (q + 1) (by omega) 1074 (by decide) (by decide)
  obtain ⟨t3, ht3, hv3⟩ := has_float ((q + 1) * 2 ^ 30 - 1) (by omega) 1044 (by decide) (by decide)
  have e30 : (2 : Nat) ^ 1074 = 2 ^ 30 * 2 ^ 1044 := by rw [← Nat.pow_add]
  have hM : 0 < (2 : Nat) ^ 1044 := Nat.two_pow_pos _
  have n1 := (hn hlt t1).1
  have n3 := (hn hlt t3).1
  rw [e30] at hv1 hv2 hW
  generalize (2 : Nat) ^ 1044 = M at *
  -- all times b
  have low : V t1 ≤ V t := by
    refine Nat.le_of_not_lt fun hc => ?_
    have g1 : D * V t < D * V t1 := Nat.mul_lt_mul_of_pos_left hc hD
    have g2 : D * V t1 ≤ W := by
      refine Nat.le_of_mul_le_mul_right ?_ hb
      rw [hW, hv1]
      have : D * (q * (2 ^ 30 * M)) * b = q * b * (2 ^ 30 * M) * D := by ac_rfl
      rw [this]
      refine Nat.mul_le_mul_right _ (Nat.mul_le_mul_right _ ?_)
      rw [Nat.mul_comm q b]
      omega
    unfold dist at n1
    omega
  have high : V t < V t2 := by
    refine Nat.lt_of_not_le fun hc => ?_
    have g1 : V t3 < V t2 := by
      rw [hv3, hv2]
      have : (q + 1) * (2 ^ 30 * M) = (q + 1) * 2 ^ 30 * M := by ac_rfl
      rw [this]
      exact Nat.mul_lt_mul_of_pos_right (by omega) hM
    have g2 : W ≤ D * V t3 := by
      refine Nat.le_of_mul_le_mul_right ?_ hb
      rw [hW, hv3]
      have e5 : a * (2 ^ 30 * M) * D = a * 2 ^ 30 * (M * D) := by ac_rfl
      have e6 : D * (((q + 1) * 2 ^ 30 - 1) * M) * b = ((q + 1) * 2 ^ 30 - 1) * b * (M * D) := by ac_rfl
      rw [e5, e6]
      refine Nat.mul_le_mul_right _ ?_
      have e7 : ((q + 1) * 2 ^ 30 - 1) * b = (q * b + b) * 2 ^ 30 - b := by
        rw [Nat.sub_mul, Nat.one_mul, Nat.mul_right_comm, Nat.add_mul q 1 b, Nat.one_mul]
      rw [e7, Nat.mul_comm q b]
      omega
    have g3 : D * V t3 < D * V t2 := Nat.mul_lt_mul_of_pos_left g1 hD
    have g4 : D * V t2 ≤ D * V t := Nat.mul_le_mul_left _ hc
    unfold dist at n3
    omega
  obtain ⟨m, e, hd, hm⟩ := decode_pack false hlt
  rw [← hr] at hd
  constructor
  · rw [toInt_floor hd, val_eq hd, hm, e30]
    show ((V t : Nat) : Int) / _ = _
    rw [← Int.natCast_ediv]
    congr 1
    have hpos : 0 < 2 ^ 30 * M := Nat.mul_pos (by decide) hM
    rw [hv1] at low
    rw [hv2] at high
    generalize 2 ^ 30 * M = P at *
    refine Nat.div_eq_of_lt_le low ?_
    exact high
  · unfold isFinite
    rw [hd]

theorem floor_ii {a b : Int} (ha : 0 ≤ a) (hb : 0 < b) (hb2 : b ≤ 2 ^ 29) (hq : a / b < 2 ^ 22) :
    Flt.toInt floorOf (ofFrac (decide (a < 0) != decide (b < 0)) a.natAbs b.natAbs) = a / b ∧ isFinite (ofFrac (decide (a < 0) != decide (b < 0)) a.natAbs b.natAbs) = true := by
  obtain ⟨a, rfl⟩ := Int.eq_ofNat_of_zero_le ha
  obtain ⟨b, rfl⟩ := Int.eq_ofNat_of_zero_le (Int.le_of_lt hb)
  rw [hf_nonneg ha, hf_nonneg (Int.le_of_lt hb)]
  simp only [Int.natAbs_natCast, bne_self_eq_false]
  rw [← Int.natCast_ediv] at hq ⊢
  have hb3 : 0 < b := by omega
  have hr : Right (ofFrac false a b) false (a * 2 ^ 1074) b := ofFrac_right hb3 rfl hb3
  refine floor_right hr hb3 hb3 rfl (by omega) (by omega)

theorem floor_ff {a b : Int} (ha : 0 ≤ a) (ha2 : a < 2 ^ 50) (hb : 0 < b) (hb2 : b ≤ 2 ^ 29) (hq : a / b < 2 ^ 22) :
    Flt.toInt floorOf (div (hf (2 * a)) (hf (2 * b))) = a / b ∧ isFinite (div (hf (2 * a)) (hf (2 * b))) = true := by
  obtain ⟨m, e, hd, hm⟩ := hf_decode (n := 2 * a) (by omega)
  obtain ⟨k, f, hd', hm'⟩ := hf_decode (n := 2 * b) (by omega)
  have hk : k ≠ 0 := by
    intro e0
    rw [e0, Nat.zero_mul] at hm'
    have := Nat.mul_pos (show 0 < (2 * b).natAbs by omega) (Nat.two_pow_pos 1073)
    omega
  have h := div_right hd hd' hk
  rw [hf_val (n := 2 * a) (by omega), hf_val (n := 2 * b) (by omega), hf_nonneg (by omega : 0 ≤ 2 * a), hf_nonneg (by omega : 0 ≤ 2 * b)] at h
  obtain ⟨a, rfl⟩ := Int.eq_ofNat_of_zero_le ha
  obtain ⟨b, rfl⟩ := Int.eq_ofNat_of_zero_le (Int.le_of_lt hb)
  rw [← Int.natCast_ediv] at hq ⊢
  have e1 : (2 * (a : Int) * ((2 ^ 1073 : Nat) : Int)).natAbs = a * (2 * 2 ^ 1073) := by
    rw [Int.natAbs_mul, Int.natAbs_mul, Int.natAbs_natCast, Int.natAbs_natCast]
    generalize (2 : Nat) ^ 1073 = K
    show 2 * a * K = _
    ac_rfl
  have e2 : (2 * (b : Int) * ((2 ^ 1073 : Nat) : Int)).natAbs = b * (2 * 2 ^ 1073) := by
    rw [Int.natAbs_mul, Int.natAbs_mul, Int.natAbs_natCast, Int.natAbs_natCast]
    generalize (2 : Nat) ^ 1073 = K
    show 2 * b * K = _
    ac_rfl
  rw [e1, e2, ← pow1074] at h
  have hb3 : 0 < b := by omega
  refine floor_right h (Nat.mul_pos hb3 (Nat.two_pow_pos _)) hb3 ?_ (by omega) (by omega)
  generalize (2 : Nat) ^ 1074 = K
  ac_rfl

theorem ofBin_right (neg : Bool) (M : Nat) (g : Int) (hg : -1074 ≤ g) : Right (ofBin neg M g) neg (M * 2 ^ (g + 1074).toNat) 1 := by
  unfold ofBin
  refine ofFrac_right (shift_pos _ _ _ (by decide)) ?_ (by decide)
  rw [Nat.mul_one]
  exact shift_one M g 1074 (by omega)

theorem fmod_hf {a b : Int} (ha : 0 ≤ a) (ha2 : a < 2 ^ 50) (hb : 0 < b) (hb2 : b < 2 ^ 50) : fmod (hf a) (hf b) = hf (a % b) := by
  obtain ⟨m, e, hd, hm⟩ := hf_decode (n := a) (by omega)
  obtain ⟨k, f, hd', hm'⟩ := hf_decode (n := b) (by omega)
  rw [hf_nonneg ha] at hd
  rw [hf_nonneg (Int.le_of_lt hb)] at hd'
  have he := decode_ge hd
  have hf' := decode_ge hd'
  have hk : k ≠ 0 := by
    intro e0
    rw [e0, Nat.zero_mul] at hm'
    have := Nat.mul_pos (show 0 < b.natAbs by omega) (Nat.two_pow_pos 1073)
    omega
  have hfm : fmod (hf a) (hf b) = ofBin false ((m * 2 ^ (e - min e f).toNat) % (k * 2 ^ (f - min e f).toNat)) (min e f) := by
    unfold fmod
    rw [hd, hd']
    simp only
    rw [if_neg (by simpa using hk)]
    rfl
  rw [hfm]
  have hmod0 : 0 ≤ a % b := Int.emod_nonneg _ (by omega)
  have hmod1 : a % b < b := Int.emod_lt_of_pos _ hb
  refine hf_of_right (by omega) (by decide) (ofBin_right _ _ _ (by omega)) (hf_nonneg hmod0).symm ?_
  rw [← Nat.mul_mod_mul_right, Nat.mul_assoc, Nat.mul_assoc, ← Nat.pow_add, ← Nat.pow_add]
  have e1 : (e - min e f).toNat + (min e f + 1074).toNat = (e + 1074).toNat := by omega
  have e2 : (f - min e f).toNat + (min e f + 1074).toNat = (f + 1074).toNat := by omega
  rw [e1, e2, hm, hm', Nat.mul_mod_mul_right, Nat.one_mul]
  congr 1
  obtain ⟨a, rfl⟩ := Int.eq_ofNat_of_zero_le ha
  obtain ⟨b, rfl⟩ := Int.eq_ofNat_of_zero_le (Int.le_of_lt hb)
  rw [← Int.natCast_emod]
  rfl

theorem cmp_hf {a b : Int} (ha : a.natAbs < 2 ^ 53) (hb : b.natAbs < 2 ^ 53) : cmp (hf a) (hf b) = some (compare a b) := by
  obtain ⟨m, e, hd, hm⟩ := hf_decode ha
  obtain ⟨k, f, hd', hm'⟩ := hf_decode hb
  rw [cmp_right hd hd', hf_val ha, hf_val hb]
  have hK := Kpos
  generalize ((2 ^ 1073 : Nat) : Int) = K at *
  congr 1
  rcases Int.lt_trichotomy a b with h | h | h
  · rw [Int.compare_eq_lt.mpr h, Int.compare_eq_lt.mpr (Int.mul_lt_mul_of_pos_right h hK)]
  · subst h; simp
  · rw [Int.compare_eq_gt.mpr h, Int.compare_eq_gt.mpr (Int.mul_lt_mul_of_pos_right h hK)]

theorem cmpInt_hf {a i : Int} (ha : a.natAbs < 2 ^ 53) : cmpInt (hf a) i = some (compare a (2 * i)) := by
  obtain ⟨m, e, hd, hm⟩ := hf_decode ha
  rw [cmpInt_right hd, hf_val ha]
  have hK := Kpos
  have e1 : i * (2 : Int) ^ 1074 = 2 * i * ((2 ^ 1073 : Nat) : Int) := by
    have : ((2 ^ 1073 : Nat) : Int) = (2 : Int) ^ 1073 := by simp
    rw [this, show (1074 : Nat) = 1073 + 1 from rfl, Int.pow_succ]
    generalize (2 : Int) ^ 1073 = K
    rw [Int.mul_comm K 2, ← Int.mul_assoc, Int.mul_comm i 2]
  rw [e1]
  generalize ((2 ^ 1073 : Nat) : Int) = K at *
  congr 1
  rcases Int.lt_trichotomy a (2 * i) with h | h | h
  · rw [Int.compare_eq_lt.mpr h, Int.compare_eq_lt.mpr (Int.mul_lt_mul_of_pos_right h hK)]
  · rw [h]; simp
  · rw [Int.compare_eq_gt.mpr h, Int.compare_eq_gt.mpr (Int.mul_lt_mul_of_pos_right h hK)]

theorem lt_hf {a i : Int} (ha : a.natAbs < 2 ^ 53) : (cmpInt (hf a) i == some Ordering.lt) = decide (a < 2 * i) := by
  rw [cmpInt_hf ha]
  rcases Int.lt_trichotomy a (2 * i) with h | h | h
  · rw [Int.compare_eq_lt.mpr h]; simp [h]
  · rw [h]; simp
  · rw [Int.compare_eq_gt.mpr h]; simp; omega

theorem isZero_hf {a : Int} (ha : a.natAbs < 2 ^ 53) : isZero (hf a) = decide (a = 0) := by
  obtain ⟨m, e, hd, hm⟩ := hf_decode ha
  unfold isZero
  rw [hd]
  have hp := Nat.two_pow_pos (e + 1074).toNat
  have hq := Nat.two_pow_pos 1073
  by_cases h : a = 0
  · have : m = 0 := by
      rw [h] at hm
      rcases Nat.mul_eq_zero.mp (hm.trans (by simp : (0 : Int).natAbs * 2 ^ 1073 = 0)) with h1 | h1
      · exact h1
      · omega
    subst this
    simp [h]
  · have : m ≠ 0 := by
      intro h0
      rw [h0, Nat.zero_mul] at hm
      have := Nat.mul_pos (show 0 < a.natAbs by omega) hq
      omega
    simp only [h, decide_false]
    split
    · rename_i h2
      cases h2
      exact absurd rfl this
    · rfl

theorem copysign_hf {b : Int} (hb : 0 < b) (hb2 : b < 2 ^ 50) : copysign (zero false) (hf b) = hf 0 := by
  obtain ⟨t, ht, hv, hp⟩ := hf_pack (n := b) (by omega)
  have hi : infMag = 2047 * 2 ^ 52 := rfl
  have hs : signBit (hf b) = false := by
    unfold signBit
    rw [hp, hf_nonneg (Int.le_of_lt hb), pack_toNat false (by omega)]
    simp
    omega
  unfold copysign
  rw [if_neg (by decide +kernel), hs]
  decide +kernel

theorem mod_hf {a b : Int} (ha : 0 ≤ a) (ha2 : a < 2 ^ 50) (hb : 0 < b) (hb2 : b < 2 ^ 50) : (divmod (hf a) (hf b)).2 = hf (a % b) := by
  have hmod0 : 0 ≤ a % b := Int.emod_nonneg _ (by omega)
  have hmod1 : a % b < b := Int.emod_lt_of_pos _ hb
  unfold divmod
  simp only [fmod_hf ha ha2 hb hb2, isZero_hf (a := a % b) (by omega)]
  by_cases hz : a % b = 0
  · simp only [hz, decide_true, if_true]
    exact copysign_hf hb hb2
  · have l1 : lt (hf b) (zero false) = false := by
      unfold Float64.lt
      rw [← hf_zero, cmp_hf (by omega) (by decide), Int.compare_eq_gt.mpr (by omega)]
      rfl
    have l2 : lt (hf (a % b)) (zero false) = false := by
      unfold Float64.lt
      rw [← hf_zero, cmp_hf (by omega) (by decide), Int.compare_eq_gt.mpr (by omega)]
      rfl
    simp only [hz, decide_false, l1, l2, bne_self_eq_false, Bool.false_eq_true, if_false]

theorem ne_hf {a b : Int} (h : a = b) (ha : a.natAbs < 2 ^ 53) : (cmp (hf a) (hf b) == some Ordering.eq) = true := by
  subst h
  rw [cmp_hf ha ha]
  simp

theorem floor_cd {c d : Int} (hc : 0 ≤ c) (hc2 : c < 2 ^ 50) (hd : 0 < d) (hd2 : d ≤ 2 ^ 29) (hq : c / d < 2 ^ 22) :
    Flt.toInt floorOf (div (hf c) (hf d)) = c / d ∧ isFinite (div (hf c) (hf d)) = true := by
  obtain ⟨m, e, he, hm⟩ := hf_decode (n := c) (by omega)
  obtain ⟨k, f, he', hm'⟩ := hf_decode (n := d) (by omega)
  have hk : k ≠ 0 := by
    intro e0
    rw [e0, Nat.zero_mul] at hm'
    have := Nat.mul_pos (show 0 < d.natAbs by omega) (Nat.two_pow_pos 1073)
    omega
  have h := div_right he he' hk
  rw [hf_val (n := c) (by omega), hf_val (n := d) (by omega), hf_nonneg hc, hf_nonneg (Int.le_of_lt hd)] at h
  obtain ⟨a, rfl⟩ := Int.eq_ofNat_of_zero_le hc
  obtain ⟨b, rfl⟩ := Int.eq_ofNat_of_zero_le (Int.le_of_lt hd)
  rw [← Int.natCast_ediv] at hq ⊢
  rw [Int.natAbs_mul, Int.natAbs_mul, Int.natAbs_natCast, Int.natAbs_natCast, Int.natAbs_natCast] at h
  have hb3 : 0 < b := by omega
  refine floor_right h (Nat.mul_pos hb3 (Nat.two_pow_pos _)) hb3 ?_ (by omega) (by omega)
  generalize (2 : Nat) ^ 1074 = K
  ac_rfl

theorem mul_cd {a b : Int} (ha : 0 ≤ a) (hb : 0 ≤ b) (ha2 : a < 2 ^ 25) (hb2 : b < 2 ^ 25) : mul (hf a) (hf (2 * b)) = hf (a * b) := by
  obtain ⟨m, e, hd, hm⟩ := hf_decode (n := a) (by omega)
  obtain ⟨k, f, hd', hm'⟩ := hf_decode (n := 2 * b) (by omega)
  have h := mul_right hd hd'
  rw [hf_val (n := a) (by omega), hf_val (n := 2 * b) (by omega)] at h
  have hab : 0 ≤ a * b := Int.mul_nonneg ha hb
  have hlt : a * b < 2 ^ 50 := by
    have h1 : a * b ≤ a * 2 ^ 25 := Int.mul_le_mul_of_nonneg_left (by omega) ha
    omega
  refine hf_of_right (by omega) (Nat.two_pow_pos _) h ?_ ?_
  · rw [hf_nonneg ha, hf_nonneg (by omega), hf_nonneg hab]
    rfl
  · rw [Int.natAbs_mul a, Int.natAbs_mul (2 * b), Int.natAbs_natCast, pow1074]
    have e1 : (a * b).natAbs = a.natAbs * b.natAbs := Int.natAbs_mul _ _
    have e3 : (2 * b).natAbs = 2 * b.natAbs := by omega
    rw [e1, e3]
    generalize (2 : Nat) ^ 1073 = K
    ac_rfl

theorem trunc_c {n : Int} (h : n.natAbs < 2 ^ 51) (h2 : n % 2 = 0) : Flt.toInt truncOf (hf n) = n / 2 := by
  have e : n = 2 * (n / 2) := by omega
  have := trunc_hf (n := n / 2) (by omega)
  rw [← e] at this
  exact this

theorem epoch_hf : (0x413a445180000000 : UInt64) = hf 3442851 := by decide +kernel
theorem half_hf : (0x3fe0000000000000 : UInt64) = hf 1 := by decide +kernel

/-- 30.6 times a month's number, cut -/
theorem trunc_306 : ∀ m : Nat, m < 16 → 4 ≤ m → Flt.toInt truncOf (mul 0x403e99999999999a (ofInt m)) = (306 * m / 10 : Nat) ∧ isFinite (mul 0x403e99999999999a (ofInt m)) = true := by decide +kernel

def monthF (m a d : Int) : UInt64 := add (add (ofFrac (decide (367 * m - 362 < 0) != decide ((12 : Int) < 0)) (367 * m - 362).natAbs (12 : Int).natAbs) (ofInt a)) (ofInt d)
def monthOk (m a d : Nat) : Bool := decide (Flt.toInt floorOf (monthF (m + 1) (-(a : Int)) (d + 1)) = (367 * ((m : Int) + 1) - 362) / 12 + -(a : Int) + ((d : Int) + 1)) && isFinite (monthF (m + 1) (-(a : Int)) (d + 1))
theorem in_month : ((List.range 12).all fun m => (List.range 3).all fun a => (List.range 31).all fun d => monthOk m a d) = true := by decide +kernel
theorem in_month_is {m a d : Int} (hm : 1 ≤ m) (hm2 : m ≤ 12) (ha : -2 ≤ a) (ha2 : a ≤ 0) (hd : 1 ≤ d) (hd2 : d ≤ 31) :
    Flt.toInt floorOf (monthF m a d) = (367 * m - 362) / 12 + a + d ∧ isFinite (monthF m a d) = true := by
  have h := in_month
  simp only [List.all_eq_true, List.mem_range] at h
  have h := h (m - 1).toNat (by omega) (-a).toNat (by omega) (d - 1).toNat (by omega)
  have e1 : (((m - 1).toNat : Nat) : Int) + 1 = m := by omega
  have e2 : -(((-a).toNat : Nat) : Int) = a := by omega
  have e3 : (((d - 1).toNat : Nat) : Int) + 1 = d := by omega
  unfold monthOk at h
  rw [e1, e2, e3] at h
  simpa using h
theorem trunc_306_is {m : Int} (hm : 4 ≤ m) (hm2 : m ≤ 15) : Flt.toInt truncOf (mul 0x403e99999999999a (ofInt m)) = 306 * m / 10 ∧ isFinite (mul 0x403e99999999999a (ofInt m)) = true := by
  have h := trunc_306 m.toNat (by omega) (by omega)
  have e1 : ((m.toNat : Nat) : Int) = m := by omega
  rw [e1] at h
  refine ⟨?_, h.2⟩
  rw [h.1]
  omega

end Mine

namespace Mine
open PySem PySem.W PyProof.Rows PySem.Float64
/-- a quotient of ints, of floats; a float and an int: kept closed in the walk -/
def quo (a d : Int) : UInt64 := ofFrac (decide (a < 0) != decide (d < 0)) a.natAbs d.natAbs
def quoF (c d : Int) : UInt64 := Float64.div (hf c) (hf d)
def addI (x : UInt64) (n : Int) : UInt64 := Float64.add x (ofInt n)
def mulI (x : UInt64) (n : Int) : UInt64 := Float64.mul x (ofInt n)
section
variable {prog : Program} {w : World} {A : Around} {E : Value → Shared → Prop} {s : Shared} {Q : Value → Shared → Prop} {x y : UInt64} {a b n d m : Int} {t u : Tok}

theorem not_over {n : Int} (h : n.natAbs < 2 ^ 49) : ¬ Flt.Over n := by
  intro h1
  have h2 : (2 : Nat) ^ 1024 - 2 ^ 970 ≤ n.natAbs := h1
  have h3 : (2 : Nat) ^ 49 ≤ 2 ^ 1024 - 2 ^ 970 := by decide +kernel
  exact absurd (Nat.lt_of_lt_of_le h (Nat.le_trans h3 h2)) (Nat.lt_irrefl _)

theorem r_add_any (hA : A.handled = none) (hn : n.natAbs < 2 ^ 49) (h : Q (.float (addI x n) s.toks) { s with toks := s.toks + 1 }) : wpAny (model prog w) A (binaryOp .Add (.float x t) (.int n u)) Q E s :=
  add_fi_sharp hA (fun h0 => absurd h0 (not_over hn)) fun _ => h
theorem r_add_fi (hA : A.handled = none) (hx : x = hf a) (ha : a.natAbs < 2 ^ 50) (hn : n.natAbs < 2 ^ 49) (h : Q (.float (hf (a + 2 * n)) s.toks) { s with toks := s.toks + 1 }) : wpAny (model prog w) A (binaryOp .Add (.float x t) (.int n u)) Q E s := by
  refine r_add_any hA hn ?_
  rw [addI, hx, ofInt_hf (by omega), add_hf (by omega) (by omega)]
  exact h
theorem r_add_if (hA : A.handled = none) (hx : x = hf a) (ha : a.natAbs < 2 ^ 50) (hn : n.natAbs < 2 ^ 49) (h : Q (.float (hf (2 * n + a)) s.toks) { s with toks := s.toks + 1 }) : wpAny (model prog w) A (binaryOp .Add (.int n u) (.float x t)) Q E s := by
  refine add_if_sharp hA (fun h0 => absurd h0 (not_over hn)) fun _ => ?_
  rw [hx, ofInt_hf (by omega), add_hf (by omega) (by omega)]
  exact h
theorem r_sub_fi (hA : A.handled = none) (hx : x = hf a) (ha : a.natAbs < 2 ^ 50) (hn : n.natAbs < 2 ^ 49) (h : Q (.float (hf (a - 2 * n)) s.toks) { s with toks := s.toks + 1 }) : wpAny (model prog w) A (binaryOp .Sub (.float x t) (.int n u)) Q E s := by
  refine sub_fi_sharp hA (fun h0 => absurd h0 (not_over hn)) fun _ => ?_
  rw [hx, ofInt_hf (by omega), sub_hf (by omega) (by omega)]
  exact h
theorem r_add_ff (hx : x = hf a) (hy : y = hf b) (ha : a.natAbs < 2 ^ 50) (hb : b.natAbs < 2 ^ 50) (h : Q (.float (hf (a + b)) s.toks) { s with toks := s.toks + 1 }) : wpAny (model prog w) A (binaryOp .Add (.float x t) (.float y u)) Q E s := by
  refine add_float ?_
  rw [hx, hy, add_hf (by omega) (by omega)]
  exact h
theorem r_sub_ff (hx : x = hf a) (hy : y = hf b) (ha : a.natAbs < 2 ^ 50) (hb : b.natAbs < 2 ^ 50) (h : Q (.float (hf (a - b)) s.toks) { s with toks := s.toks + 1 }) : wpAny (model prog w) A (binaryOp .Sub (.float x t) (.float y u)) Q E s := by
  refine sub_float ?_
  rw [hx, hy, sub_hf (by omega) (by omega)]
  exact h
theorem r_mul_fi (hA : A.handled = none) (hx : x = hf a) (ha : 0 ≤ a) (hn : 0 ≤ n) (ha2 : a < 2 ^ 25) (hn2 : n < 2 ^ 25) (h : Q (.float (hf (a * n)) s.toks) { s with toks := s.toks + 1 }) : wpAny (model prog w) A (binaryOp .Mult (.float x t) (.int n u)) Q E s := by
  refine mul_fi_sharp hA (fun h0 => absurd h0 (not_over (by omega))) fun _ => ?_
  rw [hx, ofInt_hf (by omega), mul_cd ha hn ha2 hn2]
  exact h
theorem r_mul_306 (hA : A.handled = none) (hn : n.natAbs < 2 ^ 49) (h : Q (.float (mulI x n) s.toks) { s with toks := s.toks + 1 }) : wpAny (model prog w) A (binaryOp .Mult (.float x t) (.int n u)) Q E s :=
  mul_fi_sharp hA (fun h0 => absurd h0 (not_over hn)) fun _ => h
theorem r_div_fi (hA : A.handled = none) (hx : x = hf a) (hn : 0 < n) (hn2 : n < 2 ^ 28) (h : Q (.float (quoF a (2 * n)) s.toks) { s with toks := s.toks + 1 }) : wpAny (model prog w) A (binaryOp .Div (.float x t) (.int n u)) Q E s := by
  refine Flt.truediv_fi hA (fun h0 => absurd h0 (not_over (by omega))) (fun h0 => absurd h0 (by omega)) fun _ _ => ?_
  rw [hx, ofInt_hf (by omega)]
  exact h
theorem r_div_ii (hA : A.handled = none) (hn : 0 < n) (ha : a.natAbs < 2 ^ 49) (h : Q (.float (quo a n) s.toks) { s with toks := s.toks + 1 }) : wpAny (model prog w) A (binaryOp .Div (.int a t) (.int n u)) Q E s :=
  Flt.div_ii_fits hA (Nat.lt_of_lt_of_le ha (Nat.pow_le_pow_right (by decide) (by decide))) (fun h0 => absurd h0 (by omega)) fun _ _ => h
theorem r_mod_fi (hA : A.handled = none) (hx : x = hf a) (ha : 0 ≤ a) (ha2 : a < 2 ^ 50) (hn : 0 < n) (hn2 : n < 2 ^ 28) (h : ∀ c, c = a % (2 * n) → Q (.float (hf c) s.toks) { s with toks := s.toks + 1 }) : wpAny (model prog w) A (binaryOp .Mod (.float x t) (.int n u)) Q E s := by
  refine Flt.mod_fi hA (fun h0 => absurd h0 (not_over (by omega))) (fun h0 => absurd h0 (by omega)) fun _ _ => ?_
  rw [hx, ofInt_hf (by omega), mod_hf ha ha2 (by omega) (by omega)]
  exact h _ rfl
theorem r_floor_any {v : Int} (hA : A.handled = none) (hv : Flt.toInt floorOf x = v ∧ isFinite x = true) (h : Q (.int v s.toks) { s with toks := s.toks + 1 }) : wpAny (model prog w) A (call (.builtin "math.floor") [.float x t]) Q E s := by
  refine Flt.call_floor_float hA (fun h0 => ?_) (fun h0 => ?_) fun _ => ?_
  · have h1 := hv.2
    unfold isFinite at h1
    unfold Float64.isNaN at h0
    split at h0 <;> simp_all
  · have h1 := hv.2
    unfold isFinite at h1
    unfold isInf at h0
    split at h0 <;> simp_all
  · rw [hv.1]
    exact h
theorem r_floor_hf (hA : A.handled = none) (ha : a.natAbs < 2 ^ 50) (h : ∀ v, v = a / 2 → Q (.int v s.toks) { s with toks := s.toks + 1 }) : wpAny (model prog w) A (call (.builtin "math.floor") [.float (hf a) t]) Q E s :=
  r_floor_any hA ⟨floor_hf (by omega), hf_fin (by omega)⟩ (h _ rfl)
theorem r_floor_div (hA : A.handled = none) (ha : 0 ≤ a) (ha2 : a < 2 ^ 50) (hd : 0 < d) (hd2 : d ≤ 2 ^ 29) (hq : a / d < 2 ^ 22) (h : ∀ v, v = a / d → Q (.int v s.toks) { s with toks := s.toks + 1 }) : wpAny (model prog w) A (call (.builtin "math.floor") [.float (quoF a d) t]) Q E s :=
  r_floor_any hA (floor_cd ha ha2 hd hd2 hq) (h _ rfl)
theorem r_floor_ii (hA : A.handled = none) (ha : 0 ≤ a) (hd : 0 < d) (hd2 : d ≤ 2 ^ 29) (hq : a / d < 2 ^ 22) (h : ∀ v, v = a / d → Q (.int v s.toks) { s with toks := s.toks + 1 }) : wpAny (model prog w) A (call (.builtin "math.floor") [.float (quo a d) t]) Q E s :=
  r_floor_any hA (floor_ii ha hd hd2 hq) (h _ rfl)
theorem r_floor_month (hA : A.handled = none) (hm : 1 ≤ m) (hm2 : m ≤ 12) (ha : -2 ≤ a) (ha2 : a ≤ 0) (hd : 1 ≤ d) (hd2 : d ≤ 31) (h : ∀ v, v = (367 * m - 362) / 12 + a + d → Q (.int v s.toks) { s with toks := s.toks + 1 }) :
    wpAny (model prog w) A (call (.builtin "math.floor") [.float (addI (addI (quo (367 * m - 362) 12) a) d) t]) Q E s :=
  r_floor_any hA (in_month_is hm hm2 ha ha2 hd hd2) (h _ rfl)
theorem r_trunc_any {v : Int} (hA : A.handled = none) (hv : Flt.toInt truncOf x = v ∧ isFinite x = true) (h : Q (.int v s.toks) { s with toks := s.toks + 1 }) : wpAny (model prog w) A (call (.builtin "math.trunc") [.float x t]) Q E s := by
  refine Flt.call_trunc_float hA (fun h0 => ?_) (fun h0 => ?_) fun _ => ?_
  · have h1 := hv.2
    unfold isFinite at h1
    unfold Float64.isNaN at h0
    split at h0 <;> simp_all
  · have h1 := hv.2
    unfold isFinite at h1
    unfold isInf at h0
    split at h0 <;> simp_all
  · rw [hv.1]
    exact h
theorem r_trunc_306 (hA : A.handled = none) (hx : x = 0x403e99999999999a) (hm : 4 ≤ m) (hm2 : m ≤ 15) (h : ∀ v, v = 306 * m / 10 → Q (.int v s.toks) { s with toks := s.toks + 1 }) : wpAny (model prog w) A (call (.builtin "math.trunc") [.float (mulI x m) t]) Q E s := by
  subst hx
  exact r_trunc_any hA (trunc_306_is hm hm2) (h _ rfl)
theorem r_trunc_ii (hA : A.handled = none) (ha : 0 ≤ a) (hd : 0 < d) (hd2 : d ≤ 2 ^ 29) (hq : a / d < 2 ^ 22) (h : ∀ v, v = a / d → Q (.int v s.toks) { s with toks := s.toks + 1 }) : wpAny (model prog w) A (call (.builtin "math.trunc") [.float (quo a d) t]) Q E s := by
  have hv := floor_ii ha hd hd2 hq
  refine r_trunc_any hA ⟨?_, hv.2⟩ (h _ rfl)
  unfold quo
  rw [← hv.1]
  have h1 := hv.2
  have hs : (decide (a < 0) != decide (d < 0)) = false := by rw [hf_nonneg ha, hf_nonneg (Int.le_of_lt hd)]; rfl
  rw [hs] at h1 ⊢
  have hdn : 0 < d.natAbs := by omega
  obtain ⟨tt, hr, hle, _, _⟩ : Right (ofFrac false a.natAbs d.natAbs) false (a.natAbs * 2 ^ 1074) d.natAbs := ofFrac_right hdn rfl hdn
  by_cases hlt : tt < infMag
  · obtain ⟨mm, ee, hdec, _⟩ := decode_pack false hlt
    rw [← hr] at hdec
    rw [Flt.toInt_fin hdec, Flt.toInt_fin hdec]
    rfl
  · exfalso
    have e : tt = infMag := by omega
    rw [hr, e] at h1
    revert h1
    decide +kernel
theorem r_int (hA : A.handled = none) (ha : a.natAbs < 2 ^ 50) (ha2 : a % 2 = 0) (h : ∀ v, v = a / 2 → Q (.int v s.toks) { s with toks := s.toks + 1 }) : wpAny (model prog w) A (call (.type "int") [.float (hf a) t]) Q E s := by
  refine Flt.call_int_float3 hA (fun h0 => ?_) (fun h0 => ?_) fun _ => ?_
  · have h1 := hf_fin (n := a) (by omega)
    unfold isFinite at h1
    unfold Float64.isNaN at h0
    split at h0 <;> simp_all
  · have h1 := hf_fin (n := a) (by omega)
    unfold isFinite at h1
    unfold isInf at h0
    split at h0 <;> simp_all
  · rw [trunc_c (by omega) ha2]
    exact h _ rfl
theorem r_add_true (h : Q (.int (n + 1) s.toks) { s with toks := s.toks + 1 }) : wpAny (model prog w) A (binaryOp .Add (.int n t) (.bool true)) Q E s := add_int_bool h
theorem r_add_false (h : Q (.int n s.toks) { s with toks := s.toks + 1 }) : wpAny (model prog w) A (binaryOp .Add (.int n t) (.bool false)) Q E s :=
  add_int_bool (by rw [show (n + if false then 1 else 0 : Int) = n from Int.add_zero n]; exact h)
theorem r_sub_true (h : Q (.int (n - 1) s.toks) { s with toks := s.toks + 1 }) : wpAny (model prog w) A (binaryOp .Sub (.int n t) (.bool true)) Q E s := IntBool.sub_int_bool h
theorem r_sub_false (h : Q (.int n s.toks) { s with toks := s.toks + 1 }) : wpAny (model prog w) A (binaryOp .Sub (.int n t) (.bool false)) Q E s :=
  IntBool.sub_int_bool (by rw [show (n - if false then 1 else 0 : Int) = n from Int.sub_zero n]; exact h)
theorem r_lt_fi (ha : a.natAbs < 2 ^ 50) (h : Q (.bool (decide (a < 2 * n))) s) : wpAny (model prog w) A (compareOp .Lt (.float (hf a) t) (.int n u)) Q E s := by
  refine lt_fi ?_
  rw [lt_hf (by omega)]
  exact h
theorem r_ne_ff (ha : a.natAbs < 2 ^ 50) (hb : b.natAbs < 2 ^ 50) (h : Q (.bool (decide (a ≠ b))) s) : wpAny (model prog w) A (compareOp .NotEq (.float (hf a) t) (.float (hf b) u)) Q E s := by
  refine AutoFloatOps.ne_0 ?_
  have e : (cmp (hf a) (hf b) != some Ordering.eq) = decide (a ≠ b) := by
    rw [cmp_hf (by omega) (by omega)]
    rcases Int.lt_trichotomy a b with h | h | h
    · rw [Int.compare_eq_lt.mpr h, decide_eq_true (Int.ne_of_lt h)]; rfl
    · subst h; simp
    · rw [Int.compare_eq_gt.mpr h, decide_eq_true (Int.ne_of_gt h)]; rfl
  rw [e]
  exact h
end

end Mine

namespace Mine
open PySem PySem.W PyProof.Rows
def LOOSE : List PySem.Str := [Str.ofString "to_jd_gregorian", Str.ofString "from_jd_gregorian", Str.ofString "to_jd_ordinal", Str.ofString "from_jd_ordinal"]
def days (y : Int) : Int := 365 * (y - 1) + (y - 1) / 4 - (y - 1) / 100 + (y - 1) / 400
def leap (y : Int) : Bool := decide (y % 4 = 0 ∧ (y % 100 ≠ 0 ∨ y % 400 = 0))
def leapN (y : Int) : Int := if leap y then 1 else 0
def mdays (y m : Int) : Int := if m = 2 then 28 + leapN y else if m = 4 ∨ m = 6 ∨ m = 9 ∨ m = 11 then 30 else 31
def cum (y m : Int) : Int := (367 * m - 362) / 12 + (if m ≤ 2 then 0 else leapN y - 2)

/-- what a call of the def at f is shown to do: it hands back R, if pre -/
abbrev Claim (w : World) (k : Nat) (f : Addr) (pre : Prop) (vs : List Value) (R : Tok → Value) : Prop :=
  ∀ (mean : ExcName → Option Value) (mg mb : Str → Option Value) (news : List (Addr × Obj)) (dp un : Nat) (gd : Option (List Code)) (cn : Str) (cs : Scope) (a : Addr) (ccd : Value) (cl : List (Str × Addr)) (outer : List Env) (A₀ : Around) (base h₀ : Heap) (L : Addr) (m : Str → Option Value) (s : Shared) (Q E : Value → Shared → Prop),
    Below A₀ base outer h₀ → Fr h₀ L s.heap m → (hd.heap_39 w.params).In h₀ → News h₀ L s.heap news → Top hd.view_39 (looseW hd.view_39 LOOSE) mean mg mb h₀ → cs.kind = .function →
    pre → dp + k < recursionLimit → un + 8 * k < cLine →
    (∀ (t : Tok) (h' : Heap) (tk' : Nat), Fr h₀ L h' m → News h₀ L h' news → Q (R t) { s with heap := h', toks := tk' }) →
      wpAny (model PySem.Challenge.rw_ba5006_01.row.prog w) (ktrTop dp un gd cn cs L a ccd cl outer) (call (.ref f) vs) Q E s

section
variable {h₀ h' : Heap} {L : Addr} {m : Str → Option Value} {news : List (Addr × Obj)} {s : Shared} {Q : Value → Shared → Prop} {t : Tok} {tk' : Nat}
theorem ret_bool {x y : Bool} (hret : ∀ (t : Tok) (h' : Heap) (tk' : Nat), Fr h₀ L h' m → News h₀ L h' news → Q ((fun _ => .bool x) t) { s with heap := h', toks := tk' }) (e : y = x) (F : Fr h₀ L h' m) (N : News h₀ L h' news) : Q (.bool y) { s with heap := h', toks := tk' } := by
  subst e
  exact hret 0 h' tk' F N
theorem ret_float {x y : UInt64} (hret : ∀ (t : Tok) (h' : Heap) (tk' : Nat), Fr h₀ L h' m → News h₀ L h' news → Q ((fun t => .float x t) t) { s with heap := h', toks := tk' }) (e : y = x) (F : Fr h₀ L h' m) (N : News h₀ L h' news) : Q (.float y t) { s with heap := h', toks := tk' } := by
  subst e
  exact hret t h' tk' F N
end

local macro_rules | `(tactic| k_room) => `(tactic| ((try simp only [depth_under_make, depth_under_kw, depth_in1, depth_deeper, depth_caller, recursionLimit] at *); (try dsimp only [ktrTop] at *); omega))

theorem fm4 (y : Int) : y.fmod 4 = y % 4 := Int.fmod_eq_emod_of_nonneg _ (by decide)
theorem fm100 (y : Int) : y.fmod 100 = y % 100 := Int.fmod_eq_emod_of_nonneg _ (by decide)
theorem fm400 (y : Int) : y.fmod 400 = y % 400 := Int.fmod_eq_emod_of_nonneg _ (by decide)
theorem isleap_is (w : World) (y : Int) (t1 : Tok) : Claim w 2 50 True [.int y t1] (fun _ => .bool (leap y)) := by
  unfold Claim
  k_fill
  intro mean mg mb news dp un gd cn cs a ccd cl outer A₀ base h₀ L m s Q E B F X N T hk hpre hdp hun hret
  refine wpAny_call ?_
  k_dflt cell_enter
  k_steps
  all_goals (refine ret_bool (Q := Q) hret ?_ (by k_asm) (by k_asm))
  all_goals (clear hret; simp only [fm4, fm100, fm400, bne_iff_ne, beq_eq_false_iff_ne, bne_eq_false_iff_eq, beq_iff_eq, ne_eq] at *; rw [leap, Bool.eq_iff_iff]; simp only [beq_iff_eq, bne_iff_ne, decide_eq_true_eq]; omega)

theorem isleap_t (w : World) (y : Int) (t1 : Tok) : Claim w 2 50 (leap y = true) [.int y t1] (fun _ => .bool true) := by
  intro mean mg mb news dp un gd cn cs a ccd cl outer A₀ base h₀ L m s Q E B F X N T hk hpre hdp hun hret
  refine isleap_is w y t1 mean mg mb news dp un gd cn cs a ccd cl outer A₀ base h₀ L m s Q E B F X N T hk trivial hdp hun ?_
  simp only [hpre]
  exact hret
theorem isleap_f (w : World) (y : Int) (t1 : Tok) : Claim w 2 50 (leap y = false) [.int y t1] (fun _ => .bool false) := by
  intro mean mg mb news dp un gd cn cs a ccd cl outer A₀ base h₀ L m s Q E B F X N T hk hpre hdp hun hret
  refine isleap_is w y t1 mean mg mb news dp un gd cn cs a ccd cl outer A₀ base h₀ L m s Q E B F X N T hk trivial hdp hun ?_
  simp only [hpre]
  exact hret

theorem lawlong_is (w : World) (y : Int) (t1 : Tok) : Claim w 2 113 True [.int y t1] (fun _ => .bool (leap y)) := by
  unfold Claim
  k_fill
  intro mean mg mb news dp un gd cn cs a ccd cl outer A₀ base h₀ L m s Q E B F X N T hk hpre hdp hun hret
  refine wpAny_call ?_
  k_dflt cell_enter
  k_steps
  all_goals (refine ret_bool (Q := Q) hret ?_ (by k_asm) (by k_asm))
  all_goals (clear hret; simp only [fm4, fm100, fm400, bne_iff_ne, beq_eq_false_iff_ne, bne_eq_false_iff_eq, beq_iff_eq, ne_eq] at *; rw [leap, Bool.eq_iff_iff]; simp only [beq_iff_eq, bne_iff_ne, decide_eq_true_eq]; omega)

end Mine

namespace Mine
open PySem PySem.W PyProof.Rows
local macro_rules | `(tactic| k_room) => `(tactic| ((try simp only [depth_under_make, depth_under_kw, depth_in1, depth_deeper, depth_caller, recursionLimit] at *); (try dsimp only [ktrTop] at *); omega))

theorem have30 (w : World) {h : Heap} (X : (hd.heap_39 w.params).In h) : ∃ items, IsTup h 43 items ∧ IntsAre items.toList [4, 6, 9, 11] := by
  refine ⟨_, ⟨_, X 43 _ rfl, rfl, _, rfl⟩, ?_⟩
  exact .cons _ _ (.cons _ _ (.cons _ _ (.cons _ _ .nil)))
theorem in30 {w : World} {A : Around} {E : Value → Shared → Prop} {s : Shared} {x : Int} {u : Tok} {Q : Value → Shared → Prop} (X : (hd.heap_39 w.params).In s.heap)
    (h : Q (.bool (decide (x = 4 ∨ x = 6 ∨ x = 9 ∨ x = 11))) s) : wpAny (model PySem.Challenge.rw_ba5006_01.row.prog w) A (compareOp .In (.int x u) (.ref 43)) Q E s := by
  obtain ⟨items, ht, hi⟩ := have30 w X
  refine in_tuple_ints ht hi ?_
  have e : ([4, 6, 9, 11] : List Int).any (· == x) = decide (x = 4 ∨ x = 6 ∨ x = 9 ∨ x = 11) := by
    rw [Bool.eq_iff_iff]
    simp only [List.any_cons, List.any_nil, Bool.or_false, Bool.or_eq_true, beq_iff_eq, decide_eq_true_eq]
    omega
  rw [e]
  exact h

theorem Claim.use {w : World} {k : Nat} {f : Addr} {pre : Prop} {vs : List Value} {R : Tok → Value} (C : Claim w k f pre vs R) {mean : ExcName → Option Value} {mg mb : Str → Option Value} {news : List (Addr × Obj)} {dp un : Nat} {gd : Option (List Code)} {cn : Str} {cs : Scope} {a : Addr} {ccd : Value} {cl : List (Str × Addr)} {outer : List Env} {A₀ : Around} {base h₀ : Heap} {L : Addr} {m : Str → Option Value} {s : Shared} {Q E : Value → Shared → Prop}
    (B : Below A₀ base outer h₀) (F : Fr h₀ L s.heap m) (X : (hd.heap_39 w.params).In h₀) (N : News h₀ L s.heap news) (T : Top hd.view_39 (looseW hd.view_39 LOOSE) mean mg mb h₀) (hk : cs.kind = .function)
    (hp : pre) (hd : dp + k < recursionLimit) (hu : un + 8 * k < cLine)
    (ret : ∀ (t : Tok) (h' : Heap) (tk' : Nat), Fr h₀ L h' m → News h₀ L h' news → Q (R t) { s with heap := h', toks := tk' }) :
      wpAny (model PySem.Challenge.rw_ba5006_01.row.prog w) (ktrTop dp un gd cn cs L a ccd cl outer) (call (.ref f) vs) Q E s :=
  C mean mg mb news dp un gd cn cs a ccd cl outer A₀ base h₀ L m s Q E B F X N T hk hp hd hu ret

local macro_rules | `(tactic| walk_at "compareOp In int ref") => `(tactic| (k_here; k_dflt (refine' in30 ?k1 ?_; (case k1 => k_in)); (try dsimp only)))
local macro_rules | `(tactic| walk_at "call ref") => `(tactic| (k_here; (with_reducible show wpAny _ _ (call (Value.ref 50) _) _ _ _); k_dflt (first | refine' Claim.use (isleap_t _ _ _) ?k1 ?k2 ?k3 ?k4 ?k5 ?kK (by assumption) ?kd ?ku ?_ | refine' Claim.use (isleap_f _ _ _) ?k1 ?k2 ?k3 ?k4 ?k5 ?kK (by assumption) ?kd ?ku ?_ | refine' Claim.use (isleap_is _ _ _) ?k1 ?k2 ?k3 ?k4 ?k5 ?kK trivial ?kd ?ku ?_);  k_dflt (skip; (case k1 => k_asm); (case k2 => k_asm); (case k3 => k_asm); (case k4 => k_asm); (case k5 => k_asm); (case kK => first | exact rfl | assumption); (case kd => simp only [recursionLimit] at *; omega); (case ku => simp only [cLine] at *; omega); intro t9 h9 tk9 F9 N9; (try dsimp only); (try k_fold))))

local macro_rules | `(tactic| walk_at "eval Call") => `(tactic| (k_here; refine Call_ ?_))

theorem legal_is (w : World) (y m d : Int) (t1 t2 t3 : Tok) : Claim w 4 57 (1 ≤ d ∧ d ≤ mdays y m) [.int y t1, .int m t2, .int d t3] (fun _ => .bool true) := by
  unfold Claim
  k_fill
  intro mean mg mb news dp un gd cn cs a ccd cl outer A₀ base h₀ L m s Q E B F X N T hk hpre hdp hun hret
  refine wpAny_call ?_
  rename_i mo
  obtain ⟨hd1, hd2⟩ := hpre
  unfold mdays leapN at hd2
  by_cases hm : mo = 2
  · rw [if_pos hm] at hd2
    have hmb : (mo == 2) = true := by rw [hm]; rfl
    by_cases hl : leap y = true
    · rw [if_pos hl] at hd2
      k_dflt cell_enter
      k_steps
      all_goals exact ret_bool (Q := Q) hret rfl (by k_asm) (by k_asm)
    · rw [if_neg hl] at hd2
      have hlf : leap y = false := by simpa using hl
      k_dflt cell_enter
      k_steps
      all_goals exact ret_bool (Q := Q) hret rfl (by k_asm) (by k_asm)
  · rw [if_neg hm] at hd2
    have hmb : (mo == 2) = false := by simpa using hm
    by_cases h4 : mo = 4 ∨ mo = 6 ∨ mo = 9 ∨ mo = 11
    · rw [if_pos h4] at hd2
      have hdb : decide (mo = 4 ∨ mo = 6 ∨ mo = 9 ∨ mo = 11) = true := by simpa using h4
      k_dflt cell_enter
      k_steps
      all_goals exact ret_bool (Q := Q) hret rfl (by k_asm) (by k_asm)
    · rw [if_neg h4] at hd2
      have hdb : decide (mo = 4 ∨ mo = 6 ∨ mo = 9 ∨ mo = 11) = false := by simpa using h4
      k_dflt cell_enter
      k_steps
      all_goals exact ret_bool (Q := Q) hret rfl (by k_asm) (by k_asm)

end Mine

namespace Mine
open PySem PySem.W PyProof.Rows
local macro_rules | `(tactic| k_room) => `(tactic| ((try simp only [depth_under_make, depth_under_kw, depth_in1, depth_deeper, depth_caller, recursionLimit] at *); (try dsimp only [ktrTop] at *); omega))
local macro_rules | `(tactic| walk_at "compareOp In int ref") => `(tactic| (k_here; k_dflt (refine' in30 ?k1 ?_; (case k1 => k_in)); (try dsimp only)))
local macro_rules | `(tactic| walk_at "call ref") => `(tactic| (k_here; (with_reducible show wpAny _ _ (call (Value.ref 50) _) _ _ _); k_dflt (first | refine' Claim.use (isleap_t _ _ _) ?k1 ?k2 ?k3 ?k4 ?k5 ?kK (by assumption) ?kd ?ku ?_ | refine' Claim.use (isleap_f _ _ _) ?k1 ?k2 ?k3 ?k4 ?k5 ?kK (by assumption) ?kd ?ku ?_ | refine' Claim.use (isleap_is _ _ _) ?k1 ?k2 ?k3 ?k4 ?k5 ?kK trivial ?kd ?ku ?_);  k_dflt (skip; (case k1 => k_asm); (case k2 => k_asm); (case k3 => k_asm); (case k4 => k_asm); (case k5 => k_asm); (case kK => first | exact rfl | assumption); (case kd => simp only [recursionLimit] at *; omega); (case ku => simp only [cLine] at *; omega); intro t9 h9 tk9 F9 N9; (try dsimp only); (try k_fold))))

local macro_rules | `(tactic| walk_at "eval Call") => `(tactic| (k_here; refine Call_ ?_))

local macro_rules | `(tactic| walk_at "call ref") => `(tactic| (k_here; (with_reducible show wpAny _ _ (call (Value.ref 57) _) _ _ _); k_dflt (refine' Claim.use (legal_is _ _ _ _ _ _ _) ?k1 ?k2 ?k3 ?k4 ?k5 ?kK ?kp ?kd ?ku ?_; (case k1 => k_asm); (case k2 => k_asm); (case k3 => k_asm); (case k4 => k_asm); (case k5 => k_asm); (case kK => first | exact rfl | assumption); (case kp => (first | assumption | (refine ⟨?_, ?_⟩ <;> omega))); (case kd => simp only [recursionLimit] at *; omega); (case ku => simp only [cLine] at *; omega); intro t9 h9 tk9 F9 N9; (try dsimp only); (try k_fold))))
local macro_rules | `(tactic| walk_at "binaryOp Sub float int") => `(tactic| (k_here; k_dflt (refine' r_sub_fi rfl ?hx ?ha ?hn ?_; (case hx => first | with_reducible rfl | exact epoch_hf | exact half_hf); (case ha => omega); (case hn => omega)); (try dsimp only)))
local macro_rules | `(tactic| walk_at "binaryOp Add float int") => `(tactic| (k_here; k_dflt (first | (refine' r_add_fi rfl ?hx ?ha ?hn ?_; (case hx => first | with_reducible rfl | exact epoch_hf | exact half_hf); (case ha => omega); (case hn => omega)) | (refine' r_add_any rfl ?hn ?_; (case hn => omega))); (try dsimp only)))
local macro_rules | `(tactic| walk_at "binaryOp Add int float") => `(tactic| (k_here; k_dflt (refine' r_add_if rfl ?hx ?ha ?hn ?_; (case hx => first | with_reducible rfl | exact epoch_hf | exact half_hf); (case ha => omega); (case hn => omega)); (try dsimp only)))
local macro_rules | `(tactic| walk_at "binaryOp Sub float float") => `(tactic| (k_here; k_dflt (refine' r_sub_ff ?hx ?hy ?ha ?hb ?_; (case hx => first | with_reducible rfl | exact epoch_hf | exact half_hf); (case hy => first | with_reducible rfl | exact epoch_hf | exact half_hf); (case ha => omega); (case hb => omega)); (try dsimp only)))
local macro_rules | `(tactic| walk_at "binaryOp Add float float") => `(tactic| (k_here; k_dflt (refine' r_add_ff ?hx ?hy ?ha ?hb ?_; (case hx => first | with_reducible rfl | exact epoch_hf | exact half_hf); (case hy => first | with_reducible rfl | exact epoch_hf | exact half_hf); (case ha => omega); (case hb => omega)); (try dsimp only)))
local macro_rules | `(tactic| walk_at "binaryOp Mult float int") => `(tactic| (k_here; k_dflt (first | (refine' r_mul_fi rfl ?hx ?h1 ?h2 ?h3 ?h4 ?_; (case hx => with_reducible rfl); (case h1 => omega); (case h2 => omega); (case h3 => omega); (case h4 => omega)) | (refine' r_mul_306 rfl ?hn ?_; (case hn => omega))); (try dsimp only)))
local macro_rules | `(tactic| walk_at "binaryOp Div float int") => `(tactic| (k_here; k_dflt (refine' r_div_fi rfl ?hx ?h1 ?h2 ?_; (case hx => with_reducible rfl); (case h1 => omega); (case h2 => omega)); (try dsimp only)))
local macro_rules | `(tactic| walk_at "binaryOp Div int int") => `(tactic| (k_here; k_dflt (refine' r_div_ii rfl ?h1 ?h2 ?_; (case h1 => omega); (case h2 => omega)); (try dsimp only)))
local macro_rules | `(tactic| walk_at "binaryOp Mod float int") => `(tactic| (k_here; k_dflt (refine' r_mod_fi rfl ?hx ?h1 ?h2 ?h3 ?h4 ?_; (case hx => with_reducible rfl); (case h1 => omega); (case h2 => omega); (case h3 => omega); (case h4 => omega)); intro c' hc'; (try dsimp only)))
local macro_rules | `(tactic| walk_at "call builtin:math.floor") => `(tactic| (k_here; k_dflt (first | (refine' r_floor_hf rfl ?h1 ?_; (case h1 => omega)) | (refine' r_floor_div rfl ?h1 ?h2 ?h3 ?h4 ?h5 ?_; (case h1 => omega); (case h2 => omega); (case h3 => omega); (case h4 => omega); (case h5 => omega)) | (refine' r_floor_ii rfl ?h1 ?h2 ?h3 ?h4 ?_; (case h1 => omega); (case h2 => omega); (case h3 => omega); (case h4 => omega)) | (refine' r_floor_month rfl ?h1 ?h2 ?h3 ?h4 ?h5 ?h6 ?_; (case h1 => omega); (case h2 => omega); (case h3 => omega); (case h4 => omega); (case h5 => omega); (case h6 => omega))); intro v' hv'; (try dsimp only)))
local macro_rules | `(tactic| walk_at "call builtin:math.trunc") => `(tactic| (k_here; k_dflt (first | (refine' r_trunc_306 rfl ?h0 ?h1 ?h2 ?_; (case h0 => rfl); (case h1 => omega); (case h2 => omega)) | (refine' r_trunc_ii rfl ?h1 ?h2 ?h3 ?h4 ?_; (case h1 => omega); (case h2 => omega); (case h3 => omega); (case h4 => omega))); intro v' hv'; (try dsimp only)))
local macro_rules | `(tactic| walk_at "call type:int") => `(tactic| (k_here; k_dflt (refine' r_int rfl ?h1 ?h2 ?_; (case h1 => omega); (case h2 => omega)); intro v' hv'; (try dsimp only)))
local macro_rules | `(tactic| walk_at "binaryOp Add int bool") => `(tactic| (k_here; first | (with_reducible refine r_add_true ?_) | (with_reducible refine r_add_false ?_)))
local macro_rules | `(tactic| walk_at "binaryOp Sub int bool") => `(tactic| (k_here; first | (with_reducible refine r_sub_true ?_) | (with_reducible refine r_sub_false ?_)))
local macro_rules | `(tactic| walk_at "compareOp Lt float int") => `(tactic| (k_here; k_dflt (refine' r_lt_fi ?h1 ?_; (case h1 => omega)); (try dsimp only)))
local macro_rules | `(tactic| walk_at "compareOp NotEq float float") => `(tactic| (k_here; k_dflt (refine' r_ne_ff ?h1 ?h2 ?_; (case h1 => omega); (case h2 => omega)); (try dsimp only)))

theorem mdays_le (y m : Int) : mdays y m ≤ 31 := by
  unfold mdays leapN
  split
  · split <;> decide
  · split <;> decide
theorem leapN_cases (y : Int) : leapN y = 0 ∨ leapN y = 1 := by
  unfold leapN
  split <;> simp

theorem tojdg_is (w : World) (y m d : Int) (t1 t2 t3 : Tok) : Claim w 6 64 (1 ≤ y ∧ y ≤ 2000000 ∧ 1 ≤ m ∧ m ≤ 12 ∧ 1 ≤ d ∧ d ≤ mdays y m) [.int y t1, .int m t2, .int d t3] (fun t => .float (hf (3442849 + 2 * (days y + cum y m + d))) t) := by
  unfold Claim
  k_fill
  intro mean mg mb news dp un gd cn cs a ccd cl outer A₀ base h₀ L mm s Q E B F X N T hk hpre hdp hun hret
  refine wpAny_call ?_
  obtain ⟨hy1, hy2, hm1, hm2, hd1, hd2⟩ := hpre
  have hd3 : d ≤ 31 := Int.le_trans hd2 (mdays_le y m)
  have hdd : 1 ≤ d ∧ d ≤ mdays y m := ⟨hd1, hd2⟩
  by_cases hm : m ≤ 2
  · have hmb : decide (m ≤ 2) = true := by simpa using hm
    have hc : cum y m = (367 * m - 362) / 12 := by unfold cum; rw [if_pos hm]; omega
    k_dflt cell_enter
    k_steps
    all_goals (refine ret_float (Q := Q) hret ?_ (by k_asm) (by k_asm))
    all_goals exact congrArg hf (by rw [hc]; unfold days; omega)
  · have hmb : decide (m ≤ 2) = false := by simpa using hm
    by_cases hl : leap y = true
    · have hc : cum y m = (367 * m - 362) / 12 - 1 := by unfold cum leapN; rw [if_neg hm, if_pos hl]; omega
      k_dflt cell_enter
      k_steps
      all_goals (refine ret_float (Q := Q) hret ?_ (by k_asm) (by k_asm))
      all_goals exact congrArg hf (by rw [hc]; unfold days; omega)
    · have hlf : leap y = false := by simpa using hl
      have hc : cum y m = (367 * m - 362) / 12 - 2 := by unfold cum leapN; rw [if_neg hm, if_neg hl]; omega
      k_dflt cell_enter
      k_steps
      all_goals (refine ret_float (Q := Q) hret ?_ (by k_asm) (by k_asm))
      all_goals exact congrArg hf (by rw [hc]; unfold days; omega)

end Mine

namespace Mine
open PySem PySem.W PyProof.Rows
theorem mdays_pos (y m : Int) : 1 ≤ mdays y m := by
  unfold mdays leapN
  split
  · split <;> decide
  · split <;> decide
local macro_rules | `(tactic| k_room) => `(tactic| ((try simp only [depth_under_make, depth_under_kw, depth_in1, depth_deeper, depth_caller, recursionLimit] at *); (try dsimp only [ktrTop] at *); omega))
local macro_rules | `(tactic| walk_at "compareOp In int ref") => `(tactic| (k_here; k_dflt (refine' in30 ?k1 ?_; (case k1 => k_in)); (try dsimp only)))
local macro_rules | `(tactic| walk_at "call ref") => `(tactic| (k_here; (with_reducible show wpAny _ _ (call (Value.ref 50) _) _ _ _); k_dflt (first | refine' Claim.use (isleap_t _ _ _) ?k1 ?k2 ?k3 ?k4 ?k5 ?kK (by assumption) ?kd ?ku ?_ | refine' Claim.use (isleap_f _ _ _) ?k1 ?k2 ?k3 ?k4 ?k5 ?kK (by assumption) ?kd ?ku ?_ | refine' Claim.use (isleap_is _ _ _) ?k1 ?k2 ?k3 ?k4 ?k5 ?kK trivial ?kd ?ku ?_);  k_dflt (skip; (case k1 => k_asm); (case k2 => k_asm); (case k3 => k_asm); (case k4 => k_asm); (case k5 => k_asm); (case kK => first | exact rfl | assumption); (case kd => simp only [recursionLimit] at *; omega); (case ku => simp only [cLine] at *; omega); intro t9 h9 tk9 F9 N9; (try dsimp only); (try k_fold))))

local macro_rules | `(tactic| walk_at "eval Call") => `(tactic| (k_here; refine Call_ ?_))

local macro_rules | `(tactic| walk_at "call ref") => `(tactic| (k_here; (with_reducible show wpAny _ _ (call (Value.ref 57) _) _ _ _); k_dflt (refine' Claim.use (legal_is _ _ _ _ _ _ _) ?k1 ?k2 ?k3 ?k4 ?k5 ?kK ?kp ?kd ?ku ?_; (case k1 => k_asm); (case k2 => k_asm); (case k3 => k_asm); (case k4 => k_asm); (case k5 => k_asm); (case kK => first | exact rfl | assumption); (case kp => (first | assumption | (refine ⟨?_, ?_⟩ <;> omega))); (case kd => simp only [recursionLimit] at *; omega); (case ku => simp only [cLine] at *; omega); intro t9 h9 tk9 F9 N9; (try dsimp only); (try k_fold))))
local macro_rules | `(tactic| ktr_unf) => `(tactic| first | assumption | (refine ⟨?_, ?_, ?_, ?_, ?_, ?_⟩ <;> first | omega | exact mdays_pos _ _))
local macro_rules | `(tactic| walk_at "call ref") => `(tactic| (k_here; (with_reducible show wpAny _ _ (call (Value.ref 64) _) _ _ _); k_dflt (refine' Claim.use (tojdg_is _ _ _ _ _ _ _) ?k1 ?k2 ?k3 ?k4 ?k5 ?kK ?kp ?kd ?ku ?_; (case k1 => k_asm); (case k2 => k_asm); (case k3 => k_asm); (case k4 => k_asm); (case k5 => k_asm); (case kK => first | exact rfl | assumption); (case kp => ktr_unf); (case kd => simp only [recursionLimit] at *; omega); (case ku => simp only [cLine] at *; omega); intro t9 h9 tk9 F9 N9; (try dsimp only); (try k_fold))))
local macro_rules | `(tactic| walk_at "binaryOp Sub float int") => `(tactic| (k_here; k_dflt (refine' r_sub_fi rfl ?hx ?ha ?hn ?_; (case hx => first | with_reducible rfl | exact epoch_hf | exact half_hf); (case ha => omega); (case hn => omega)); (try dsimp only)))
local macro_rules | `(tactic| walk_at "binaryOp Add float int") => `(tactic| (k_here; k_dflt (first | (refine' r_add_fi rfl ?hx ?ha ?hn ?_; (case hx => first | with_reducible rfl | exact epoch_hf | exact half_hf); (case ha => omega); (case hn => omega)) | (refine' r_add_any rfl ?hn ?_; (case hn => omega))); (try dsimp only)))
local macro_rules | `(tactic| walk_at "binaryOp Add int float") => `(tactic| (k_here; k_dflt (refine' r_add_if rfl ?hx ?ha ?hn ?_; (case hx => first | with_reducible rfl | exact epoch_hf | exact half_hf); (case ha => omega); (case hn => omega)); (try dsimp only)))
local macro_rules | `(tactic| walk_at "binaryOp Sub float float") => `(tactic| (k_here; k_dflt (refine' r_sub_ff ?hx ?hy ?ha ?hb ?_; (case hx => first | with_reducible rfl | exact epoch_hf | exact half_hf); (case hy => first | with_reducible rfl | exact epoch_hf | exact half_hf); (case ha => omega); (case hb => omega)); (try dsimp only)))
local macro_rules | `(tactic| walk_at "binaryOp Add float float") => `(tactic| (k_here; k_dflt (refine' r_add_ff ?hx ?hy ?ha ?hb ?_; (case hx => first | with_reducible rfl | exact epoch_hf | exact half_hf); (case hy => first | with_reducible rfl | exact epoch_hf | exact half_hf); (case ha => omega); (case hb => omega)); (try dsimp only)))
local macro_rules | `(tactic| walk_at "binaryOp Mult float int") => `(tactic| (k_here; k_dflt (first | (refine' r_mul_fi rfl ?hx ?h1 ?h2 ?h3 ?h4 ?_; (case hx => with_reducible rfl); (case h1 => omega); (case h2 => omega); (case h3 => omega); (case h4 => omega)) | (refine' r_mul_306 rfl ?hn ?_; (case hn => omega))); (try dsimp only)))
local macro_rules | `(tactic| walk_at "binaryOp Div float int") => `(tactic| (k_here; k_dflt (refine' r_div_fi rfl ?hx ?h1 ?h2 ?_; (case hx => with_reducible rfl); (case h1 => omega); (case h2 => omega)); (try dsimp only)))
local macro_rules | `(tactic| walk_at "binaryOp Div int int") => `(tactic| (k_here; k_dflt (refine' r_div_ii rfl ?h1 ?h2 ?_; (case h1 => omega); (case h2 => omega)); (try dsimp only)))
local macro_rules | `(tactic| walk_at "binaryOp Mod float int") => `(tactic| (k_here; k_dflt (refine' r_mod_fi rfl ?hx ?h1 ?h2 ?h3 ?h4 ?_; (case hx => with_reducible rfl); (case h1 => omega); (case h2 => omega); (case h3 => omega); (case h4 => omega)); intro c' hc'; (try dsimp only)))
local macro_rules | `(tactic| walk_at "call builtin:math.floor") => `(tactic| (k_here; k_dflt (first | (refine' r_floor_hf rfl ?h1 ?_; (case h1 => omega)) | (refine' r_floor_div rfl ?h1 ?h2 ?h3 ?h4 ?h5 ?_; (case h1 => omega); (case h2 => omega); (case h3 => omega); (case h4 => omega); (case h5 => omega)) | (refine' r_floor_ii rfl ?h1 ?h2 ?h3 ?h4 ?_; (case h1 => omega); (case h2 => omega); (case h3 => omega); (case h4 => omega)) | (refine' r_floor_month rfl ?h1 ?h2 ?h3 ?h4 ?h5 ?h6 ?_; (case h1 => omega); (case h2 => omega); (case h3 => omega); (case h4 => omega); (case h5 => omega); (case h6 => omega))); intro v' hv'; (try dsimp only)))
local macro_rules | `(tactic| walk_at "call builtin:math.trunc") => `(tactic| (k_here; k_dflt (first | (refine' r_trunc_306 rfl ?h0 ?h1 ?h2 ?_; (case h0 => rfl); (case h1 => omega); (case h2 => omega)) | (refine' r_trunc_ii rfl ?h1 ?h2 ?h3 ?h4 ?_; (case h1 => omega); (case h2 => omega); (case h3 => omega); (case h4 => omega))); intro v' hv'; (try dsimp only)))
local macro_rules | `(tactic| walk_at "call type:int") => `(tactic| (k_here; k_dflt (refine' r_int rfl ?h1 ?h2 ?_; (case h1 => omega); (case h2 => omega)); intro v' hv'; (try dsimp only)))
local macro_rules | `(tactic| walk_at "binaryOp Add int bool") => `(tactic| (k_here; first | (with_reducible refine r_add_true ?_) | (with_reducible refine r_add_false ?_)))
local macro_rules | `(tactic| walk_at "binaryOp Sub int bool") => `(tactic| (k_here; first | (with_reducible refine r_sub_true ?_) | (with_reducible refine r_sub_false ?_)))
local macro_rules | `(tactic| walk_at "compareOp Lt float int") => `(tactic| (k_here; k_dflt (refine' r_lt_fi ?h1 ?_; (case h1 => omega)); (try dsimp only)))
local macro_rules | `(tactic| walk_at "compareOp NotEq float float") => `(tactic| (k_here; k_dflt (refine' r_ne_ff ?h1 ?h2 ?_; (case h1 => omega); (case h2 => omega)); (try dsimp only)))

theorem cum1 (y : Int) : cum y 1 = 0 := by unfold cum; simp
theorem tojdo_is (w : World) (y p : Int) (t1 t2 : Tok) : Claim w 8 78 (1 ≤ y ∧ y ≤ 2000000 ∧ -200000 ≤ p ∧ p ≤ 200000) [.int y t1, .int p t2] (fun t => .float (hf (3442849 + 2 * (days y + p))) t) := by
  unfold Claim
  k_fill
  intro mean mg mb news dp un gd cn cs a ccd cl outer A₀ base h₀ L mm s Q E B F X N T hk hpre hdp hun hret
  refine wpAny_call ?_
  obtain ⟨hy1, hy2, hp1, hp2⟩ := hpre
  have hdays : 0 ≤ days y ∧ days y ≤ 800000000 := by unfold days; omega
  have hc1 := cum1 y
  k_dflt cell_enter
  k_steps
  all_goals (refine ret_float (Q := Q) hret ?_ (by k_asm) (by k_asm))
  all_goals exact congrArg hf (by omega)

/-- the same of a def that hands back a pair, a triple of ints -/
abbrev Claim2 (w : World) (k : Nat) (f : Addr) (pre : Prop) (vs : List Value) (r1 r2 : Int) : Prop :=
  ∀ (mean : ExcName → Option Value) (mg mb : Str → Option Value) (news : List (Addr × Obj)) (dp un : Nat) (gd : Option (List Code)) (cn : Str) (cs : Scope) (a : Addr) (ccd : Value) (cl : List (Str × Addr)) (outer : List Env) (A₀ : Around) (base h₀ : Heap) (L : Addr) (m : Str → Option Value) (s : Shared) (Q E : Value → Shared → Prop),
    Below A₀ base outer h₀ → Fr h₀ L s.heap m → (hd.heap_39 w.params).In h₀ → News h₀ L s.heap news → Top hd.view_39 (looseW hd.view_39 LOOSE) mean mg mb h₀ → cs.kind = .function →
    pre → dp + k < recursionLimit → un + 8 * k < cLine →
    (∀ (D : Addr) (t1 t2 : Tok) (c : Nat) (h' : Heap) (tk' : Nat), Fr h₀ L h' m → News h₀ L h' ((D, ({ cls := .type "tuple", data := .seq #[.int r1 t1, .int r2 t2] c } : Obj)) :: news) → AllLt D news → Q (.ref D) { s with heap := h', toks := tk' }) →
      wpAny (model PySem.Challenge.rw_ba5006_01.row.prog w) (ktrTop dp un gd cn cs L a ccd cl outer) (call (.ref f) vs) Q E s
abbrev Claim3 (w : World) (k : Nat) (f : Addr) (pre : Prop) (vs : List Value) (r1 r2 r3 : Int) : Prop :=
  ∀ (mean : ExcName → Option Value) (mg mb : Str → Option Value) (news : List (Addr × Obj)) (dp un : Nat) (gd : Option (List Code)) (cn : Str) (cs : Scope) (a : Addr) (ccd : Value) (cl : List (Str × Addr)) (outer : List Env) (A₀ : Around) (base h₀ : Heap) (L : Addr) (m : Str → Option Value) (s : Shared) (Q E : Value → Shared → Prop),
    Below A₀ base outer h₀ → Fr h₀ L s.heap m → (hd.heap_39 w.params).In h₀ → News h₀ L s.heap news → Top hd.view_39 (looseW hd.view_39 LOOSE) mean mg mb h₀ → cs.kind = .function →
    pre → dp + k < recursionLimit → un + 8 * k < cLine →
    (∀ (D : Addr) (t1 t2 t3 : Tok) (c : Nat) (h' : Heap) (tk' : Nat), Fr h₀ L h' m → News h₀ L h' ((D, ({ cls := .type "tuple", data := .seq #[.int r1 t1, .int r2 t2, .int r3 t3] c } : Obj)) :: news) → AllLt D news → Q (.ref D) { s with heap := h', toks := tk' }) →
      wpAny (model PySem.Challenge.rw_ba5006_01.row.prog w) (ktrTop dp un gd cn cs L a ccd cl outer) (call (.ref f) vs) Q E s
section
variable {h₀ h' : Heap} {L D : Addr} {m : Str → Option Value} {news news' : List (Addr × Obj)} {s : Shared} {Q : Value → Shared → Prop} {t1 t2 t3 : Tok} {c tk' : Nat} {r1 r2 r3 a1 a2 a3 : Int}
theorem ret_two (hret : ∀ (D : Addr) (t1 t2 : Tok) (c : Nat) (h' : Heap) (tk' : Nat), Fr h₀ L h' m → News h₀ L h' ((D, ({ cls := .type "tuple", data := .seq #[.int r1 t1, .int r2 t2] c } : Obj)) :: news) → AllLt D news → Q (.ref D) { s with heap := h', toks := tk' })
    (F : Fr h₀ L h' m) (N : News h₀ L h' ((D, ({ cls := .type "tuple", data := .seq #[.int a1 t1, .int a2 t2] c } : Obj)) :: news')) (hl : AllLt D news) (hs : ∀ p ∈ news, p ∈ news') (e1 : a1 = r1) (e2 : a2 = r2) : Q (.ref D) { s with heap := h', toks := tk' } := by
  subst e1; subst e2
  refine hret D t1 t2 c h' tk' F (fun p hp => N p ?_) hl
  rcases List.mem_cons.mp hp with rfl | hp
  · exact .head _
  · exact .tail _ (hs p hp)
theorem ret_three (hret : ∀ (D : Addr) (t1 t2 t3 : Tok) (c : Nat) (h' : Heap) (tk' : Nat), Fr h₀ L h' m → News h₀ L h' ((D, ({ cls := .type "tuple", data := .seq #[.int r1 t1, .int r2 t2, .int r3 t3] c } : Obj)) :: news) → AllLt D news → Q (.ref D) { s with heap := h', toks := tk' })
    (F : Fr h₀ L h' m) (N : News h₀ L h' ((D, ({ cls := .type "tuple", data := .seq #[.int a1 t1, .int a2 t2, .int a3 t3] c } : Obj)) :: news')) (hl : AllLt D news) (hs : ∀ p ∈ news, p ∈ news') (e1 : a1 = r1) (e2 : a2 = r2) (e3 : a3 = r3) : Q (.ref D) { s with heap := h', toks := tk' } := by
  subst e1; subst e2; subst e3
  refine hret D t1 t2 t3 c h' tk' F (fun p hp => N p ?_) hl
  rcases List.mem_cons.mp hp with rfl | hp
  · exact .head _
  · exact .tail _ (hs p hp)
end

theorem months_306 {m : Int} (h : 3 ≤ m) (h2 : m ≤ 12) : (367 * m - 362) / 12 - 2 = 306 * (m + 1) / 10 - 63 := by
  have : m = 3 ∨ m = 4 ∨ m = 5 ∨ m = 6 ∨ m = 7 ∨ m = 8 ∨ m = 9 ∨ m = 10 ∨ m = 11 ∨ m = 12 := by omega
  rcases this with rfl | rfl | rfl | rfl | rfl | rfl | rfl | rfl | rfl | rfl <;> rfl
theorem cum_le2 {y m : Int} (h : m ≤ 2) : cum y m = (367 * m - 362) / 12 := by unfold cum; rw [if_pos h]; omega
theorem cum_ge3 {y m : Int} (h : 3 ≤ m) : cum y m = (367 * m - 362) / 12 + leapN y - 2 := by unfold cum; rw [if_neg (by omega)]; omega
theorem leapN_if (y : Int) : (if leap y = true then (1 : Int) else 0) = leapN y := rfl

theorem fromg_is (w : World) (y m d : Int) (t1 t2 t3 : Tok) : Claim2 w 6 92 (1 ≤ y ∧ y ≤ 2000000 ∧ 1 ≤ m ∧ m ≤ 12 ∧ 1 ≤ d ∧ d ≤ mdays y m) [.int y t1, .int m t2, .int d t3] y (cum y m + d) := by
  unfold Claim2
  k_fill
  intro mean mg mb news dp un gd cn cs a ccd cl outer A₀ base h₀ L mm s Q E B F X N T hk hpre hdp hun hret
  refine wpAny_call ?_
  obtain ⟨hy1, hy2, hm1, hm2, hd1, hd2⟩ := hpre
  have hd3 : d ≤ 31 := Int.le_trans hd2 (mdays_le y m)
  have hc : (m ≤ 2 ∧ cum y m = (367 * m - 362) / 12) ∨ (3 ≤ m ∧ cum y m = 306 * (m + 1) / 10 - 63 + leapN y) := by
    by_cases hm : m ≤ 2
    · exact .inl ⟨hm, cum_le2 (y := y) hm⟩
    · have h1 := cum_ge3 (y := y) (m := m) (by omega)
      have h2 := months_306 (m := m) (by omega) hm2
      exact .inr ⟨by omega, by omega⟩
  rcases Bool.eq_false_or_eq_true (leap y) with hl | hl
  · have hN : leapN y = 1 := by unfold leapN; rw [if_pos hl]
    k_dflt cell_enter
    k_steps
    all_goals (refine ret_two (Q := Q) hret (by k_asm) (by k_asm) (by first | assumption | exact allLt_of (by assumption)) (fun p hp => hp) rfl ?_)
    all_goals (clear hret; omega)
  · have hN : leapN y = 0 := by unfold leapN; rw [if_neg (by rw [hl]; decide)]
    k_dflt cell_enter
    k_steps
    all_goals (refine ret_two (Q := Q) hret (by k_asm) (by k_asm) (by first | assumption | exact allLt_of (by assumption)) (fun p hp => hp) rfl ?_)
    all_goals (clear hret; omega)

end Mine

namespace Mine
open PySem PySem.W PyProof.Rows
theorem Claim2.use {w : World} {k : Nat} {f : Addr} {pre : Prop} {vs : List Value} {r1 r2 : Int} (C : Claim2 w k f pre vs r1 r2) {mean : ExcName → Option Value} {mg mb : Str → Option Value} {news : List (Addr × Obj)} {dp un : Nat} {gd : Option (List Code)} {cn : Str} {cs : Scope} {a : Addr} {ccd : Value} {cl : List (Str × Addr)} {outer : List Env} {A₀ : Around} {base h₀ : Heap} {L : Addr} {m : Str → Option Value} {s : Shared} {Q E : Value → Shared → Prop}
    (B : Below A₀ base outer h₀) (F : Fr h₀ L s.heap m) (X : (hd.heap_39 w.params).In h₀) (N : News h₀ L s.heap news) (T : Top hd.view_39 (looseW hd.view_39 LOOSE) mean mg mb h₀) (hk : cs.kind = .function)
    (hp : pre) (hd : dp + k < recursionLimit) (hu : un + 8 * k < cLine)
    (ret : ∀ (D : Addr) (t1 t2 : Tok) (c : Nat) (h' : Heap) (tk' : Nat), Fr h₀ L h' m → News h₀ L h' ((D, ({ cls := .type "tuple", data := .seq #[.int r1 t1, .int r2 t2] c } : Obj)) :: news) → AllLt D news → Q (.ref D) { s with heap := h', toks := tk' }) :
      wpAny (model PySem.Challenge.rw_ba5006_01.row.prog w) (ktrTop dp un gd cn cs L a ccd cl outer) (call (.ref f) vs) Q E s :=
  C mean mg mb news dp un gd cn cs a ccd cl outer A₀ base h₀ L m s Q E B F X N T hk hp hd hu ret
theorem Claim3.use {w : World} {k : Nat} {f : Addr} {pre : Prop} {vs : List Value} {r1 r2 r3 : Int} (C : Claim3 w k f pre vs r1 r2 r3) {mean : ExcName → Option Value} {mg mb : Str → Option Value} {news : List (Addr × Obj)} {dp un : Nat} {gd : Option (List Code)} {cn : Str} {cs : Scope} {a : Addr} {ccd : Value} {cl : List (Str × Addr)} {outer : List Env} {A₀ : Around} {base h₀ : Heap} {L : Addr} {m : Str → Option Value} {s : Shared} {Q E : Value → Shared → Prop}
    (B : Below A₀ base outer h₀) (F : Fr h₀ L s.heap m) (X : (hd.heap_39 w.params).In h₀) (N : News h₀ L s.heap news) (T : Top hd.view_39 (looseW hd.view_39 LOOSE) mean mg mb h₀) (hk : cs.kind = .function)
    (hp : pre) (hd : dp + k < recursionLimit) (hu : un + 8 * k < cLine)
    (ret : ∀ (D : Addr) (t1 t2 t3 : Tok) (c : Nat) (h' : Heap) (tk' : Nat), Fr h₀ L h' m → News h₀ L h' ((D, ({ cls := .type "tuple", data := .seq #[.int r1 t1, .int r2 t2, .int r3 t3] c } : Obj)) :: news) → AllLt D news → Q (.ref D) { s with heap := h', toks := tk' }) :
      wpAny (model PySem.Challenge.rw_ba5006_01.row.prog w) (ktrTop dp un gd cn cs L a ccd cl outer) (call (.ref f) vs) Q E s :=
  C mean mg mb news dp un gd cn cs a ccd cl outer A₀ base h₀ L m s Q E B F X N T hk hp hd hu ret

local macro_rules | `(tactic| k_room) => `(tactic| ((try simp only [depth_under_make, depth_under_kw, depth_in1, depth_deeper, depth_caller, recursionLimit] at *); (try dsimp only [ktrTop] at *); omega))
local macro_rules | `(tactic| walk_at "compareOp In int ref") => `(tactic| (k_here; k_dflt (refine' in30 ?k1 ?_; (case k1 => k_in)); (try dsimp only)))
local macro_rules | `(tactic| walk_at "call ref") => `(tactic| (k_here; (with_reducible show wpAny _ _ (call (Value.ref 50) _) _ _ _); k_dflt (first | refine' Claim.use (isleap_t _ _ _) ?k1 ?k2 ?k3 ?k4 ?k5 ?kK (by assumption) ?kd ?ku ?_ | refine' Claim.use (isleap_f _ _ _) ?k1 ?k2 ?k3 ?k4 ?k5 ?kK (by assumption) ?kd ?ku ?_ | refine' Claim.use (isleap_is _ _ _) ?k1 ?k2 ?k3 ?k4 ?k5 ?kK trivial ?kd ?ku ?_);  k_dflt (skip; (case k1 => k_asm); (case k2 => k_asm); (case k3 => k_asm); (case k4 => k_asm); (case k5 => k_asm); (case kK => first | exact rfl | assumption); (case kd => simp only [recursionLimit] at *; omega); (case ku => simp only [cLine] at *; omega); intro t9 h9 tk9 F9 N9; (try dsimp only); (try k_fold))))

local macro_rules | `(tactic| walk_at "eval Call") => `(tactic| (k_here; refine Call_ ?_))

local macro_rules | `(tactic| walk_at "call ref") => `(tactic| (k_here; (with_reducible show wpAny _ _ (call (Value.ref 57) _) _ _ _); k_dflt (refine' Claim.use (legal_is _ _ _ _ _ _ _) ?k1 ?k2 ?k3 ?k4 ?k5 ?kK ?kp ?kd ?ku ?_; (case k1 => k_asm); (case k2 => k_asm); (case k3 => k_asm); (case k4 => k_asm); (case k5 => k_asm); (case kK => first | exact rfl | assumption); (case kp => (first | assumption | (refine ⟨?_, ?_⟩ <;> omega))); (case kd => simp only [recursionLimit] at *; omega); (case ku => simp only [cLine] at *; omega); intro t9 h9 tk9 F9 N9; (try dsimp only); (try k_fold))))
local macro_rules | `(tactic| ktr_unf) => `(tactic| first | assumption | (refine ⟨?_, ?_, ?_, ?_, ?_, ?_⟩ <;> first | omega | exact mdays_pos _ _))
local macro_rules | `(tactic| walk_at "call ref") => `(tactic| (k_here; (with_reducible show wpAny _ _ (call (Value.ref 64) _) _ _ _); k_dflt (refine' Claim.use (tojdg_is _ _ _ _ _ _ _) ?k1 ?k2 ?k3 ?k4 ?k5 ?kK ?kp ?kd ?ku ?_; (case k1 => k_asm); (case k2 => k_asm); (case k3 => k_asm); (case k4 => k_asm); (case k5 => k_asm); (case kK => first | exact rfl | assumption); (case kp => ktr_unf); (case kd => simp only [recursionLimit] at *; omega); (case ku => simp only [cLine] at *; omega); intro t9 h9 tk9 F9 N9; (try dsimp only); (try k_fold))))
local macro_rules | `(tactic| walk_at "call ref") => `(tactic| (k_here; (with_reducible show wpAny _ _ (call (Value.ref 92) _) _ _ _); k_dflt (refine' Claim2.use (fromg_is _ _ _ _ _ _ _) ?k1 ?k2 ?k3 ?k4 ?k5 ?kK ?kp ?kd ?ku ?_; (case k1 => k_asm); (case k2 => k_asm); (case k3 => k_asm); (case k4 => k_asm); (case k5 => k_asm); (case kK => first | exact rfl | assumption); (case kp => ktr_unf); (case kd => simp only [recursionLimit] at *; omega); (case ku => simp only [cLine] at *; omega); intro D9 t9a t9b c9 h9 tk9 F9 N9 l9; (try simp only [AllLt, and_true] at l9); (try dsimp only); (try k_fold))))
local macro_rules | `(tactic| walk_at "binaryOp Sub float int") => `(tactic| (k_here; k_dflt (refine' r_sub_fi rfl ?hx ?ha ?hn ?_; (case hx => first | with_reducible rfl | exact epoch_hf | exact half_hf); (case ha => omega); (case hn => omega)); (try dsimp only)))
local macro_rules | `(tactic| walk_at "binaryOp Add float int") => `(tactic| (k_here; k_dflt (first | (refine' r_add_fi rfl ?hx ?ha ?hn ?_; (case hx => first | with_reducible rfl | exact epoch_hf | exact half_hf); (case ha => omega); (case hn => omega)) | (refine' r_add_any rfl ?hn ?_; (case hn => omega))); (try dsimp only)))
local macro_rules | `(tactic| walk_at "binaryOp Add int float") => `(tactic| (k_here; k_dflt (refine' r_add_if rfl ?hx ?ha ?hn ?_; (case hx => first | with_reducible rfl | exact epoch_hf | exact half_hf); (case ha => omega); (case hn => omega)); (try dsimp only)))
local macro_rules | `(tactic| walk_at "binaryOp Sub float float") => `(tactic| (k_here; k_dflt (refine' r_sub_ff ?hx ?hy ?ha ?hb ?_; (case hx => first | with_reducible rfl | exact epoch_hf | exact half_hf); (case hy => first | with_reducible rfl | exact epoch_hf | exact half_hf); (case ha => omega); (case hb => omega)); (try dsimp only)))
local macro_rules | `(tactic| walk_at "binaryOp Add float float") => `(tactic| (k_here; k_dflt (refine' r_add_ff ?hx ?hy ?ha ?hb ?_; (case hx => first | with_reducible rfl | exact epoch_hf | exact half_hf); (case hy => first | with_reducible rfl | exact epoch_hf | exact half_hf); (case ha => omega); (case hb => omega)); (try dsimp only)))
local macro_rules | `(tactic| walk_at "binaryOp Mult float int") => `(tactic| (k_here; k_dflt (first | (refine' r_mul_fi rfl ?hx ?h1 ?h2 ?h3 ?h4 ?_; (case hx => with_reducible rfl); (case h1 => omega); (case h2 => omega); (case h3 => omega); (case h4 => omega)) | (refine' r_mul_306 rfl ?hn ?_; (case hn => omega))); (try dsimp only)))
local macro_rules | `(tactic| walk_at "binaryOp Div float int") => `(tactic| (k_here; k_dflt (refine' r_div_fi rfl ?hx ?h1 ?h2 ?_; (case hx => with_reducible rfl); (case h1 => omega); (case h2 => omega)); (try dsimp only)))
local macro_rules | `(tactic| walk_at "binaryOp Div int int") => `(tactic| (k_here; k_dflt (refine' r_div_ii rfl ?h1 ?h2 ?_; (case h1 => omega); (case h2 => omega)); (try dsimp only)))
local macro_rules | `(tactic| walk_at "binaryOp Mod float int") => `(tactic| (k_here; k_dflt (refine' r_mod_fi rfl ?hx ?h1 ?h2 ?h3 ?h4 ?_; (case hx => with_reducible rfl); (case h1 => omega); (case h2 => omega); (case h3 => omega); (case h4 => omega)); intro c' hc'; (try dsimp only)))
local macro_rules | `(tactic| walk_at "call builtin:math.floor") => `(tactic| (k_here; k_dflt (first | (refine' r_floor_hf rfl ?h1 ?_; (case h1 => omega)) | (refine' r_floor_div rfl ?h1 ?h2 ?h3 ?h4 ?h5 ?_; (case h1 => omega); (case h2 => omega); (case h3 => omega); (case h4 => omega); (case h5 => omega)) | (refine' r_floor_ii rfl ?h1 ?h2 ?h3 ?h4 ?_; (case h1 => omega); (case h2 => omega); (case h3 => omega); (case h4 => omega)) | (refine' r_floor_month rfl ?h1 ?h2 ?h3 ?h4 ?h5 ?h6 ?_; (case h1 => omega); (case h2 => omega); (case h3 => omega); (case h4 => omega); (case h5 => omega); (case h6 => omega))); intro v' hv'; (try dsimp only)))
local macro_rules | `(tactic| walk_at "call builtin:math.trunc") => `(tactic| (k_here; k_dflt (first | (refine' r_trunc_306 rfl ?h0 ?h1 ?h2 ?_; (case h0 => rfl); (case h1 => omega); (case h2 => omega)) | (refine' r_trunc_ii rfl ?h1 ?h2 ?h3 ?h4 ?_; (case h1 => omega); (case h2 => omega); (case h3 => omega); (case h4 => omega))); intro v' hv'; (try dsimp only)))
local macro_rules | `(tactic| walk_at "call type:int") => `(tactic| (k_here; k_dflt (refine' r_int rfl ?h1 ?h2 ?_; (case h1 => omega); (case h2 => omega)); intro v' hv'; (try dsimp only)))
local macro_rules | `(tactic| walk_at "binaryOp Add int bool") => `(tactic| (k_here; first | (with_reducible refine r_add_true ?_) | (with_reducible refine r_add_false ?_)))
local macro_rules | `(tactic| walk_at "binaryOp Sub int bool") => `(tactic| (k_here; first | (with_reducible refine r_sub_true ?_) | (with_reducible refine r_sub_false ?_)))
local macro_rules | `(tactic| walk_at "compareOp Lt float int") => `(tactic| (k_here; k_dflt (refine' r_lt_fi ?h1 ?_; (case h1 => omega)); (try dsimp only)))
local macro_rules | `(tactic| walk_at "compareOp NotEq float float") => `(tactic| (k_here; k_dflt (refine' r_ne_ff ?h1 ?h2 ?_; (case h1 => omega); (case h2 => omega)); (try dsimp only)))

theorem month_inv {y m d adj r v : Int} (h1 : 1 ≤ m) (h2 : m ≤ 12) (hd1 : 1 ≤ d) (hd2 : d ≤ mdays y m) (hr : r = cum y m + d)
    (hadj : (r < 59 + leapN y ∧ adj = 0) ∨ (59 + leapN y ≤ r ∧ adj = 2 - leapN y)) (hv : v = ((r - 1 + adj) * 12 + 373) / 367) : v = m := by
  have hl := leapN_cases y
  unfold cum at hr
  unfold mdays at hd2
  generalize leapN y = l at *
  have : m = 1 ∨ m = 2 ∨ m = 3 ∨ m = 4 ∨ m = 5 ∨ m = 6 ∨ m = 7 ∨ m = 8 ∨ m = 9 ∨ m = 10 ∨ m = 11 ∨ m = 12 := by omega
  rcases this with rfl | rfl | rfl | rfl | rfl | rfl | rfl | rfl | rfl | rfl | rfl | rfl <;> simp at hr hd2 <;> omega
theorem tog_end {y m d adj r v : Int} (h1 : 1 ≤ m) (h2 : m ≤ 12) (hd1 : 1 ≤ d) (hd2 : d ≤ mdays y m) (hr : r = cum y m + d)
    (hadj : (r < 59 + leapN y ∧ adj = 0) ∨ (59 + leapN y ≤ r ∧ adj = 2 - leapN y)) (hv : v = ((r - 1 + adj) * 12 + 373) / 367) : v = m ∧ r - (cum y v + 1) + 1 = d := by
  have e := month_inv h1 h2 hd1 hd2 hr hadj hv
  refine ⟨e, ?_⟩
  rw [e]
  omega
theorem rest_le {y m d r : Int} (h1 : 1 ≤ m) (h2 : m ≤ 12) (hd1 : 1 ≤ d) (hd2 : d ≤ mdays y m) (hr : r = cum y m + d) : 1 ≤ r ∧ r ≤ 365 + leapN y := by
  have hl := leapN_cases y
  unfold cum at hr
  unfold mdays at hd2
  generalize leapN y = l at *
  have : m = 1 ∨ m = 2 ∨ m = 3 ∨ m = 4 ∨ m = 5 ∨ m = 6 ∨ m = 7 ∨ m = 8 ∨ m = 9 ∨ m = 10 ∨ m = 11 ∨ m = 12 := by omega
  rcases this with rfl | rfl | rfl | rfl | rfl | rfl | rfl | rfl | rfl | rfl | rfl | rfl <;> simp at hr hd2 <;> omega

theorem tog_is (w : World) (y r : Int) (t1 t2 : Tok) (m d : Int) : Claim3 w 8 99 (1 ≤ y ∧ y ≤ 2000000 ∧ 1 ≤ m ∧ m ≤ 12 ∧ 1 ≤ d ∧ d ≤ mdays y m ∧ r = cum y m + d) [.int y t1, .int r t2] y m d := by
  unfold Claim3
  k_fill
  intro mean mg mb news dp un gd cn cs a ccd cl outer A₀ base h₀ L mm s Q E B F X N T hk hpre hdp hun hret
  refine wpAny_call ?_
  obtain ⟨hy1, hy2, hm1, hm2, hd1, hd2, hr⟩ := hpre
  have hrl := rest_le hm1 hm2 hd1 hd2 hr
  rcases Bool.eq_false_or_eq_true (leap y) with hl | hl
  · have hN : leapN y = 1 := by unfold leapN; rw [if_pos hl]
    k_dflt cell_enter
    k_steps
    all_goals (refine ret_three (Q := Q) hret (by k_asm) (by k_asm) (by first | assumption | exact allLt_of (by assumption) | exact And.right (by assumption)) (fun p hp => .tail _ hp) rfl ?_ ?_)
    all_goals first | (refine (tog_end (y := y) hm1 hm2 hd1 hd2 hr ?_ (by assumption)).1; clear hret; omega) | (refine (tog_end (y := y) hm1 hm2 hd1 hd2 hr ?_ (by assumption)).2; clear hret; omega)
  · have hN : leapN y = 0 := by unfold leapN; rw [if_neg (by rw [hl]; decide)]
    k_dflt cell_enter
    k_steps
    all_goals (refine ret_three (Q := Q) hret (by k_asm) (by k_asm) (by first | assumption | exact allLt_of (by assumption) | exact And.right (by assumption)) (fun p hp => .tail _ hp) rfl ?_ ?_)
    all_goals first | (refine (tog_end (y := y) hm1 hm2 hd1 hd2 hr ?_ (by assumption)).1; clear hret; omega) | (refine (tog_end (y := y) hm1 hm2 hd1 hd2 hr ?_ (by assumption)).2; clear hret; omega)

end Mine

namespace Mine
theorem days_bounds {y : Int} (h1 : 1 ≤ y) (h2 : y ≤ 2000000) : 0 ≤ days y ∧ days y ≤ 800000000 := by unfold days; omega
/-- a date, and its place in the year -/
structure Dt (y m d r : Int) : Prop where
  y1 : 1 ≤ y
  y2 : y ≤ 2000000
  m1 : 1 ≤ m
  m2 : m ≤ 12
  d1 : 1 ≤ d
  d2 : d ≤ mdays y m
  hr : r = cum y m + d
theorem leapN_parts {y b c e : Int} (hb : b = (y - 1) % 400 / 100) (hc : c = (y - 1) % 100 / 4) (he : e = (y - 1) % 4) : leapN y = 0 ∨ (leapN y = 1 ∧ e = 3 ∧ (c ≠ 24 ∨ b = 3)) := by
  unfold leapN leap
  by_cases h : y % 4 = 0 ∧ (y % 100 ≠ 0 ∨ y % 400 = 0)
  · right
    rw [if_pos (by simpa using h)]
    omega
  · left
    rw [if_neg (by simpa using h)]
theorem year_inv {y m d r X v2 c1 v3 c2 v4 c3 v5 : Int} (D : Dt y m d r) (h2 : v2 = X / (2 * 146097)) (g1 : c1 = X % (2 * 146097)) (h3 : v3 = c1 / (2 * 36524)) (g2 : c2 = c1 % (2 * 36524)) (h4 : v4 = c2 / (2 * 1461)) (g3 : c3 = c2 % (2 * 1461)) (h5 : v5 = c3 / (2 * 365))
    (hX : X = 2 * (days y + r - 1)) : ((v3 = 4 ∨ v5 = 4) → v2 * 400 + v3 * 100 + v4 * 4 + v5 = y) ∧ (¬(v3 = 4 ∨ v5 = 4) → v2 * 400 + v3 * 100 + v4 * 4 + v5 + 1 = y) := by
  have hr := rest_le D.m1 D.m2 D.d1 D.d2 D.hr
  have hl := leapN_parts (y := y) rfl rfl rfl
  have e0 : y - 1 = 400 * ((y - 1) / 400) + 100 * ((y - 1) % 400 / 100) + 4 * ((y - 1) % 100 / 4) + (y - 1) % 4 := by omega
  have ed : days y = 146097 * ((y - 1) / 400) + 36524 * ((y - 1) % 400 / 100) + 1461 * ((y - 1) % 100 / 4) + 365 * ((y - 1) % 4) := by unfold days; omega
  have ha : 0 ≤ (y - 1) / 400 := by have := D.y1; omega
  have hb : 0 ≤ (y - 1) % 400 / 100 ∧ (y - 1) % 400 / 100 ≤ 3 := by omega
  have hc : 0 ≤ (y - 1) % 100 / 4 ∧ (y - 1) % 100 / 4 ≤ 24 := by omega
  have he : 0 ≤ (y - 1) % 4 ∧ (y - 1) % 4 ≤ 3 := by omega
  generalize (y - 1) / 400 = a at *
  generalize (y - 1) % 400 / 100 = b at *
  generalize (y - 1) % 100 / 4 = c at *
  generalize (y - 1) % 4 = e at *
  generalize leapN y = l at *
  generalize days y = dy at *
  clear D
  have s2 : v2 = a := by omega
  have t1 : c1 = 2 * (36524 * b + 1461 * c + 365 * e + (r - 1)) := by omega
  by_cases hx : 1461 * c + 365 * e + (r - 1) < 36524
  · have s3 : v3 = b := by omega
    have t2 : c2 = 2 * (1461 * c + 365 * e + (r - 1)) := by omega
    have s4 : v4 = c := by omega
    have t3 : c3 = 2 * (365 * e + (r - 1)) := by omega
    omega
  · have s3 : v3 = 4 := by omega
    have t2 : c2 = 0 := by omega
    omega
theorem year_eq1 {y m d r X v2 c1 v3 c2 v4 c3 v5 : Int} (D : Dt y m d r) (h2 : v2 = X / (2 * 146097)) (g1 : c1 = X % (2 * 146097)) (h3 : v3 = c1 / (2 * 36524)) (g2 : c2 = c1 % (2 * 36524)) (h4 : v4 = c2 / (2 * 1461)) (g3 : c3 = c2 % (2 * 1461)) (h5 : v5 = c3 / (2 * 365))
    (hX : X = 2 * (days y + r - 1)) (hc : v3 = 4 ∨ v5 = 4) : v2 * 400 + v3 * 100 + v4 * 4 + v5 = y := (year_inv D h2 g1 h3 g2 h4 g3 h5 hX).1 hc
theorem year_eq2 {y m d r X v2 c1 v3 c2 v4 c3 v5 : Int} (D : Dt y m d r) (h2 : v2 = X / (2 * 146097)) (g1 : c1 = X % (2 * 146097)) (h3 : v3 = c1 / (2 * 36524)) (g2 : c2 = c1 % (2 * 36524)) (h4 : v4 = c2 / (2 * 1461)) (g3 : c3 = c2 % (2 * 1461)) (h5 : v5 = c3 / (2 * 365))
    (hX : X = 2 * (days y + r - 1)) (hc : ¬(v3 = 4 ∨ v5 = 4)) : v2 * 400 + v3 * 100 + v4 * 4 + v5 + 1 = y := (year_inv D h2 g1 h3 g2 h4 g3 h5 hX).2 hc
theorem month_eq {y m d r X v : Int} (D : Dt y m d r) (hv : v = X / (2 * 367))
    (hX : (r < 59 + leapN y ∧ X = ((r - 1) * 12 + 373) * 2) ∨ (59 + leapN y ≤ r ∧ X = ((r - 1 + 2 - leapN y) * 12 + 373) * 2)) : v = m := by
  rcases hX with h | h
  · exact month_inv (adj := 0) D.m1 D.m2 D.d1 D.d2 D.hr (.inl ⟨h.1, rfl⟩) (by omega)
  · exact month_inv (adj := 2 - leapN y) D.m1 D.m2 D.d1 D.d2 D.hr (.inr ⟨h.1, rfl⟩) (by omega)

end Mine

namespace Mine
theorem days_succ (y : Int) : days (y + 1) = days y + 365 + leapN y := by
  unfold days leapN leap
  by_cases h : y % 4 = 0 ∧ (y % 100 ≠ 0 ∨ y % 400 = 0)
  · rw [if_pos (by simpa using h)]
    omega
  · rw [if_neg (by simpa using h)]
    omega
theorem leapN_t {y : Int} (h : leap y = true) : leapN y = 1 := by unfold leapN; rw [if_pos h]
theorem leapN_f {y : Int} (h : leap y = false) : leapN y = 0 := by unfold leapN; rw [if_neg (by rw [h]; decide)]
/-- between the turns of the law's two whiles -/
structure Walks (year place r0 other rest : Int) : Prop where
  y1 : 301 ≤ year
  y2 : year ≤ 1000300
  p1 : -100000 < place
  p2 : place < 100000
  o1 : 1 ≤ other
  o2 : other ≤ 1100000
  e : days other + rest = days year + place
  r1 : 1 ≤ r0 → 1 ≤ rest
theorem walks_0 {year place : Int} (y1 : 301 ≤ year) (y2 : year ≤ 1000300) (p1 : -100000 < place) (p2 : place < 100000) : Walks year place place year place :=
  ⟨y1, y2, p1, p2, by omega, by omega, rfl, id⟩
theorem walks_back {year place r0 other rest l : Int} (W : Walks year place r0 other rest) (h : rest < 1) (hl : l = 365 + leapN (other - 1)) : Walks year place r0 (other - 1) (rest + l) := by
  obtain ⟨y1, y2, p1, p2, o1, o2, e, r1⟩ := W
  have hs := days_succ (other - 1)
  rw [Int.sub_add_cancel] at hs
  have hN := leapN_cases (other - 1)
  refine ⟨y1, y2, p1, p2, ?_, by omega, by omega, by omega⟩
  unfold days at e
  omega
theorem walks_on {year place r0 other rest : Int} (W : Walks year place r0 other rest) (h : 1 ≤ rest) : Walks year place rest other rest := by
  obtain ⟨y1, y2, p1, p2, o1, o2, e, r1⟩ := W
  exact ⟨y1, y2, p1, p2, o1, o2, e, fun _ => h⟩
theorem walks_forth {year place r0 other rest l : Int} (W : Walks year place r0 other rest) (h : l < rest) (hl : l = 365 + leapN other) : Walks year place r0 (other + 1) (rest - l) := by
  obtain ⟨y1, y2, p1, p2, o1, o2, e, r1⟩ := W
  have hs := days_succ other
  have hN := leapN_cases other
  refine ⟨y1, y2, p1, p2, by omega, ?_, by omega, by omega⟩
  unfold days at e
  omega

end Mine

namespace Mine
open PySem PySem.W PyProof.Rows
/-- a statement's end: it has stored one int, x, and nothing else -/
def CutI (x : Str) (P : Int → Prop) (h₀ : Heap) (L : Addr) (m : Str → Option Value) (news : List (Addr × Obj)) (s : Shared) (f : Flow) (s' : Shared) : Prop :=
  f = .next ∧ ∃ (v : Int) (t : Tok) (h' : Heap) (tk' : Nat), P v ∧ s' = { s with heap := h', toks := tk' } ∧ Fr h₀ L h' (fun z => if z = x then some (.int v t) else m z) ∧ News h₀ L h' news
/-- the month loop's end -/
def CutM (P : Int → Int → Prop) (h₀ : Heap) (L : Addr) (m : Str → Option Value) (news : List (Addr × Obj)) (s : Shared) (f : Flow) (s' : Shared) : Prop :=
  f = .next ∧ ∃ (v1 v2 : Int) (t1 t2 : Tok) (h' : Heap) (tk' : Nat) (m' : Str → Option Value), P v1 v2 ∧ s' = { s with heap := h', toks := tk' } ∧ Fr h₀ L h' m' ∧ m' (Str.ofString "month") = some (.int v1 t1) ∧ m' (Str.ofString "day") = some (.int v2 t2) ∧ (∀ z, z ≠ Str.ofString "size" → z ≠ Str.ofString "month" → z ≠ Str.ofString "day" → m' z = m z) ∧ News h₀ L h' news
section
variable {M : Model} {A : Around} {E : Value → Shared → Prop} {s : Shared} {env : Env} {h₀ h' : Heap} {L : Addr} {m m' : Str → Option Value} {news news' : List (Addr × Obj)} {st : Stmt} {Q : Flow → Shared → Prop} {x : Str} {v v1 v2 : Int} {t t1 t2 : Tok} {tk' : Nat}
theorem cut_i (P : Int → Prop) (F : Fr h₀ L s.heap m) (N : News h₀ L s.heap news) (h1 : wpAny M A (exec st env) (CutI x P h₀ L m news s) E s)
    (h2 : ∀ (v : Int) (t : Tok) (h' : Heap) (tk' : Nat), P v → Fr h₀ L h' (fun z => if z = x then some (.int v t) else m z) → News h₀ L h' news → Q .next { s with heap := h', toks := tk' }) : wpAny M A (exec st env) Q E s := by
  clear F N
  refine wpAny_mono h1 (fun f s' h => ?_) fun _ _ h => h
  obtain ⟨rfl, v, t, h', tk', hP, rfl, F', N'⟩ := h
  exact h2 v t h' tk' hP F' N'
theorem cut_i_end {P : Int → Prop} (F' : Fr h₀ L h' m') (N' : News h₀ L h' news) (hm : ∀ z, z ≠ x → m' z = m z) (hP : ∃ v t, m' x = some (.int v t) ∧ P v) : CutI x P h₀ L m news s .next { s with heap := h', toks := tk' } := by
  obtain ⟨v, t, hx, hP⟩ := hP
  have e : m' = fun z => if z = x then some (.int v t) else m z := by
    funext z
    split
    · rename_i h; rw [h]; exact hx
    · rename_i h; exact hm z h
  rw [e] at F'
  exact ⟨rfl, v, t, h', tk', hP, rfl, F', N'⟩
theorem cut_same (h : m x = some (.int v t)) : ∀ z, m z = if z = x then some (.int v t) else m z := by
  intro z
  split
  · rename_i e
    rw [e]
    exact h
  · rfl
theorem cut_m (P : Int → Int → Prop) (F : Fr h₀ L s.heap m) (N : News h₀ L s.heap news) (h1 : wpAny M A (exec st env) (CutM P h₀ L m news s) E s)
    (h2 : ∀ (v1 v2 : Int) (t1 t2 : Tok) (u : Option Value) (h' : Heap) (tk' : Nat), P v1 v2 → Fr h₀ L h' (fun z => if z = Str.ofString "month" then some (.int v1 t1) else if z = Str.ofString "day" then some (.int v2 t2) else if z = Str.ofString "size" then u else m z) → News h₀ L h' news → Q .next { s with heap := h', toks := tk' }) : wpAny M A (exec st env) Q E s := by
  clear F N
  refine wpAny_mono h1 (fun f s' h => ?_) fun _ _ h => h
  obtain ⟨rfl, v1, v2, t1, t2, h', tk', m', hP, rfl, F', e1, e2, e3, N'⟩ := h
  refine h2 v1 v2 t1 t2 (m' (Str.ofString "size")) h' tk' hP ?_ N'
  have e : m' = fun z => if z = Str.ofString "month" then some (.int v1 t1) else if z = Str.ofString "day" then some (.int v2 t2) else if z = Str.ofString "size" then m' (Str.ofString "size") else m z := by
    funext z
    split
    · rename_i h; rw [h]; exact e1
    · split
      · rename_i h; rw [h]; exact e2
      · split
        · rename_i h; rw [h]
        · rename_i a b c
          exact e3 z c a b
  rw [e] at F'
  exact F'
theorem cut_m_end {P : Int → Int → Prop} (F' : Fr h₀ L h' m') (N' : News h₀ L h' news') (hs : ∀ p ∈ news, p ∈ news')
    (e3 : ∀ z, z ≠ Str.ofString "size" → z ≠ Str.ofString "month" → z ≠ Str.ofString "day" → m' z = m z) (hP : ∃ v1 t1 v2 t2, m' (Str.ofString "month") = some (.int v1 t1) ∧ m' (Str.ofString "day") = some (.int v2 t2) ∧ P v1 v2) : CutM P h₀ L m news s .next { s with heap := h', toks := tk' } := by
  obtain ⟨v1, t1, v2, t2, e1, e2, hP⟩ := hP
  exact ⟨rfl, v1, v2, t1, t2, h', tk', m', hP, rfl, F', e1, e2, e3, fun p hp => N' p (hs p hp)⟩
end
/-- what stands behind the law's month loop -/
structure Found (year place other rest mo da : Int) : Prop where
  d : Dt other mo da rest
  e : days other + rest = days year + place
  y1 : 1 ≤ other
  y2 : other ≤ 2000000
  r1 : 1 ≤ rest
  r2 : rest ≤ 366
structure InMonths : Prop where
theorem cut_law {M : Model} {A : Around} {E : Value → Shared → Prop} {s : Shared} {env : Env} {h₀ : Heap} {L : Addr} {m : Str → Option Value} {news : List (Addr × Obj)} {st : Stmt} {Q : Flow → Shared → Prop} {year place r0 other rest : Int} (_W : Walks year place r0 other rest)
    (F : Fr h₀ L s.heap m) (N : News h₀ L s.heap news) (h1 : InMonths → wpAny M A (exec st env) (CutM (Found year place other rest) h₀ L m news s) E s)
    (h2 : ∀ (v1 v2 : Int) (t1 t2 : Tok) (u : Option Value) (h' : Heap) (tk' : Nat), Found year place other rest v1 v2 → Fr h₀ L h' (fun z => if z = Str.ofString "month" then some (.int v1 t1) else if z = Str.ofString "day" then some (.int v2 t2) else if z = Str.ofString "size" then u else m z) → News h₀ L h' news → Q .next { s with heap := h', toks := tk' }) : wpAny M A (exec st env) Q E s :=
  cut_m _ F N (h1 ⟨⟩) h2
theorem found_of {year place r0 other rest mo da : Int} (W : Walks year place r0 other rest) (m1 : 1 ≤ mo) (m2 : mo ≤ 12) (d1 : 1 ≤ da) (d2 : da ≤ mdays other mo) (hr : rest = cum other mo + da) : Found year place other rest mo da := by
  obtain ⟨y1, y2, p1, p2, o1, o2, e, r1⟩ := W
  have hN := leapN_cases other
  have h := rest_le m1 m2 d1 d2 hr
  exact ⟨⟨o1, by omega, m1, m2, d1, d2, hr⟩, e, o1, by omega, by omega, by omega⟩
theorem found_1 {year place r0 other rest mo da : Int} (W : Walks year place r0 other rest) (hmo : mo = 1) (h1 : da + (0) = rest) (h2 : 0 < rest) (h3 : rest ≤ 31) : Found year place other rest mo da := by
  subst hmo
  have hN := leapN_cases other
  refine found_of W (by decide) (by decide) (by omega) ?_ ?_ <;> simp [mdays, cum] <;> omega
theorem found_2 {year place r0 other rest mo da : Int} (W : Walks year place r0 other rest) (hmo : mo = 2) (h1 : da + (31) = rest) (h2 : 31 < rest) (h3 : rest ≤ 59 + leapN other) : Found year place other rest mo da := by
  subst hmo
  have hN := leapN_cases other
  refine found_of W (by decide) (by decide) (by omega) ?_ ?_ <;> simp [mdays, cum] <;> omega
theorem found_3 {year place r0 other rest mo da : Int} (W : Walks year place r0 other rest) (hmo : mo = 3) (h1 : da + (59 + leapN other) = rest) (h2 : 59 + leapN other < rest) (h3 : rest ≤ 90 + leapN other) : Found year place other rest mo da := by
  subst hmo
  have hN := leapN_cases other
  refine found_of W (by decide) (by decide) (by omega) ?_ ?_ <;> simp [mdays, cum] <;> omega
theorem found_4 {year place r0 other rest mo da : Int} (W : Walks year place r0 other rest) (hmo : mo = 4) (h1 : da + (90 + leapN other) = rest) (h2 : 90 + leapN other < rest) (h3 : rest ≤ 120 + leapN other) : Found year place other rest mo da := by
  subst hmo
  have hN := leapN_cases other
  refine found_of W (by decide) (by decide) (by omega) ?_ ?_ <;> simp [mdays, cum] <;> omega
theorem found_5 {year place r0 other rest mo da : Int} (W : Walks year place r0 other rest) (hmo : mo = 5) (h1 : da + (120 + leapN other) = rest) (h2 : 120 + leapN other < rest) (h3 : rest ≤ 151 + leapN other) : Found year place other rest mo da := by
  subst hmo
  have hN := leapN_cases other
  refine found_of W (by decide) (by decide) (by omega) ?_ ?_ <;> simp [mdays, cum] <;> omega
theorem found_6 {year place r0 other rest mo da : Int} (W : Walks year place r0 other rest) (hmo : mo = 6) (h1 : da + (151 + leapN other) = rest) (h2 : 151 + leapN other < rest) (h3 : rest ≤ 181 + leapN other) : Found year place other rest mo da := by
  subst hmo
  have hN := leapN_cases other
  refine found_of W (by decide) (by decide) (by omega) ?_ ?_ <;> simp [mdays, cum] <;> omega
theorem found_7 {year place r0 other rest mo da : Int} (W : Walks year place r0 other rest) (hmo : mo = 7) (h1 : da + (181 + leapN other) = rest) (h2 : 181 + leapN other < rest) (h3 : rest ≤ 212 + leapN other) : Found year place other rest mo da := by
  subst hmo
  have hN := leapN_cases other
  refine found_of W (by decide) (by decide) (by omega) ?_ ?_ <;> simp [mdays, cum] <;> omega
theorem found_8 {year place r0 other rest mo da : Int} (W : Walks year place r0 other rest) (hmo : mo = 8) (h1 : da + (212 + leapN other) = rest) (h2 : 212 + leapN other < rest) (h3 : rest ≤ 243 + leapN other) : Found year place other rest mo da := by
  subst hmo
  have hN := leapN_cases other
  refine found_of W (by decide) (by decide) (by omega) ?_ ?_ <;> simp [mdays, cum] <;> omega
theorem found_9 {year place r0 other rest mo da : Int} (W : Walks year place r0 other rest) (hmo : mo = 9) (h1 : da + (243 + leapN other) = rest) (h2 : 243 + leapN other < rest) (h3 : rest ≤ 273 + leapN other) : Found year place other rest mo da := by
  subst hmo
  have hN := leapN_cases other
  refine found_of W (by decide) (by decide) (by omega) ?_ ?_ <;> simp [mdays, cum] <;> omega
theorem found_10 {year place r0 other rest mo da : Int} (W : Walks year place r0 other rest) (hmo : mo = 10) (h1 : da + (273 + leapN other) = rest) (h2 : 273 + leapN other < rest) (h3 : rest ≤ 304 + leapN other) : Found year place other rest mo da := by
  subst hmo
  have hN := leapN_cases other
  refine found_of W (by decide) (by decide) (by omega) ?_ ?_ <;> simp [mdays, cum] <;> omega
theorem found_11 {year place r0 other rest mo da : Int} (W : Walks year place r0 other rest) (hmo : mo = 11) (h1 : da + (304 + leapN other) = rest) (h2 : 304 + leapN other < rest) (h3 : rest ≤ 334 + leapN other) : Found year place other rest mo da := by
  subst hmo
  have hN := leapN_cases other
  refine found_of W (by decide) (by decide) (by omega) ?_ ?_ <;> simp [mdays, cum] <;> omega
theorem found_12 {year place r0 other rest mo da : Int} (W : Walks year place r0 other rest) (hmo : mo = 12) (h1 : da + (334 + leapN other) = rest) (h2 : 334 + leapN other < rest) (h3 : rest ≤ 365 + leapN other) : Found year place other rest mo da := by
  subst hmo
  have hN := leapN_cases other
  refine found_of W (by decide) (by decide) (by omega) ?_ ?_ <;> simp [mdays, cum] <;> omega

end Mine

namespace Mine
open PySem PySem.W PyProof.Rows
local macro_rules | `(tactic| walk_at "no such key") => `(tactic| fail)
local macro_rules | `(tactic| k_room) => `(tactic| ((try simp only [depth_under_make, depth_under_kw, depth_in1, depth_deeper, depth_caller, recursionLimit] at *); (try dsimp only [ktrTop] at *); omega))
local macro_rules | `(tactic| walk_at "compareOp In int ref") => `(tactic| (k_here; k_dflt (refine' in30 ?k1 ?_; (case k1 => k_in)); (try dsimp only)))
local macro_rules | `(tactic| walk_at "eval Call") => `(tactic| (k_here; refine Call_ ?_))
local macro_rules | `(tactic| ktr_rel) => `(tactic| ((rename Dt _ _ _ _ => hD'); first | exact year_eq2 hD' (by assumption) (by assumption) (by assumption) (by assumption) (by assumption) (by assumption) (by assumption) (by omega) (by omega) | exact year_eq1 hD' (by assumption) (by assumption) (by assumption) (by assumption) (by assumption) (by assumption) (by assumption) (by omega) (by first | exact .inl (by assumption) | exact .inr (by assumption))))
local macro_rules | `(tactic| ktr_unf) => `(tactic| ((rename Dt _ _ _ _ => hD'); exact month_eq hD' (by assumption) (by omega)))
theorem leap_split {y m d r : Int} (_D : Dt y m d r) : (leap y = true ∧ leapN y = 1) ∨ (leap y = false ∧ leapN y = 0) := by
  rcases Bool.eq_false_or_eq_true (leap y) with hl | hl
  · exact .inl ⟨hl, leapN_t hl⟩
  · exact .inr ⟨hl, leapN_f hl⟩
theorem cut_year {M : Model} {A : Around} {E : Value → Shared → Prop} {s : Shared} {env : Env} {h₀ : Heap} {L : Addr} {m : Str → Option Value} {news : List (Addr × Obj)} {st : Stmt} {Q : Flow → Shared → Prop} {y mo d r : Int} (_D : Dt y mo d r)
    (F : Fr h₀ L s.heap m) (N : News h₀ L s.heap news) (h1 : wpAny M A (exec st env) (CutI (Str.ofString "year") (fun v => v = y) h₀ L m news s) E s)
    (h2 : ∀ (t : Tok) (h' : Heap) (tk' : Nat), Fr h₀ L h' (fun z => if z = Str.ofString "year" then some (.int y t) else m z) → News h₀ L h' news → Q .next { s with heap := h', toks := tk' }) : wpAny M A (exec st env) Q E s :=
  cut_i _ F N h1 fun v t h' tk' hv F' N' => by
    subst hv
    exact h2 t h' tk' F' N'
theorem tojdg_a (w : World) {y m d r : Int} (D : Dt y m d r) (y' : Int) (t1 t2 t3 : Tok) : Claim w 6 64 (y' = y) [.int y' t1, .int 1 t2, .int 1 t3] (fun t => .float (hf (3442849 + 2 * (days y + 1))) t) := by
  intro mean mg mb news dp un gd cn cs a ccd cl outer A₀ base h₀ L mm s Q E B F X N T hk hpre hdp hun hret
  subst hpre
  have e := tojdg_is w y' 1 1 t1 t2 t3 mean mg mb news dp un gd cn cs a ccd cl outer A₀ base h₀ L mm s Q E B F X N T hk ⟨D.y1, D.y2, by decide, by decide, by decide, mdays_pos _ _⟩ hdp hun
  rw [cum1, Int.add_zero] at e
  exact e hret
theorem tojdg_b (w : World) {y m d r : Int} (D : Dt y m d r) (y' m' : Int) (t1 t2 t3 : Tok) : Claim w 6 64 (y' = y ∧ m' = m) [.int y' t1, .int m' t2, .int 1 t3] (fun t => .float (hf (3442849 + 2 * (days y + cum y m + 1))) t) := by
  intro mean mg mb news dp un gd cn cs a ccd cl outer A₀ base h₀ L mm s Q E B F X N T hk hpre hdp hun hret
  obtain ⟨rfl, rfl⟩ := hpre
  exact tojdg_is w y' m' 1 t1 t2 t3 mean mg mb news dp un gd cn cs a ccd cl outer A₀ base h₀ L mm s Q E B F X N T hk ⟨D.y1, D.y2, D.m1, D.m2, by decide, mdays_pos _ _⟩ hdp hun hret
theorem isleap_te (w : World) {y m d r : Int} (_D : Dt y m d r) (hl : leap y = true) (y' : Int) (t1 : Tok) : Claim w 2 50 (y' = y) [.int y' t1] (fun _ => .bool true) := by
  intro mean mg mb news dp un gd cn cs a ccd cl outer A₀ base h₀ L m s Q E B F X N T hk hpre hdp hun hret
  subst hpre
  exact isleap_t w y' t1 mean mg mb news dp un gd cn cs a ccd cl outer A₀ base h₀ L m s Q E B F X N T hk hl hdp hun hret
theorem isleap_fe (w : World) {y m d r : Int} (_D : Dt y m d r) (hl : leap y = false) (y' : Int) (t1 : Tok) : Claim w 2 50 (y' = y) [.int y' t1] (fun _ => .bool false) := by
  intro mean mg mb news dp un gd cn cs a ccd cl outer A₀ base h₀ L m s Q E B F X N T hk hpre hdp hun hret
  subst hpre
  exact isleap_f w y' t1 mean mg mb news dp un gd cn cs a ccd cl outer A₀ base h₀ L m s Q E B F X N T hk hl hdp hun hret

local macro_rules | `(tactic| walk_at "call ref") => `(tactic| (k_here; (with_reducible show wpAny _ _ (call (Value.ref 64) _) _ _ _); (rename Dt _ _ _ _ => hD'); first | k_dflt (refine' Claim.use (tojdg_a _ hD' _ _ _ _) ?k1 ?k2 ?k3 ?k4 ?k5 ?kK ?kp ?kd ?ku ?_; (case k1 => k_asm); (case k2 => k_asm); (case k3 => k_asm); (case k4 => k_asm); (case k5 => k_asm); (case kK => first | exact rfl | assumption); (case kp => exact rfl); (case kd => simp only [recursionLimit] at *; omega); (case ku => simp only [cLine] at *; omega); intro t9 h9 tk9 F9 N9; (rcases leap_split hD' with ⟨hl', hN'⟩ | ⟨hl', hN'⟩) <;> ((try dsimp only); (try k_fold))) | k_dflt (refine' Claim.use (tojdg_b _ hD' _ _ _ _ _) ?k1 ?k2 ?k3 ?k4 ?k5 ?kK ?kp ?kd ?ku ?_; (case k1 => k_asm); (case k2 => k_asm); (case k3 => k_asm); (case k4 => k_asm); (case k5 => k_asm); (case kK => first | exact rfl | assumption); (case kp => exact ⟨rfl, by ktr_unf⟩); (case kd => simp only [recursionLimit] at *; omega); (case ku => simp only [cLine] at *; omega); intro t9 h9 tk9 F9 N9; (try dsimp only); (try k_fold))))
local macro_rules | `(tactic| walk_at "call ref") => `(tactic| (k_here; (with_reducible show wpAny _ _ (call (Value.ref 50) _) _ _ _); (rename Dt _ _ _ _ => hD'); first | k_dflt (refine' Claim.use (isleap_te _ hD' (by assumption) _ _) ?k1 ?k2 ?k3 ?k4 ?k5 ?kK ?kp ?kd ?ku ?_; (case k1 => k_asm); (case k2 => k_asm); (case k3 => k_asm); (case k4 => k_asm); (case k5 => k_asm); (case kK => first | exact rfl | assumption); (case kp => exact rfl); (case kd => simp only [recursionLimit] at *; omega); (case ku => simp only [cLine] at *; omega); intro t9 h9 tk9 F9 N9; (try dsimp only); (try k_fold)) | k_dflt (refine' Claim.use (isleap_fe _ hD' (by assumption) _ _) ?k1 ?k2 ?k3 ?k4 ?k5 ?kK ?kp ?kd ?ku ?_; (case k1 => k_asm); (case k2 => k_asm); (case k3 => k_asm); (case k4 => k_asm); (case k5 => k_asm); (case kK => first | exact rfl | assumption); (case kp => exact rfl); (case kd => simp only [recursionLimit] at *; omega); (case ku => simp only [cLine] at *; omega); intro t9 h9 tk9 F9 N9; (try dsimp only); (try k_fold))))
local macro_rules | `(tactic| walk_at "exec If") => `(tactic| (k_here; (fail_if_success (with_reducible show wpAny _ _ _ (CutI _ _ _ _ _ _ _) _ _)); (with_reducible show wpAny _ _ (exec (Stmt.If (Expr.UnaryOp UnaryOp.Not _ _) _ _ _) _) _ _ _); (rename Dt _ _ _ _ => hD'); (rename Fr _ _ _ _ => F'); (rename News _ _ _ _ => N'); (refine' cut_year hD' F' N' ?_ ?_); rotate_left; ((intro t' h' tk' F' N'); (try dsimp only); (try k_fold)); rotate_left; skip))
local macro_rules | `(tactic| walk_at "CutI") => `(tactic| (refine cut_i_end (by k_asm) (by k_asm) (by intro z hz; first | rfl | (simp [hz]; done)) ⟨_, _, by with_unfolding_all rfl, ?_⟩; (try dsimp only); ktr_rel))
local macro_rules | `(tactic| walk_at "binaryOp Sub float int") => `(tactic| (k_here; k_dflt (refine' r_sub_fi rfl ?hx ?ha ?hn ?_; (case hx => first | with_reducible rfl | exact epoch_hf | exact half_hf); (case ha => omega); (case hn => omega)); (try dsimp only)))
local macro_rules | `(tactic| walk_at "binaryOp Add float int") => `(tactic| (k_here; k_dflt (first | (refine' r_add_fi rfl ?hx ?ha ?hn ?_; (case hx => first | with_reducible rfl | exact epoch_hf | exact half_hf); (case ha => omega); (case hn => omega)) | (refine' r_add_any rfl ?hn ?_; (case hn => omega))); (try dsimp only)))
local macro_rules | `(tactic| walk_at "binaryOp Add int float") => `(tactic| (k_here; k_dflt (refine' r_add_if rfl ?hx ?ha ?hn ?_; (case hx => first | with_reducible rfl | exact epoch_hf | exact half_hf); (case ha => omega); (case hn => omega)); (try dsimp only)))
local macro_rules | `(tactic| walk_at "binaryOp Sub float float") => `(tactic| (k_here; k_dflt (refine' r_sub_ff ?hx ?hy ?ha ?hb ?_; (case hx => first | with_reducible rfl | exact epoch_hf | exact half_hf); (case hy => first | with_reducible rfl | exact epoch_hf | exact half_hf); (case ha => omega); (case hb => omega)); (try dsimp only)))
local macro_rules | `(tactic| walk_at "binaryOp Add float float") => `(tactic| (k_here; k_dflt (refine' r_add_ff ?hx ?hy ?ha ?hb ?_; (case hx => first | with_reducible rfl | exact epoch_hf | exact half_hf); (case hy => first | with_reducible rfl | exact epoch_hf | exact half_hf); (case ha => omega); (case hb => omega)); (try dsimp only)))
local macro_rules | `(tactic| walk_at "binaryOp Mult float int") => `(tactic| (k_here; k_dflt (first | (refine' r_mul_fi rfl ?hx ?h1 ?h2 ?h3 ?h4 ?_; (case hx => with_reducible rfl); (case h1 => omega); (case h2 => omega); (case h3 => omega); (case h4 => omega)) | (refine' r_mul_306 rfl ?hn ?_; (case hn => omega))); (try dsimp only)))
local macro_rules | `(tactic| walk_at "binaryOp Div float int") => `(tactic| (k_here; k_dflt (refine' r_div_fi rfl ?hx ?h1 ?h2 ?_; (case hx => with_reducible rfl); (case h1 => omega); (case h2 => omega)); (try dsimp only)))
local macro_rules | `(tactic| walk_at "binaryOp Div int int") => `(tactic| (k_here; k_dflt (refine' r_div_ii rfl ?h1 ?h2 ?_; (case h1 => omega); (case h2 => omega)); (try dsimp only)))
local macro_rules | `(tactic| walk_at "binaryOp Mod float int") => `(tactic| (k_here; k_dflt (refine' r_mod_fi rfl ?hx ?h1 ?h2 ?h3 ?h4 ?_; (case hx => with_reducible rfl); (case h1 => omega); (case h2 => omega); (case h3 => omega); (case h4 => omega)); intro c' hc'; (try dsimp only)))
local macro_rules | `(tactic| walk_at "call builtin:math.floor") => `(tactic| (k_here; k_dflt (first | (refine' r_floor_hf rfl ?h1 ?_; (case h1 => omega)) | (refine' r_floor_div rfl ?h1 ?h2 ?h3 ?h4 ?h5 ?_; (case h1 => omega); (case h2 => omega); (case h3 => omega); (case h4 => omega); (case h5 => omega)) | (refine' r_floor_ii rfl ?h1 ?h2 ?h3 ?h4 ?_; (case h1 => omega); (case h2 => omega); (case h3 => omega); (case h4 => omega)) | (refine' r_floor_month rfl ?h1 ?h2 ?h3 ?h4 ?h5 ?h6 ?_; (case h1 => omega); (case h2 => omega); (case h3 => omega); (case h4 => omega); (case h5 => omega); (case h6 => omega))); intro v' hv'; (try dsimp only)))
local macro_rules | `(tactic| walk_at "call builtin:math.trunc") => `(tactic| (k_here; k_dflt (first | (refine' r_trunc_306 rfl ?h0 ?h1 ?h2 ?_; (case h0 => rfl); (case h1 => omega); (case h2 => omega)) | (refine' r_trunc_ii rfl ?h1 ?h2 ?h3 ?h4 ?_; (case h1 => omega); (case h2 => omega); (case h3 => omega); (case h4 => omega))); intro v' hv'; (try dsimp only)))
local macro_rules | `(tactic| walk_at "call type:int") => `(tactic| (k_here; k_dflt (refine' r_int rfl ?h1 ?h2 ?_; (case h1 => omega); (case h2 => omega)); intro v' hv'; (try dsimp only)))
local macro_rules | `(tactic| walk_at "compareOp Lt float int") => `(tactic| (k_here; k_dflt (refine' r_lt_fi ?h1 ?_; (case h1 => omega)); (try dsimp only)))
local macro_rules | `(tactic| walk_at "compareOp NotEq float float") => `(tactic| (k_here; k_dflt (refine' r_ne_ff ?h1 ?h2 ?_; (case h1 => omega); (case h2 => omega)); (try dsimp only)))
local macro_rules | `(tactic| walk_at "binaryOp Add int bool") => `(tactic| (k_here; first | (with_reducible refine r_add_true ?_) | (with_reducible refine r_add_false ?_)))
local macro_rules | `(tactic| walk_at "binaryOp Sub int bool") => `(tactic| (k_here; first | (with_reducible refine r_sub_true ?_) | (with_reducible refine r_sub_false ?_)))

theorem fromjdg_is (w : World) (y m d r J : Int) (t1 : Tok) : Claim3 w 8 71 (Dt y m d r ∧ J = 3442849 + 2 * (days y + r)) [.float (hf J) t1] y m d := by
  unfold Claim3
  k_fill
  intro mean mg mb news dp un gd cn cs a ccd cl outer A₀ base h₀ L mm s Q E B F X N T hk hpre hdp hun hret
  refine wpAny_call ?_
  obtain ⟨hD, hJ⟩ := hpre
  have hrl := rest_le hD.m1 hD.m2 hD.d1 hD.d2 hD.hr
  have hdy := days_bounds hD.y1 hD.y2
  have hr := hD.hr
  have hd1 := hD.d1
  have hd3 : d ≤ 31 := Int.le_trans hD.d2 (mdays_le y m)
  have hN := leapN_cases y
  k_dflt cell_enter
  k_steps
  all_goals (refine ret_three (Q := Q) hret (by k_asm) (by k_asm) (by first | assumption | exact allLt_of (by assumption) | exact And.right (by assumption)) (fun p hp => hp) rfl (by ktr_unf) ?_)
  all_goals (clear hret; omega)

end Mine

namespace Mine
open PySem PySem.W PyProof.Rows
local macro_rules | `(tactic| k_room) => `(tactic| ((try simp only [depth_under_make, depth_under_kw, depth_in1, depth_deeper, depth_caller, recursionLimit] at *); (try dsimp only [ktrTop] at *); omega))
local macro_rules | `(tactic| walk_at "compareOp In int ref") => `(tactic| (k_here; k_dflt (refine' in30 ?k1 ?_; (case k1 => k_in)); (try dsimp only)))
local macro_rules | `(tactic| walk_at "eval Call") => `(tactic| (k_here; refine Call_ ?_))
theorem fromjdg_d (w : World) {y m d r : Int} (D : Dt y m d r) (J : Int) (t1 : Tok) : Claim3 w 8 71 (J = 3442849 + 2 * (days y + r)) [.float (hf J) t1] y m d := by
  intro mean mg mb news dp un gd cn cs a ccd cl outer A₀ base h₀ L mm s Q E B F X N T hk hpre hdp hun hret
  exact fromjdg_is w y m d r J t1 mean mg mb news dp un gd cn cs a ccd cl outer A₀ base h₀ L mm s Q E B F X N T hk ⟨D, hpre⟩ hdp hun hret

local macro_rules | `(tactic| walk_at "call ref") => `(tactic| (k_here; (with_reducible show wpAny _ _ (call (Value.ref 71) _) _ _ _); (rename Dt _ _ _ _ => hD'); k_dflt (refine' Claim3.use (fromjdg_d _ hD' _ _) ?k1 ?k2 ?k3 ?k4 ?k5 ?kK ?kp ?kd ?ku ?_; (case k1 => k_asm); (case k2 => k_asm); (case k3 => k_asm); (case k4 => k_asm); (case k5 => k_asm); (case kK => first | exact rfl | assumption); (case kp => omega); (case kd => simp only [recursionLimit] at *; omega); (case ku => simp only [cLine] at *; omega); intro D9 t9a t9b t9c c9 h9 tk9 F9 N9 l9; (try simp only [AllLt, and_true] at l9); (try dsimp only); (try k_fold))))
local macro_rules | `(tactic| walk_at "call ref") => `(tactic| (k_here; (with_reducible show wpAny _ _ (call (Value.ref 64) _) _ _ _); (rename Dt _ _ _ _ => hD'); k_dflt (refine' Claim.use (tojdg_is _ _ _ _ _ _ _) ?k1 ?k2 ?k3 ?k4 ?k5 ?kK ?kp ?kd ?ku ?_; (case k1 => k_asm); (case k2 => k_asm); (case k3 => k_asm); (case k4 => k_asm); (case k5 => k_asm); (case kK => first | exact rfl | assumption); (case kp => first | exact ⟨hD'.y1, hD'.y2, hD'.m1, hD'.m2, hD'.d1, hD'.d2⟩ | exact ⟨hD'.y1, hD'.y2, by decide, by decide, by decide, mdays_pos _ _⟩); (case kd => simp only [recursionLimit] at *; omega); (case ku => simp only [cLine] at *; omega); intro t9 h9 tk9 F9 N9; (try dsimp only); (try k_fold))))
local macro_rules | `(tactic| walk_at "binaryOp Sub float int") => `(tactic| (k_here; k_dflt (refine' r_sub_fi rfl ?hx ?ha ?hn ?_; (case hx => first | with_reducible rfl | exact epoch_hf | exact half_hf); (case ha => omega); (case hn => omega)); (try dsimp only)))
local macro_rules | `(tactic| walk_at "binaryOp Add float int") => `(tactic| (k_here; k_dflt (first | (refine' r_add_fi rfl ?hx ?ha ?hn ?_; (case hx => first | with_reducible rfl | exact epoch_hf | exact half_hf); (case ha => omega); (case hn => omega)) | (refine' r_add_any rfl ?hn ?_; (case hn => omega))); (try dsimp only)))
local macro_rules | `(tactic| walk_at "binaryOp Add int float") => `(tactic| (k_here; k_dflt (refine' r_add_if rfl ?hx ?ha ?hn ?_; (case hx => first | with_reducible rfl | exact epoch_hf | exact half_hf); (case ha => omega); (case hn => omega)); (try dsimp only)))
local macro_rules | `(tactic| walk_at "binaryOp Sub float float") => `(tactic| (k_here; k_dflt (refine' r_sub_ff ?hx ?hy ?ha ?hb ?_; (case hx => first | with_reducible rfl | exact epoch_hf | exact half_hf); (case hy => first | with_reducible rfl | exact epoch_hf | exact half_hf); (case ha => omega); (case hb => omega)); (try dsimp only)))
local macro_rules | `(tactic| walk_at "binaryOp Add float float") => `(tactic| (k_here; k_dflt (refine' r_add_ff ?hx ?hy ?ha ?hb ?_; (case hx => first | with_reducible rfl | exact epoch_hf | exact half_hf); (case hy => first | with_reducible rfl | exact epoch_hf | exact half_hf); (case ha => omega); (case hb => omega)); (try dsimp only)))
local macro_rules | `(tactic| walk_at "binaryOp Mult float int") => `(tactic| (k_here; k_dflt (first | (refine' r_mul_fi rfl ?hx ?h1 ?h2 ?h3 ?h4 ?_; (case hx => with_reducible rfl); (case h1 => omega); (case h2 => omega); (case h3 => omega); (case h4 => omega)) | (refine' r_mul_306 rfl ?hn ?_; (case hn => omega))); (try dsimp only)))
local macro_rules | `(tactic| walk_at "binaryOp Div float int") => `(tactic| (k_here; k_dflt (refine' r_div_fi rfl ?hx ?h1 ?h2 ?_; (case hx => with_reducible rfl); (case h1 => omega); (case h2 => omega)); (try dsimp only)))
local macro_rules | `(tactic| walk_at "binaryOp Div int int") => `(tactic| (k_here; k_dflt (refine' r_div_ii rfl ?h1 ?h2 ?_; (case h1 => omega); (case h2 => omega)); (try dsimp only)))
local macro_rules | `(tactic| walk_at "binaryOp Mod float int") => `(tactic| (k_here; k_dflt (refine' r_mod_fi rfl ?hx ?h1 ?h2 ?h3 ?h4 ?_; (case hx => with_reducible rfl); (case h1 => omega); (case h2 => omega); (case h3 => omega); (case h4 => omega)); intro c' hc'; (try dsimp only)))
local macro_rules | `(tactic| walk_at "call builtin:math.floor") => `(tactic| (k_here; k_dflt (first | (refine' r_floor_hf rfl ?h1 ?_; (case h1 => omega)) | (refine' r_floor_div rfl ?h1 ?h2 ?h3 ?h4 ?h5 ?_; (case h1 => omega); (case h2 => omega); (case h3 => omega); (case h4 => omega); (case h5 => omega)) | (refine' r_floor_ii rfl ?h1 ?h2 ?h3 ?h4 ?_; (case h1 => omega); (case h2 => omega); (case h3 => omega); (case h4 => omega)) | (refine' r_floor_month rfl ?h1 ?h2 ?h3 ?h4 ?h5 ?h6 ?_; (case h1 => omega); (case h2 => omega); (case h3 => omega); (case h4 => omega); (case h5 => omega); (case h6 => omega))); intro v' hv'; (try dsimp only)))
local macro_rules | `(tactic| walk_at "call builtin:math.trunc") => `(tactic| (k_here; k_dflt (first | (refine' r_trunc_306 rfl ?h0 ?h1 ?h2 ?_; (case h0 => rfl); (case h1 => omega); (case h2 => omega)) | (refine' r_trunc_ii rfl ?h1 ?h2 ?h3 ?h4 ?_; (case h1 => omega); (case h2 => omega); (case h3 => omega); (case h4 => omega))); intro v' hv'; (try dsimp only)))
local macro_rules | `(tactic| walk_at "call type:int") => `(tactic| (k_here; k_dflt (refine' r_int rfl ?h1 ?h2 ?_; (case h1 => omega); (case h2 => omega)); intro v' hv'; (try dsimp only)))
local macro_rules | `(tactic| walk_at "compareOp Lt float int") => `(tactic| (k_here; k_dflt (refine' r_lt_fi ?h1 ?_; (case h1 => omega)); (try dsimp only)))
local macro_rules | `(tactic| walk_at "compareOp NotEq float float") => `(tactic| (k_here; k_dflt (refine' r_ne_ff ?h1 ?h2 ?_; (case h1 => omega); (case h2 => omega)); (try dsimp only)))
local macro_rules | `(tactic| walk_at "binaryOp Add int bool") => `(tactic| (k_here; first | (with_reducible refine r_add_true ?_) | (with_reducible refine r_add_false ?_)))
local macro_rules | `(tactic| walk_at "binaryOp Sub int bool") => `(tactic| (k_here; first | (with_reducible refine r_sub_true ?_) | (with_reducible refine r_sub_false ?_)))

theorem fromjdo_is (w : World) (y m d r J : Int) (t1 : Tok) : Claim2 w 10 85 (Dt y m d r ∧ J = 3442849 + 2 * (days y + r)) [.float (hf J) t1] y r := by
  unfold Claim2
  k_fill
  intro mean mg mb news dp un gd cn cs a ccd cl outer A₀ base h₀ L mm s Q E B F X N T hk hpre hdp hun hret
  refine wpAny_call ?_
  obtain ⟨hD, hJ⟩ := hpre
  have hrl := rest_le hD.m1 hD.m2 hD.d1 hD.d2 hD.hr
  have hdy := days_bounds hD.y1 hD.y2
  have hr := hD.hr
  have hN := leapN_cases y
  have hc1 := cum1 y
  k_dflt cell_enter
  k_steps
  all_goals (refine ret_two (Q := Q) hret (by k_asm) (by k_asm) (by first | assumption | exact allLt_of (by assumption) | exact And.right (by assumption)) (fun p hp => .tail _ hp) rfl ?_)
  all_goals (clear hret; omega)

end Mine

namespace Mine
open PySem PySem.W PyProof.Rows

theorem fromjdo_d (w : World) {y m d r : Int} (D : Dt y m d r) (J : Int) (t1 : Tok) : Claim2 w 10 85 (J = 3442849 + 2 * (days y + r)) [.float (hf J) t1] y r := by
  intro mean mg mb news dp un gd cn cs a ccd cl outer A₀ base h₀ L mm s Q E B F X N T hk hpre hdp hun hret
  exact fromjdo_is w y m d r J t1 mean mg mb news dp un gd cn cs a ccd cl outer A₀ base h₀ L mm s Q E B F X N T hk ⟨D, hpre⟩ hdp hun hret
theorem tog_d (w : World) {y m d r : Int} (D : Dt y m d r) (y' r' : Int) (t1 t2 : Tok) : Claim3 w 8 99 (y' = y ∧ r' = r) [.int y' t1, .int r' t2] y m d := by
  intro mean mg mb news dp un gd cn cs a ccd cl outer A₀ base h₀ L mm s Q E B F X N T hk hpre hdp hun hret
  obtain ⟨rfl, rfl⟩ := hpre
  exact tog_is w y' r' t1 t2 m d mean mg mb news dp un gd cn cs a ccd cl outer A₀ base h₀ L mm s Q E B F X N T hk ⟨D.y1, D.y2, D.m1, D.m2, D.d1, D.d2, D.hr⟩ hdp hun hret
theorem fromg_d (w : World) {y m d r : Int} (D : Dt y m d r) (y' m' d' : Int) (t1 t2 t3 : Tok) : Claim2 w 6 92 (y' = y ∧ m' = m ∧ d' = d) [.int y' t1, .int m' t2, .int d' t3] y r := by
  intro mean mg mb news dp un gd cn cs a ccd cl outer A₀ base h₀ L mm s Q E B F X N T hk hpre hdp hun hret
  obtain ⟨rfl, rfl, rfl⟩ := hpre
  rw [D.hr] at hret
  exact fromg_is w y' m' d' t1 t2 t3 mean mg mb news dp un gd cn cs a ccd cl outer A₀ base h₀ L mm s Q E B F X N T hk ⟨D.y1, D.y2, D.m1, D.m2, D.d1, D.d2⟩ hdp hun hret
theorem tojdo_use {w : World} {y p : Int} {t1 t2 : Tok} {mean : ExcName → Option Value} {mg mb : Str → Option Value} {news : List (Addr × Obj)} {dp un : Nat} {gd : Option (List Code)} {cn : Str} {cs : Scope} {a : Addr} {ccd : Value} {cl : List (Str × Addr)} {outer : List Env} {A₀ : Around} {base h₀ : Heap} {L : Addr} {m : Str → Option Value} {s : Shared} {Q E : Value → Shared → Prop}
    (B : Below A₀ base outer h₀) (F : Fr h₀ L s.heap m) (X : (hd.heap_39 w.params).In h₀) (N : News h₀ L s.heap news) (T : Top hd.view_39 (looseW hd.view_39 LOOSE) mean mg mb h₀) (hk : cs.kind = .function)
    (hp : 1 ≤ y ∧ y ≤ 2000000 ∧ -200000 ≤ p ∧ p ≤ 200000) (hd : dp + 8 < recursionLimit) (hu : un + 8 * 8 < cLine)
    (ret : 0 ≤ days y → days y ≤ 800000000 → ∀ (t : Tok) (h' : Heap) (tk' : Nat), Fr h₀ L h' m → News h₀ L h' news → Q (.float (hf (3442849 + 2 * (days y + p))) t) { s with heap := h', toks := tk' }) :
      wpAny (model PySem.Challenge.rw_ba5006_01.row.prog w) (ktrTop dp un gd cn cs L a ccd cl outer) (call (.ref 78) [.int y t1, .int p t2]) Q E s :=
  Claim.use (tojdo_is w y p t1 t2) B F X N T hk hp hd hu (ret (days_bounds hp.1 hp.2.1).1 (days_bounds hp.1 hp.2.1).2)
theorem tojdg_use {w : World} {y : Int} {t1 t2 t3 : Tok} {mean : ExcName → Option Value} {mg mb : Str → Option Value} {news : List (Addr × Obj)} {dp un : Nat} {gd : Option (List Code)} {cn : Str} {cs : Scope} {a : Addr} {ccd : Value} {cl : List (Str × Addr)} {outer : List Env} {A₀ : Around} {base h₀ : Heap} {L : Addr} {m : Str → Option Value} {s : Shared} {Q E : Value → Shared → Prop}
    (B : Below A₀ base outer h₀) (F : Fr h₀ L s.heap m) (X : (hd.heap_39 w.params).In h₀) (N : News h₀ L s.heap news) (T : Top hd.view_39 (looseW hd.view_39 LOOSE) mean mg mb h₀) (hk : cs.kind = .function)
    (hp : 1 ≤ y ∧ y ≤ 2000000) (hd : dp + 6 < recursionLimit) (hu : un + 8 * 6 < cLine)
    (ret : 0 ≤ days y → days y ≤ 800000000 → ∀ (t : Tok) (h' : Heap) (tk' : Nat), Fr h₀ L h' m → News h₀ L h' news → Q (.float (hf (3442849 + 2 * (days y + 1))) t) { s with heap := h', toks := tk' }) :
      wpAny (model PySem.Challenge.rw_ba5006_01.row.prog w) (ktrTop dp un gd cn cs L a ccd cl outer) (call (.ref 64) [.int y t1, .int 1 t2, .int 1 t3]) Q E s := by
  refine Claim.use (tojdg_is w y 1 1 t1 t2 t3) B F X N T hk ⟨hp.1, hp.2, by decide, by decide, by decide, mdays_pos _ _⟩ hd hu ?_
  rw [cum1, Int.add_zero]
  exact ret (days_bounds hp.1 hp.2).1 (days_bounds hp.1 hp.2).2
theorem pow6 : (10 : Int) ^ Int.toNat 6 = 1000000 := by decide
theorem pow5 : (10 : Int) ^ Int.toNat 5 = 100000 := by decide
section
variable {prog : Program} {w : World} {A : Around} {E : Value → Shared → Prop} {s : Shared} {Q : Value → Shared → Prop} {a n c : Int} {t u : Tok}
theorem r_mod_ii (hn : n = c) (hc : 0 < c) (h : ∀ v, 0 ≤ v → v < c → Q (.int v s.toks) { s with toks := s.toks + 1 }) : wpAny (model prog w) A (binaryOp .Mod (.int a t) (.int n u)) Q E s := by
  subst hn
  refine mod_int' (by omega) ?_
  rw [Int.fmod_eq_emod_of_nonneg _ (Int.le_of_lt hc)]
  exact h _ (Int.emod_nonneg _ (Int.ne_of_gt hc)) (Int.emod_lt_of_pos _ hc)
end
local macro_rules | `(tactic| walk_at "eval Call") => `(tactic| (k_here; (with_reducible show wpAny _ _ (eval (Expr.Call (Expr.Name (Str.ofString "_law_long") _) _ _ _) _) _ _ _); refine Call_ ?_))
local macro_rules | `(tactic| walk_at "call ref") => `(tactic| (k_here; (with_reducible show wpAny _ _ (call (Value.ref 113) _) _ _ _); k_dflt (refine' Claim.use (lawlong_is _ _ _) ?k1 ?k2 ?k3 ?k4 ?k5 ?kK ?kp ?kd ?ku ?_; (case k1 => k_asm); (case k2 => k_asm); (case k3 => k_asm); (case k4 => k_asm); (case k5 => k_asm); (case kK => first | exact rfl | assumption); (case kp => trivial); (case kd => first | decide | ktr_room); (case ku => first | decide | ktr_units); intro t9 h9 tk9 F9 N9; (try dsimp only); (try k_fold))))
local macro_rules | `(tactic| walk_at "call ref") => `(tactic| (k_here; (with_reducible show wpAny _ _ (call (Value.ref 78) _) _ _ _); k_dflt (refine' tojdo_use ?k1 ?k2 ?k3 ?k4 ?k5 ?kK ?kp ?kd ?ku ?_; (case k1 => k_asm); (case k2 => k_asm); (case k3 => k_asm); (case k4 => k_asm); (case k5 => k_asm); (case kK => first | exact rfl | assumption); (case kp => (refine ⟨?_, ?_, ?_, ?_⟩ <;> omega)); (case kd => first | decide | ktr_room); (case ku => first | decide | ktr_units); intro hb1' hb2' t9 h9 tk9 F9 N9; (try dsimp only); (try k_fold))))
local macro_rules | `(tactic| walk_at "call ref") => `(tactic| (k_here; (with_reducible show wpAny _ _ (call (Value.ref 64) _) _ _ _); k_dflt (refine' tojdg_use ?k1 ?k2 ?k3 ?k4 ?k5 ?kK ?kp ?kd ?ku ?_; (case k1 => k_asm); (case k2 => k_asm); (case k3 => k_asm); (case k4 => k_asm); (case k5 => k_asm); (case kK => first | exact rfl | assumption); (case kp => exact ⟨by omega, by omega⟩); (case kd => first | decide | ktr_room); (case ku => first | decide | ktr_units); intro hb1' hb2' t9 h9 tk9 F9 N9; (try dsimp only); (try k_fold))))
local macro_rules | `(tactic| walk_at "call ref") => `(tactic| (k_here; (with_reducible show wpAny _ _ (call (Value.ref 71) _) _ _ _); (rename Dt _ _ _ _ => hD'); k_dflt (refine' Claim3.use (fromjdg_d _ hD' _ _) ?k1 ?k2 ?k3 ?k4 ?k5 ?kK ?kp ?kd ?ku ?_; (case k1 => k_asm); (case k2 => k_asm); (case k3 => k_asm); (case k4 => k_asm); (case k5 => k_asm); (case kK => first | exact rfl | assumption); (case kp => omega); (case kd => first | decide | ktr_room); (case ku => first | decide | ktr_units); intro D9 t9a t9b t9c c9 h9 tk9 F9 N9 l9; (try simp only [AllLt, and_true] at l9); (try dsimp only); (try k_fold))))
local macro_rules | `(tactic| walk_at "call ref") => `(tactic| (k_here; (with_reducible show wpAny _ _ (call (Value.ref 85) _) _ _ _); (rename Dt _ _ _ _ => hD'); k_dflt (refine' Claim2.use (fromjdo_d _ hD' _ _) ?k1 ?k2 ?k3 ?k4 ?k5 ?kK ?kp ?kd ?ku ?_; (case k1 => k_asm); (case k2 => k_asm); (case k3 => k_asm); (case k4 => k_asm); (case k5 => k_asm); (case kK => first | exact rfl | assumption); (case kp => omega); (case kd => first | decide | ktr_room); (case ku => first | decide | ktr_units); intro D9 t9a t9b c9 h9 tk9 F9 N9 l9; (try simp only [AllLt, and_true] at l9); (try dsimp only); (try k_fold))))
local macro_rules | `(tactic| walk_at "call ref") => `(tactic| (k_here; (with_reducible show wpAny _ _ (call (Value.ref 99) _) _ _ _); (rename Dt _ _ _ _ => hD'); k_dflt (refine' Claim3.use (tog_d _ hD' _ _ _ _) ?k1 ?k2 ?k3 ?k4 ?k5 ?kK ?kp ?kd ?ku ?_; (case k1 => k_asm); (case k2 => k_asm); (case k3 => k_asm); (case k4 => k_asm); (case k5 => k_asm); (case kK => first | exact rfl | assumption); (case kp => exact ⟨rfl, rfl⟩); (case kd => first | decide | ktr_room); (case ku => first | decide | ktr_units); intro D9 t9a t9b t9c c9 h9 tk9 F9 N9 l9; (try simp only [AllLt, and_true] at l9); (try dsimp only); (try k_fold))))
local macro_rules | `(tactic| walk_at "call ref") => `(tactic| (k_here; (with_reducible show wpAny _ _ (call (Value.ref 92) _) _ _ _); (rename Dt _ _ _ _ => hD'); k_dflt (refine' Claim2.use (fromg_d _ hD' _ _ _ _ _ _) ?k1 ?k2 ?k3 ?k4 ?k5 ?kK ?kp ?kd ?ku ?_; (case k1 => k_asm); (case k2 => k_asm); (case k3 => k_asm); (case k4 => k_asm); (case k5 => k_asm); (case kK => first | exact rfl | assumption); (case kp => exact ⟨rfl, rfl, rfl⟩); (case kd => first | decide | ktr_room); (case ku => first | decide | ktr_units); intro D9 t9a t9b c9 h9 tk9 F9 N9 l9; (try simp only [AllLt, and_true] at l9); (try dsimp only); (try k_fold))))
local macro_rules | `(tactic| walk_at "binaryOp Sub float int") => `(tactic| (k_here; k_dflt (refine' r_sub_fi rfl ?hx ?ha ?hn ?_; (case hx => first | with_reducible rfl | exact epoch_hf | exact half_hf); (case ha => omega); (case hn => omega)); (try dsimp only)))
local macro_rules | `(tactic| walk_at "binaryOp Add float int") => `(tactic| (k_here; k_dflt (first | (refine' r_add_fi rfl ?hx ?ha ?hn ?_; (case hx => first | with_reducible rfl | exact epoch_hf | exact half_hf); (case ha => omega); (case hn => omega)) | (refine' r_add_any rfl ?hn ?_; (case hn => omega))); (try dsimp only)))
local macro_rules | `(tactic| walk_at "binaryOp Add int float") => `(tactic| (k_here; k_dflt (refine' r_add_if rfl ?hx ?ha ?hn ?_; (case hx => first | with_reducible rfl | exact epoch_hf | exact half_hf); (case ha => omega); (case hn => omega)); (try dsimp only)))
local macro_rules | `(tactic| walk_at "binaryOp Sub float float") => `(tactic| (k_here; k_dflt (refine' r_sub_ff ?hx ?hy ?ha ?hb ?_; (case hx => first | with_reducible rfl | exact epoch_hf | exact half_hf); (case hy => first | with_reducible rfl | exact epoch_hf | exact half_hf); (case ha => omega); (case hb => omega)); (try dsimp only)))
local macro_rules | `(tactic| walk_at "binaryOp Add float float") => `(tactic| (k_here; k_dflt (refine' r_add_ff ?hx ?hy ?ha ?hb ?_; (case hx => first | with_reducible rfl | exact epoch_hf | exact half_hf); (case hy => first | with_reducible rfl | exact epoch_hf | exact half_hf); (case ha => omega); (case hb => omega)); (try dsimp only)))
local macro_rules | `(tactic| walk_at "binaryOp Mult float int") => `(tactic| (k_here; k_dflt (first | (refine' r_mul_fi rfl ?hx ?h1 ?h2 ?h3 ?h4 ?_; (case hx => with_reducible rfl); (case h1 => omega); (case h2 => omega); (case h3 => omega); (case h4 => omega)) | (refine' r_mul_306 rfl ?hn ?_; (case hn => omega))); (try dsimp only)))
local macro_rules | `(tactic| walk_at "binaryOp Div float int") => `(tactic| (k_here; k_dflt (refine' r_div_fi rfl ?hx ?h1 ?h2 ?_; (case hx => with_reducible rfl); (case h1 => omega); (case h2 => omega)); (try dsimp only)))
local macro_rules | `(tactic| walk_at "binaryOp Div int int") => `(tactic| (k_here; k_dflt (refine' r_div_ii rfl ?h1 ?h2 ?_; (case h1 => omega); (case h2 => omega)); (try dsimp only)))
local macro_rules | `(tactic| walk_at "binaryOp Mod float int") => `(tactic| (k_here; k_dflt (refine' r_mod_fi rfl ?hx ?h1 ?h2 ?h3 ?h4 ?_; (case hx => with_reducible rfl); (case h1 => omega); (case h2 => omega); (case h3 => omega); (case h4 => omega)); intro c' hc'; (try dsimp only)))
local macro_rules | `(tactic| walk_at "call builtin:math.floor") => `(tactic| (k_here; k_dflt (first | (refine' r_floor_hf rfl ?h1 ?_; (case h1 => omega)) | (refine' r_floor_div rfl ?h1 ?h2 ?h3 ?h4 ?h5 ?_; (case h1 => omega); (case h2 => omega); (case h3 => omega); (case h4 => omega); (case h5 => omega)) | (refine' r_floor_ii rfl ?h1 ?h2 ?h3 ?h4 ?_; (case h1 => omega); (case h2 => omega); (case h3 => omega); (case h4 => omega)) | (refine' r_floor_month rfl ?h1 ?h2 ?h3 ?h4 ?h5 ?h6 ?_; (case h1 => omega); (case h2 => omega); (case h3 => omega); (case h4 => omega); (case h5 => omega); (case h6 => omega))); intro v' hv'; (try dsimp only)))
local macro_rules | `(tactic| walk_at "call builtin:math.trunc") => `(tactic| (k_here; k_dflt (first | (refine' r_trunc_306 rfl ?h0 ?h1 ?h2 ?_; (case h0 => rfl); (case h1 => omega); (case h2 => omega)) | (refine' r_trunc_ii rfl ?h1 ?h2 ?h3 ?h4 ?_; (case h1 => omega); (case h2 => omega); (case h3 => omega); (case h4 => omega))); intro v' hv'; (try dsimp only)))
local macro_rules | `(tactic| walk_at "call type:int") => `(tactic| (k_here; k_dflt (refine' r_int rfl ?h1 ?h2 ?_; (case h1 => omega); (case h2 => omega)); intro v' hv'; (try dsimp only)))
local macro_rules | `(tactic| walk_at "compareOp Lt float int") => `(tactic| (k_here; k_dflt (refine' r_lt_fi ?h1 ?_; (case h1 => omega)); (try dsimp only)))
local macro_rules | `(tactic| walk_at "compareOp NotEq float float") => `(tactic| (k_here; k_dflt (refine' r_ne_ff ?h1 ?h2 ?_; (case h1 => omega); (case h2 => omega)); (try dsimp only)))
local macro_rules | `(tactic| walk_at "binaryOp Add int bool") => `(tactic| (k_here; first | (with_reducible refine r_add_true ?_) | (with_reducible refine r_add_false ?_)))
local macro_rules | `(tactic| walk_at "binaryOp Sub int bool") => `(tactic| (k_here; first | (with_reducible refine r_sub_true ?_) | (with_reducible refine r_sub_false ?_)))
local macro_rules | `(tactic| walk_at "binaryOp Mod int int") => `(tactic| (k_here; k_dflt (refine' r_mod_ii ?hn ?hc ?_; (case hn => first | exact pow6 | exact pow5); (case hc => decide)); intro v' hv0' hv1'; (try dsimp only)))
local macro_rules | `(tactic| walk_at "exec If") => `(tactic| (k_here; (fail_if_success (with_reducible show wpAny _ _ _ (CutI _ _ _ _ _ _ _) _ _)); (with_reducible show wpAny _ _ (exec (Stmt.If (Expr.UnaryOp UnaryOp.Not _ _) _ _ _) _) _ _ _); (rename Fr _ _ _ _ => F'); (rename News _ _ _ _ => N'); (refine' cut_i (x := Str.ofString "place") (fun v => -100000 < v ∧ v < 100000) F' N' ?_ ?_); rotate_left; ((intro v' t' h' tk' hP' F' N'; obtain ⟨hP1', hP2'⟩ := hP'); (try dsimp only); (try k_fold)); rotate_left; skip))
local macro_rules | `(tactic| walk_at "CutI") => `(tactic| (refine cut_i_end (by k_asm) (by k_asm) (by intro z hz; first | rfl | (simp [hz]; done)) ⟨_, _, by with_unfolding_all rfl, ?_⟩; (try dsimp only); (constructor <;> omega)))
local macro_rules | `(tactic| walk_at "exec For Name List cons nil") => `(tactic| (k_here; (fail_if_success (rename InMonths => hM')); (rename Walks _ _ _ _ _ => hW'); (rename Fr _ _ _ _ => F'); (rename News _ _ _ _ => N'); (refine' cut_law hW' F' N' ?_ ?_); rotate_left; (intro mo' da' t1' t2' u' h' tk' hP' F' N'); (obtain ⟨hD', hE', hy1', hy2', hr1', hr2'⟩ := hP'); (try dsimp only); (try k_fold); rotate_left; (intro hM')))
local macro_rules | `(tactic| walk_at "CutM") => `(tactic| ((rename Walks _ _ _ _ _ => hW'); (refine cut_m_end (by k_asm) (by k_asm) (by first | (intro p hp; exact hp) | (intro p hp; exact .tail _ hp) | (intro p hp; exact .tail _ (.tail _ hp)) | (intro p hp; cases hp)) (by intro z h1 h2 h3; simp [h1, h2, h3]) ⟨_, _, _, _, by with_unfolding_all rfl, by with_unfolding_all rfl, ?_⟩); (have hR9 := hW'.r1 (by omega)); (first | (have hN9 := leapN_t (by assumption)) | (have hN9 := leapN_f (by assumption))); first | exact found_1 hW' (by decide) (by omega) (by omega) (by omega) | exact found_2 hW' (by decide) (by omega) (by omega) (by omega) | exact found_3 hW' (by decide) (by omega) (by omega) (by omega) | exact found_4 hW' (by decide) (by omega) (by omega) (by omega) | exact found_5 hW' (by decide) (by omega) (by omega) (by omega) | exact found_6 hW' (by decide) (by omega) (by omega) (by omega) | exact found_7 hW' (by decide) (by omega) (by omega) (by omega) | exact found_8 hW' (by decide) (by omega) (by omega) (by omega) | exact found_9 hW' (by decide) (by omega) (by omega) (by omega) | exact found_10 hW' (by decide) (by omega) (by omega) (by omega) | exact found_11 hW' (by decide) (by omega) (by omega) (by omega) | exact found_12 hW' (by decide) (by omega) (by omega) (by omega)))

theorem law_walk : PySem.Challenge.rw_ba5006_01.Holds := hd (by
  k_with "exec While Compare cons nil" => k_while_given ["year", "place", "rest!"] (fun year place r0 script other rest => Walks year place r0 other rest) (fun year place r0 script other rest => (max (1000 - 1000 * rest) rest).toNat) "other" "rest"
  k_with "state" => first | exact walks_0 (by omega) (by omega) (by omega) (by omega) | exact walks_on (by assumption) (by omega) | exact walks_back (by assumption) (by omega) (by have h9 := leapN_t (by assumption); omega) | exact walks_back (by assumption) (by omega) (by have h9 := leapN_f (by assumption); omega) | exact walks_forth (by assumption) (by omega) (by have h9 := leapN_t (by assumption); omega) | exact walks_forth (by assumption) (by omega) (by have h9 := leapN_f (by assumption); omega)
  k_go0
  all_goals try k_fold
  k_steps)


end Mine

theorem PySem.Challenge.cw_ba5006_01_holds : PySem.Challenge.rw_ba5006_01.Holds :=
  Mine.law_walk
