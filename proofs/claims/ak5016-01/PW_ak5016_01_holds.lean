import PyProof.Rows.All
import Wide.All
import OpenK.AllK
import Wide.FinOn
import PySem.Challenge.RW_ak5016_01
set_option Elab.async false
set_option linter.unusedVariables false
set_option maxRecDepth 100000
set_option maxHeartbeats 8000000

-- FLaw
namespace Mine
section
open PySem PySem.Float64
set_option exponentiation.threshold 3000

theorem V_inj {t u : Nat} (h : V t = V u) : t = u := by
  rcases Nat.lt_trichotomy t u with h1 | h1 | h1
  · exact absurd h (Nat.ne_of_lt (V_lt h1))
  · exact h1
  · exact absurd h.symm (Nat.ne_of_lt (V_lt h1))
theorem V_lt_of {t u : Nat} (h : V t < V u) : t < u := by
  rcases Nat.lt_or_ge t u with h1 | h1
  · exact h1
  · exact absurd (V_mono h1) (Nat.not_le.mpr h)

theorem norm_mag : ∀ (f q k : Nat), q < 2 ^ 53 → 2 ^ 52 ≤ q * 2 ^ f → f ≤ k → k ≤ 1100 → ∃ t, t < infMag ∧ V t = q * 2 ^ k := by
  intro f
  induction f with
  | zero =>
    intro q k hq h1 _ hk
    refine ⟨k * 2 ^ 52 + q, ?_, V_at (by omega) (by omega)⟩
    have : infMag = 2047 * 2 ^ 52 := rfl
    omega
  | succ f ih =>
    intro q k hq h1 hf hk
    by_cases h2 : 2 ^ 52 ≤ q
    · refine ⟨k * 2 ^ 52 + q, ?_, V_at (by omega) (by omega)⟩
      have : infMag = 2047 * 2 ^ 52 := rfl
      omega
    · obtain ⟨t, ht, hv⟩ := ih (2 * q) (k - 1) (by omega) (by rw [Nat.pow_succ] at h1; rw [Nat.mul_comm 2 q, Nat.mul_assoc, Nat.mul_comm 2]; exact h1) (by omega) (by omega)
      refine ⟨t, ht, hv.trans ?_⟩
      have e : k = (k - 1) + 1 := by omega
      rw [show q * 2 ^ k = q * 2 ^ ((k - 1) + 1) by rw [← e], Nat.pow_succ]
      rw [Nat.mul_comm 2 q, Nat.mul_assoc, Nat.mul_comm 2]
theorem exact_mag {q k : Nat} (hq : q < 2 ^ 53) (h1 : 52 ≤ k) (h2 : k ≤ 1100) : ∃ t, t < infMag ∧ V t = q * 2 ^ k := by
  by_cases h0 : q = 0
  · subst h0
    exact ⟨0, by decide, by rw [V_zero]; simp⟩
  · exact norm_mag 52 q k hq (Nat.le_mul_of_pos_left _ (Nat.pos_of_ne_zero h0)) h1 h2

theorem V_top {t : Nat} (h : t < infMag) : V t ≤ (2 ^ 53 - 1) * 2 ^ 2045 := by
  have e : infMag - 1 = 2045 * 2 ^ 52 + (2 ^ 53 - 1) := by unfold infMag; omega
  have h2 : V (infMag - 1) = (2 ^ 53 - 1) * 2 ^ 2045 := by rw [e]; exact V_at (by omega) (by omega)
  rw [← h2]
  exact V_mono (by omega)

theorem right_unique {r : UInt64} {neg : Bool} {W D t : Nat} (h : Right r neg W D) (hD : 0 < D) (ht : t < infMag) (hW : W = D * V t) : r = pack neg t := by
  obtain ⟨t0, rfl, h1, h2, h3⟩ := h
  have hn : t0 ≠ infMag := by
    intro e
    have h4 := h2.mp e
    rw [hW] at h4
    have h5 : D * ((2 ^ 54 - 1) * 2 ^ 2045) ≤ D * (2 * V t) := by rw [show D * (2 * V t) = 2 * (D * V t) by ac_rfl]; exact h4
    have h6 := Nat.le_of_mul_le_mul_left h5 hD
    have h7 := V_top ht
    have hp : 0 < 2 ^ 2045 := Nat.two_pow_pos _
    generalize (2 : Nat) ^ 2045 = K at *
    omega
  have h4 := (h3 (by omega) t).1
  rw [hW] at h4
  have h5 : D * V t0 = D * V t := by unfold dist at h4; omega
  have h6 : V t0 = V t := Nat.eq_of_mul_eq_mul_left hD h5
  rw [V_inj h6]

def quarter (n : Int) : UInt64 := ofFrac (decide (n < 0)) n.natAbs 4

theorem two72 : (2 : Nat) ^ 1074 = 4 * 2 ^ 1072 := by rw [show (1074 : Nat) = 1072 + 2 from rfl, Nat.pow_add]
theorem q_mag (n : Int) (h : n.natAbs < 2 ^ 53) : ∃ t, t < infMag ∧ V t = n.natAbs * 2 ^ 1072 ∧ quarter n = pack (decide (n < 0)) t := by
  obtain ⟨t, ht, hv⟩ := exact_mag (k := 1072) h (by omega) (by omega)
  refine ⟨t, ht, hv, ?_⟩
  have hR : Right (quarter n) (decide (n < 0)) (n.natAbs * 2 ^ 1074) 4 := by
    unfold quarter
    exact ofFrac_right (by decide) rfl (by decide)
  refine right_unique hR (by decide) ht ?_
  rw [hv, two72]
  generalize (2 : Nat) ^ 1072 = K
  ac_rfl
theorem q_of_right {r : UInt64} {n : Int} {W D : Nat} (h : n.natAbs < 2 ^ 53) (hR : Right r (decide (n < 0)) W D) (hD : 0 < D) (hW : W = D * (n.natAbs * 2 ^ 1072)) : r = quarter n := by
  obtain ⟨t, ht, hv, e⟩ := q_mag n h
  rw [e]
  exact right_unique hR hD ht (by rw [hv]; exact hW)
theorem sgn_nat (n : Int) (k : Nat) : sgn (decide (n < 0)) (n.natAbs * k) = n * (k : Int) := by
  rw [sgn_mul]
  congr 1
  unfold sgn
  by_cases h : n < 0
  · simp only [h, decide_true, if_true]; omega
  · simp only [h, decide_false, Bool.false_eq_true, if_false]; omega
theorem q_decode (n : Int) (h : n.natAbs < 2 ^ 53) : ∃ m e, decode (quarter n) = .fin (decide (n < 0)) m e ∧ val (quarter n) = n * ((2 ^ 1072 : Nat) : Int) := by
  obtain ⟨t, ht, hv, e⟩ := q_mag n h
  obtain ⟨m, e', hd, hm⟩ := decode_pack (decide (n < 0)) ht
  refine ⟨m, e', by rw [e]; exact hd, ?_⟩
  rw [e, val_pack _ ht, hv, sgn_nat]

theorem ofInt_q {i : Int} (h : i.natAbs < 2 ^ 50) : ofInt i = quarter (4 * i) := by
  have e : decide (i < 0) = decide (4 * i < 0) := decide_eq_decide.mpr (by omega)
  have hR := ofInt_right i
  rw [e] at hR
  refine q_of_right (by omega) hR (by decide) ?_
  rw [two72, show (4 * i).natAbs = 4 * i.natAbs by omega]
  generalize (2 : Nat) ^ 1072 = K
  ac_rfl

theorem add_q {a b : Int} (ha : a.natAbs < 2 ^ 53) (hb : b.natAbs < 2 ^ 53) (hab : (a + b).natAbs < 2 ^ 53) : add (quarter a) (quarter b) = quarter (a + b) := by
  obtain ⟨m, e, hd, hv⟩ := q_decode a ha
  obtain ⟨k, f, hd2, hv2⟩ := q_decode b hb
  obtain ⟨h0, h1⟩ := add_right hd hd2
  have hs : val (quarter a) + val (quarter b) = (a + b) * ((2 ^ 1072 : Nat) : Int) := by rw [hv, hv2, Int.add_mul]
  have hp : (0 : Int) < ((2 ^ 1072 : Nat) : Int) := Int.ofNat_lt.mpr (Nat.two_pow_pos _)
  rw [hs] at h0 h1
  by_cases hz : a + b = 0
  · rw [h0 (by rw [hz, Int.zero_mul]), hz]
    have : (decide (a < 0) && decide (b < 0)) = false := by
      by_cases h1 : a < 0 <;> by_cases h2 : b < 0 <;> simp [h1, h2]
      omega
    rw [this]
    decide +kernel
  · have hne : (a + b) * ((2 ^ 1072 : Nat) : Int) ≠ 0 := fun h => (Int.mul_eq_zero.mp h).elim hz (by omega)
    have hR := h1 hne
    have e1 : decide ((a + b) * ((2 ^ 1072 : Nat) : Int) < 0) = decide (a + b < 0) := by
      apply decide_eq_decide.mpr
      constructor
      · intro h
        by_cases h2 : a + b < 0
        · exact h2
        · have := Int.mul_nonneg (show 0 ≤ a + b by omega) (Int.le_of_lt hp)
          omega
      · intro h
        exact Int.mul_neg_of_neg_of_pos h hp
    rw [e1] at hR
    refine q_of_right hab hR (by decide) ?_
    rw [Int.natAbs_mul, Int.natAbs_natCast, Nat.one_mul]

theorem neg_q {a : Int} (ha : a.natAbs < 2 ^ 53) (h0 : a ≠ 0) : neg (quarter a) = quarter (-a) := by
  obtain ⟨t, ht, hv, e⟩ := q_mag a ha
  obtain ⟨t', ht', hv', e'⟩ := q_mag (-a) (by omega)
  have ett : t' = t := V_inj (by rw [hv, hv', show (-a).natAbs = a.natAbs by omega])
  subst ett
  have hm : infMag = 2047 * 2 ^ 52 := rfl
  obtain ⟨m, x, hd, _⟩ := q_decode a ha
  have hnan : isNaN (quarter a) = false := by unfold isNaN; rw [hd]
  obtain ⟨h1, h2⟩ := neg_toNat hnan
  have p1 := pack_toNat (decide (a < 0)) (t := t') (by omega)
  have p2 := pack_toNat (decide (-a < 0)) (t := t') (by omega)
  apply UInt64.toNat_inj.mp
  rw [e', p2]
  rw [e] at h1 h2 ⊢
  rw [p1] at h1 h2
  have hlt : (neg (pack (decide (a < 0)) t')).toNat < 2 ^ 64 := UInt64.toNat_lt _
  generalize (neg (pack (decide (a < 0)) t')).toNat = x at *
  by_cases h : a < 0
  · simp only [h, decide_true, if_true] at h1 h2
    have h3 : ¬ (-a < 0) := by omega
    simp only [h3, decide_false, Bool.false_eq_true, if_false]
    have : (x / 2 ^ 63 == 1) = false := by rw [h2]; have : (2 ^ 63 + t') / 2 ^ 63 = 1 := by omega
                                           rw [this]; rfl
    have : x / 2 ^ 63 ≠ 1 := by simpa using this
    omega
  · simp only [h, decide_false, Bool.false_eq_true, if_false] at h1 h2
    have h3 : (-a < 0) := by omega
    simp only [h3, decide_true, if_true]
    have : (x / 2 ^ 63 == 1) = true := by rw [h2]; have : (0 + t') / 2 ^ 63 = 0 := by omega
                                          rw [this]; rfl
    have : x / 2 ^ 63 = 1 := by simpa using this
    omega
theorem sub_q {a b : Int} (ha : a.natAbs < 2 ^ 53) (hb : b.natAbs < 2 ^ 53) (hab : (a - b).natAbs < 2 ^ 53) : sub (quarter a) (quarter b) = quarter (a - b) := by
  unfold sub
  by_cases h0 : b = 0
  · subst h0
    -- minus zero: the sum's value is the other's
    obtain ⟨m, e, hd, hv⟩ := q_decode a ha
    have hz : decode (neg (quarter 0)) = .fin true 0 (-1074) := by with_unfolding_all rfl
    have hvz : val (neg (quarter 0)) = 0 := by unfold val; rw [hz]; simp [sgn]
    obtain ⟨h0, h1⟩ := add_right hd hz
    rw [hvz, Int.add_zero, hv] at h0 h1
    have hp : (0 : Int) < ((2 ^ 1072 : Nat) : Int) := Int.ofNat_lt.mpr (Nat.two_pow_pos _)
    rw [Int.sub_zero]
    by_cases hz' : a = 0
    · subst hz'
      rw [h0 (by simp)]
      decide +kernel
    · have hne : a * ((2 ^ 1072 : Nat) : Int) ≠ 0 := fun h => (Int.mul_eq_zero.mp h).elim hz' (by omega)
      have hR := h1 hne
      have e1 : decide (a * ((2 ^ 1072 : Nat) : Int) < 0) = decide (a < 0) := by
        apply decide_eq_decide.mpr
        constructor
        · intro h
          by_cases h2 : a < 0
          · exact h2
          · have := Int.mul_nonneg (show 0 ≤ a by omega) (Int.le_of_lt hp)
            omega
        · intro h
          exact Int.mul_neg_of_neg_of_pos h hp
      rw [e1] at hR
      refine q_of_right ha hR (by decide) ?_
      rw [Int.natAbs_mul, Int.natAbs_natCast, Nat.one_mul]
  · rw [neg_q hb h0, add_q ha (by omega) (by omega)]
    rfl
theorem mul_q {a i : Int} (ha0 : 0 < a) (ha : a.natAbs < 2 ^ 53) (hi : i.natAbs < 2 ^ 50) (hai : (a * i).natAbs < 2 ^ 53) : mul (quarter a) (ofInt i) = quarter (a * i) := by
  rw [ofInt_q hi]
  obtain ⟨m, e, hd, hv⟩ := q_decode a ha
  obtain ⟨k, f, hd2, hv2⟩ := q_decode (4 * i) (by omega)
  have hR := mul_right hd hd2
  have e1 : (decide (a < 0) != decide (4 * i < 0)) = decide (a * i < 0) := by
    have h1 : ¬ a < 0 := by omega
    simp only [h1, decide_false, Bool.false_bne]
    apply decide_eq_decide.mpr
    constructor
    · intro h
      exact Int.mul_neg_of_pos_of_neg ha0 (by omega)
    · intro h
      by_cases h2 : 4 * i < 0
      · exact h2
      · have := Int.mul_nonneg (Int.le_of_lt ha0) (show 0 ≤ i by omega)
        omega
  rw [e1, hv, hv2] at hR
  refine q_of_right hai hR (Nat.two_pow_pos _) ?_
  rw [Int.natAbs_mul, Int.natAbs_mul, Int.natAbs_natCast, Int.natAbs_mul, Int.natAbs_mul, two72]
  generalize (2 : Nat) ^ 1072 = K
  rw [show (4 : Int).natAbs = 4 from rfl]
  ac_rfl

theorem toInt_val {x : UInt64} {s : Bool} {m : Nat} {e : Int} (h : decode x = .fin s m e) : Flt.toInt floorOf x = (val x) / ((2 ^ 1074 : Nat) : Int) := by
  rw [Flt.toInt_fin h, val_eq h]
  have hg := decode_ge h
  have hp : (0 : Int) < ((2 ^ 1074 : Nat) : Int) := Int.ofNat_lt.mpr (Nat.two_pow_pos _)
  unfold floorOf
  rw [sgn_mul]
  generalize sgn s m = a
  split
  · rename_i h1
    have e1 : (e + 1074).toNat = e.toNat + 1074 := by omega
    rw [e1, Nat.pow_add, Int.natCast_mul, ← Int.mul_assoc, Int.mul_ediv_cancel _ (Int.ne_of_gt hp), Int.natCast_pow]
    rfl
  · rename_i h1
    have e1 : 1074 = (e + 1074).toNat + (-e).toNat := by omega
    have e2 : ((2 ^ 1074 : Nat) : Int) = ((2 ^ (-e).toNat : Nat) : Int) * ((2 ^ (e + 1074).toNat : Nat) : Int) := by
      rw [← Int.natCast_mul, ← Nat.pow_add]
      congr 2
      omega
    have hp2 : (0 : Int) < ((2 ^ (e + 1074).toNat : Nat) : Int) := Int.ofNat_lt.mpr (Nat.two_pow_pos _)
    rw [e2, Int.mul_ediv_mul_of_pos_left _ _ hp2, Int.natCast_pow]
    exact Int.fdiv_eq_ediv_of_nonneg _ (Int.le_of_lt (Int.pow_pos (by decide)))
theorem floor_q {n : Int} (h : n.natAbs < 2 ^ 53) : Flt.toInt floorOf (quarter n) = n / 4 := by
  obtain ⟨m, e, hd, hv⟩ := q_decode n h
  rw [toInt_val hd, hv, two72, Int.natCast_mul]
  have hp2 : (0 : Int) < ((2 ^ 1072 : Nat) : Int) := Int.ofNat_lt.mpr (Nat.two_pow_pos _)
  exact Int.mul_ediv_mul_of_pos_left _ _ hp2
theorem finite_q {n : Int} (h : n.natAbs < 2 ^ 53) : isFinite (quarter n) = true := by
  obtain ⟨m, e, hd, _⟩ := q_decode n h
  unfold isFinite; rw [hd]

theorem trunc_q {n : Int} (h : n.natAbs < 2 ^ 50) : Flt.toInt truncOf (quarter (4 * n)) = n := by
  obtain ⟨m, e, hd, hv⟩ := q_decode (4 * n) (by omega)
  have hf := floor_q (n := 4 * n) (by omega)
  rw [Flt.toInt_fin hd] at hf ⊢
  unfold truncOf
  by_cases h0 : (4 * n) < 0
  · simp only [h0, decide_true, if_true] at hd ⊢
    unfold ceilOf
    -- the other sign's floor is the negation's
    obtain ⟨m', e', hd', hv'⟩ := q_decode (-(4 * n)) (by omega)
    have hneg : neg (quarter (4 * n)) = quarter (-(4 * n)) := neg_q (by omega) (by omega)
    have hdn := neg_decode hd
    rw [hneg, hd'] at hdn
    have hf' := floor_q (n := -(4 * n)) (by omega)
    rw [Flt.toInt_fin hd'] at hf'
    injection hdn with e1 e2 e3
    rw [e1, e2, e3] at hf'
    rw [hf']
    omega
  · simp only [h0, decide_false, Bool.false_eq_true, if_false] at hf ⊢
    rw [hf]; omega
theorem ceil_q {n : Int} (h : n.natAbs < 2 ^ 53) : Flt.toInt ceilOf (quarter n) = -((-n) / 4) := by
  obtain ⟨m, e, hd, hv⟩ := q_decode n h
  rw [Flt.toInt_fin hd]
  unfold ceilOf
  by_cases h0 : n = 0
  · subst h0
    have hz : decode (quarter 0) = .fin false 0 (-1074) := by with_unfolding_all rfl
    rw [hz] at hd
    injection hd with e1 e2 e3
    subst e2 e3
    simp [floorOf, sgn]
  · obtain ⟨m', e', hd', hv'⟩ := q_decode (-n) (by omega)
    have hdn := neg_decode hd
    rw [neg_q h h0, hd'] at hdn
    have hf' := floor_q (n := -n) (by omega)
    rw [Flt.toInt_fin hd'] at hf'
    injection hdn with e1 e2 e3
    rw [e1, e2, e3] at hf'
    rw [hf']

theorem truncdiv_q {n : Int} (h0 : 0 ≤ n) (h : n.natAbs < 2 ^ 53) : Flt.toInt truncOf (quarter n) = n / 4 := by
  obtain ⟨m, e, hd, hv⟩ := q_decode n h
  have hf := floor_q h
  rw [Flt.toInt_fin hd] at hf ⊢
  unfold truncOf
  have h1 : ¬ n < 0 := by omega
  simp only [h1, decide_false, Bool.false_eq_true, if_false] at hf ⊢
  exact hf

theorem V_between {n d lo hi : Nat} (hd : 0 < d) (hov : roundMag n d < infMag) (h1 : d * V lo ≤ n * 2 ^ 1074) (h2 : n * 2 ^ 1074 ≤ d * V hi) : lo ≤ roundMag n d ∧ roundMag n d ≤ hi := by
  have a := (roundMag_right hd hov lo).1
  have b := (roundMag_right hd hov hi).1
  generalize n * 2 ^ 1074 = W at *
  constructor
  · rcases Nat.lt_or_ge (roundMag n d) lo with h | h
    · have := Nat.mul_lt_mul_of_pos_left (V_lt h) hd
      unfold dist at a
      omega
    · exact h
  · rcases Nat.lt_or_ge hi (roundMag n d) with h | h
    · have := Nat.mul_lt_mul_of_pos_left (V_lt h) hd
      unfold dist at b
      omega
    · exact h
theorem not_over {n d : Nat} (hd : 0 < d) (h : n < 2 ^ 60) : roundMag n d < infMag := by
  have h1 := roundMag_over (n := n) hd
  have h2 : roundMag n d ≤ infMag := by rw [roundMag_min]; omega
  rcases Nat.lt_or_ge (roundMag n d) infMag with h3 | h3
  · exact h3
  · exfalso
    have h4 := h1.mp (by omega)
    have h5 : (2 : Nat) ^ 2045 = 2 ^ 971 * 2 ^ 1074 := by rw [← Nat.pow_add]
    have h6 : (2 ^ 54 - 1) * 2 ^ 2045 ≤ 2 * (n * 2 ^ 1074) := Nat.le_trans (Nat.le_mul_of_pos_left _ hd) h4
    rw [h5, ← Nat.mul_assoc, ← Nat.mul_assoc] at h6
    have h7 := Nat.le_of_mul_le_mul_right h6 (Nat.two_pow_pos _)
    have h8 : (2 : Nat) ^ 60 ≤ 2 ^ 971 := Nat.pow_le_pow_right (by decide) (by decide)
    generalize (2 : Nat) ^ 971 = K at *
    omega
theorem two64 : (2 : Nat) ^ 1074 = 1024 * 2 ^ 1064 := by rw [show (1074 : Nat) = 1064 + 10 from rfl, Nat.pow_add, Nat.mul_comm]
/-- the rounded quotient lies between two fine fractions, if the true one does -/
theorem div_mag {n d a b : Nat} (hd : 0 < d) (hn : n < 2 ^ 60) (ha : a < 2 ^ 53) (hb : b < 2 ^ 53) (h1 : d * a ≤ n * 1024) (h2 : n * 1024 ≤ d * b) :
    a * 2 ^ 1064 ≤ V (roundMag n d) ∧ V (roundMag n d) ≤ b * 2 ^ 1064 ∧ roundMag n d < infMag := by
  obtain ⟨lo, hlo, vlo⟩ := exact_mag (k := 1064) ha (by omega) (by omega)
  obtain ⟨hi, hhi, vhi⟩ := exact_mag (k := 1064) hb (by omega) (by omega)
  have hov := not_over hd hn
  obtain ⟨x, y⟩ := V_between (lo := lo) (hi := hi) hd hov (by rw [vlo, two64, ← Nat.mul_assoc, ← Nat.mul_assoc]; exact Nat.mul_le_mul_right _ h1) (by rw [vhi, two64, ← Nat.mul_assoc, ← Nat.mul_assoc]; exact Nat.mul_le_mul_right _ h2)
  exact ⟨vlo ▸ V_mono x, vhi ▸ V_mono y, hov⟩

theorem div_fin {neg : Bool} {n d : Nat} (hd : 0 < d) (hn : n < 2 ^ 60) : ∃ m e, decode (ofFrac neg n d) = .fin neg m e ∧ val (ofFrac neg n d) = sgn neg (V (roundMag n d)) := by
  have hov := not_over hd hn
  unfold ofFrac
  obtain ⟨m, e, h, _⟩ := decode_pack neg hov
  exact ⟨m, e, h, val_pack neg hov⟩

theorem floor_div {n : Int} {d : Nat} (hd : 0 < d) (hd2 : d ≤ 500) (hn : n.natAbs < 2 ^ 40) : Flt.toInt floorOf (ofFrac (decide (n < 0)) n.natAbs d) = n / (d : Int) := by
  obtain ⟨m, e, h, hv⟩ := div_fin (neg := decide (n < 0)) hd (n := n.natAbs) (by omega)
  rw [toInt_val h, hv]
  have hp2 : 0 < 2 ^ 1064 := Nat.two_pow_pos 1064
  have hq := Nat.div_add_mod n.natAbs d
  have hr := Nat.mod_lt n.natAbs hd
  have hqn : n.natAbs / d ≤ n.natAbs := Nat.div_le_self _ _
  by_cases hx : n.natAbs % d = 0
  · have e1 : d * (1024 * (n.natAbs / d)) = n.natAbs * 1024 := by rw [← Nat.mul_assoc, Nat.mul_comm d 1024, Nat.mul_assoc]; omega
    obtain ⟨h1, h2, _⟩ := div_mag (n := n.natAbs) (d := d) (a := 1024 * (n.natAbs / d)) (b := 1024 * (n.natAbs / d)) hd (by omega) (by omega) (by omega) (by omega) (by omega)
    have h3 := Nat.le_antisymm h2 h1
    rw [h3]
    have hs : sgn (decide (n < 0)) (1024 * (n.natAbs / d) * 2 ^ 1064) = (if n < 0 then -((n.natAbs / d : Nat) : Int) else ((n.natAbs / d : Nat) : Int)) * ((2 ^ 1074 : Nat) : Int) := by
      rw [two64, sgn_mul, Int.natCast_mul, ← Int.mul_assoc]
      congr 1
      unfold sgn
      by_cases h : n < 0
      · simp only [h, decide_true, if_true]; omega
      · simp only [h, decide_false, Bool.false_eq_true, if_false]; omega
    rw [hs, Int.mul_ediv_cancel _ (Int.ne_of_gt (Int.ofNat_lt.mpr (Nat.two_pow_pos _)))]
    have e2 : n = (if n < 0 then -((n.natAbs / d : Nat) : Int) else ((n.natAbs / d : Nat) : Int)) * (d : Int) := by
      have e3 : (n.natAbs : Int) = ((n.natAbs / d : Nat) : Int) * (d : Int) := by
        rw [← Int.natCast_mul, Nat.mul_comm]; omega
      split
      · rw [Int.neg_mul, ← e3]; omega
      · rw [← e3]; omega
    generalize (if n < 0 then -((n.natAbs / d : Nat) : Int) else ((n.natAbs / d : Nat) : Int)) = q at *
    rw [e2, Int.mul_ediv_cancel _ (by omega)]
  · have e1 : d * (1024 * (n.natAbs / d) + 1) ≤ n.natAbs * 1024 := by rw [Nat.mul_add, ← Nat.mul_assoc, Nat.mul_comm d 1024, Nat.mul_assoc]; omega
    have e2 : n.natAbs * 1024 ≤ d * (1024 * (n.natAbs / d) + 1023) := by rw [Nat.mul_add, ← Nat.mul_assoc, Nat.mul_comm d 1024, Nat.mul_assoc]; omega
    obtain ⟨h1, h2, _⟩ := div_mag (n := n.natAbs) (d := d) (a := 1024 * (n.natAbs / d) + 1) (b := 1024 * (n.natAbs / d) + 1023) hd (by omega) (by omega) (by omega) e1 e2
    have hK := two64
    generalize hq' : n.natAbs / d = q at *
    generalize hr' : n.natAbs % d = r at *
    generalize V (roundMag n.natAbs d) = v at *
    have e3 : n = if n < 0 then -((d * q + r : Nat) : Int) else ((d * q + r : Nat) : Int) := by rw [hq]; split <;> omega
    have l1 : q * 2 ^ 1074 < v := by rw [two64]; generalize (2 : Nat) ^ 1064 = K at *; rw [Nat.add_mul] at h1; rw [← Nat.mul_assoc, Nat.mul_comm q 1024]; omega
    have l2 : v < (q + 1) * 2 ^ 1074 := by rw [two64]; generalize (2 : Nat) ^ 1064 = K at *; rw [Nat.add_mul] at h2; rw [← Nat.mul_assoc, Nat.mul_comm (q + 1) 1024, Nat.mul_add, Nat.add_mul]; omega
    have hp : (0 : Int) < ((2 ^ 1074 : Nat) : Int) := Int.ofNat_lt.mpr (Nat.two_pow_pos _)
    generalize (2 : Nat) ^ 1074 = K at *
    unfold sgn
    by_cases h0 : n < 0
    · simp only [h0, decide_true, if_true] at e3 ⊢
      have a1 : -(v : Int) / (K : Int) = -((q : Int) + 1) := by
        rw [Int.ediv_eq_iff_of_pos hp] <;> constructor
        · have : ((q + 1 : Nat) : Int) * (K : Int) > (v : Int) := by rw [← Int.natCast_mul]; exact Int.ofNat_lt.mpr l2
          rw [Int.neg_mul]; push_cast at this; omega
        · have : ((q : Nat) : Int) * (K : Int) < (v : Int) := by rw [← Int.natCast_mul]; exact Int.ofNat_lt.mpr l1
          rw [Int.neg_mul, Int.add_mul]; omega
      have a2 : n / (d : Int) = -((q : Int) + 1) := by
        rw [Int.ediv_eq_iff_of_pos (by omega)]; constructor
        · rw [e3, Int.neg_mul, Int.add_mul]; push_cast; rw [Int.mul_comm (q : Int)]; omega
        · rw [e3, Int.neg_mul, Int.add_mul]; push_cast; rw [Int.mul_comm (q : Int)]; omega
      rw [a1, a2]
    · simp only [h0, decide_false, Bool.false_eq_true, if_false] at e3 ⊢
      have a1 : (v : Int) / (K : Int) = (q : Int) := by
        rw [Int.ediv_eq_iff_of_pos hp]; constructor
        · have : ((q : Nat) : Int) * (K : Int) < (v : Int) := by rw [← Int.natCast_mul]; exact Int.ofNat_lt.mpr l1
          omega
        · have : ((q + 1 : Nat) : Int) * (K : Int) > (v : Int) := by rw [← Int.natCast_mul]; exact Int.ofNat_lt.mpr l2
          push_cast at this; rw [Int.add_mul] at this; omega
      have a2 : n / (d : Int) = (q : Int) := by
        rw [Int.ediv_eq_iff_of_pos (by omega)]; constructor
        · rw [e3]; push_cast; rw [Int.mul_comm (q : Int)]; omega
        · rw [e3]; push_cast; rw [Int.mul_comm (q : Int)]; omega
      rw [a1, a2]
theorem finite_div {n : Int} {d : Nat} (hd : 0 < d) (hn : n.natAbs < 2 ^ 40) : isFinite (ofFrac (decide (n < 0)) n.natAbs d) = true := by
  obtain ⟨m, e, h, _⟩ := div_fin (neg := decide (n < 0)) hd (n := n.natAbs) (by omega)
  unfold isFinite; rw [h]

theorem lit_half : (0x3fe0000000000000 : UInt64) = quarter 2 := by decide +kernel
theorem lit_greg : (0x413a445180000000 : UInt64) = quarter 6885702 := by decide +kernel
theorem lit_365 : (0x4076d40000000000 : UInt64) = quarter 1461 := by decide +kernel
theorem lit_jul : (0x4097d20000000000 : UInt64) = quarter 6098 := by decide +kernel
theorem lit_isl : (0x413dbb1780000000 : UInt64) = quarter 7793758 := by decide +kernel
theorem lit_29 : (0x403d800000000000 : UInt64) = quarter 118 := by decide +kernel
theorem lit_cop : (0x413bd90580000000 : UInt64) = quarter 7300118 := by decide +kernel
theorem lit_arm : (0x413d55c580000000 : UInt64) = quarter 7690006 := by decide +kernel
theorem lit_sar : (0x4140272d40000000 : UInt64) = quarter 8468842 := by decide +kernel
end
end Mine
open PySem PySem.W PyProof.Rows PySem.Spec PySem.Calls
namespace Mine
open_top hd for PySem.Challenge.rw_ak5016_01
-- FRules
section
variable {prog : Program} {w : World} {A : Around} {E : Value → Shared → Prop} {s : Shared} {x y : UInt64} {a b i j : Int} {t u : Tok} {Q : Value → Shared → Prop}

theorem notInf_q {n : Int} (h : n.natAbs < 2 ^ 53) : ¬ Float64.isInf (quarter n) = true := by
  obtain ⟨m, e, hd, _⟩ := q_decode n h
  unfold Float64.isInf; rw [hd]; simp
theorem notInf_div {n : Int} {d : Nat} (hd : 0 < d) (hn : n.natAbs < 2 ^ 40) : ¬ Float64.isInf (Float64.ofFrac (decide (n < 0)) n.natAbs d) = true := by
  obtain ⟨m, e, h, _⟩ := div_fin (neg := decide (n < 0)) hd (n := n.natAbs) (by omega)
  unfold Float64.isInf; rw [h]; simp
theorem notInf_int {n : Int} (h : n.natAbs < 2 ^ 50) : ¬ Float64.isInf (Float64.ofInt n) = true := by
  rw [ofInt_q h]; exact notInf_q (by omega)

theorem q_add_ff (hx : x = quarter a) (hy : y = quarter b) (h1 : -(2 ^ 50) < a ∧ a < 2 ^ 50) (h2 : -(2 ^ 50) < b ∧ b < 2 ^ 50)
    (h : Q (.float (quarter (a + b)) s.toks) { s with toks := s.toks + 1 }) : wpAny (model prog w) A (binaryOp .Add (.float x t) (.float y u)) Q E s := by
  subst hx hy
  refine add_float ?_
  rw [add_q (by omega) (by omega) (by omega)]
  exact h
theorem q_sub_ff (hx : x = quarter a) (hy : y = quarter b) (h1 : -(2 ^ 50) < a ∧ a < 2 ^ 50) (h2 : -(2 ^ 50) < b ∧ b < 2 ^ 50)
    (h : Q (.float (quarter (a - b)) s.toks) { s with toks := s.toks + 1 }) : wpAny (model prog w) A (binaryOp .Sub (.float x t) (.float y u)) Q E s := by
  subst hx hy
  refine sub_float ?_
  rw [sub_q (by omega) (by omega) (by omega)]
  exact h
theorem q_add_fi (hx : x = quarter a) (h1 : -(2 ^ 50) < a ∧ a < 2 ^ 50) (h2 : -(2 ^ 48) < i ∧ i < 2 ^ 48)
    (h : Q (.float (quarter (a + 4 * i)) s.toks) { s with toks := s.toks + 1 }) : wpAny (model prog w) A (binaryOp .Add (.float x t) (.int i u)) Q E s := by
  subst hx
  refine AutoFloatOps.add_fi_1 (notInf_int (by omega)) ?_
  rw [ofInt_q (by omega), add_q (by omega) (by omega) (by omega)]
  exact h
theorem q_iadd_fi (hx : x = quarter a) (h1 : -(2 ^ 50) < a ∧ a < 2 ^ 50) (h2 : -(2 ^ 48) < i ∧ i < 2 ^ 48)
    (h : Q (.float (quarter (a + 4 * i)) s.toks) { s with toks := s.toks + 1 }) : wpAny (model prog w) A (inplaceOp .Add (.float x t) (.int i u)) Q E s := by
  subst hx
  refine PySem.Flt.iadd_fi_1 (notInf_int (by omega)) ?_
  rw [ofInt_q (by omega), add_q (by omega) (by omega) (by omega)]
  exact h
theorem q_add_if (hx : x = quarter a) (h1 : -(2 ^ 50) < a ∧ a < 2 ^ 50) (h2 : -(2 ^ 48) < i ∧ i < 2 ^ 48)
    (h : Q (.float (quarter (4 * i + a)) s.toks) { s with toks := s.toks + 1 }) : wpAny (model prog w) A (binaryOp .Add (.int i u) (.float x t)) Q E s := by
  subst hx
  refine AutoFloatOps.add_if_1 (notInf_int (by omega)) ?_
  rw [ofInt_q (by omega), add_q (by omega) (by omega) (by omega)]
  exact h
theorem q_sub_fi (hx : x = quarter a) (h1 : -(2 ^ 50) < a ∧ a < 2 ^ 50) (h2 : -(2 ^ 48) < i ∧ i < 2 ^ 48)
    (h : Q (.float (quarter (a - 4 * i)) s.toks) { s with toks := s.toks + 1 }) : wpAny (model prog w) A (binaryOp .Sub (.float x t) (.int i u)) Q E s := by
  subst hx
  refine AutoFloatOps.sub_fi_1 (notInf_int (by omega)) ?_
  rw [ofInt_q (by omega), sub_q (by omega) (by omega) (by omega)]
  exact h
theorem q_sub_if (hx : x = quarter a) (h1 : -(2 ^ 50) < a ∧ a < 2 ^ 50) (h2 : -(2 ^ 48) < i ∧ i < 2 ^ 48)
    (h : Q (.float (quarter (4 * i - a)) s.toks) { s with toks := s.toks + 1 }) : wpAny (model prog w) A (binaryOp .Sub (.int i u) (.float x t)) Q E s := by
  subst hx
  refine AutoFloatOps.sub_if_1 (notInf_int (by omega)) ?_
  rw [ofInt_q (by omega), sub_q (by omega) (by omega) (by omega)]
  exact h
theorem q_mul_fi (hx : x = quarter a) (h1 : 0 < a ∧ a < 2 ^ 20) (h2 : -(2 ^ 28) < i ∧ i < 2 ^ 28)
    (h : Q (.float (quarter (a * i)) s.toks) { s with toks := s.toks + 1 }) : wpAny (model prog w) A (binaryOp .Mult (.float x t) (.int i u)) Q E s := by
  subst hx
  have hb : (a * i).natAbs < 2 ^ 53 := by
    rw [Int.natAbs_mul]
    have h3 : a.natAbs < 2 ^ 20 := by omega
    have h4 : i.natAbs < 2 ^ 28 := by omega
    have h5 : a.natAbs * i.natAbs ≤ 2 ^ 20 * 2 ^ 28 := Nat.mul_le_mul (Nat.le_of_lt h3) (Nat.le_of_lt h4)
    omega
  refine AutoFloatOps.mul_fi_1 (notInf_int (by omega)) ?_
  rw [mul_q h1.1 (by omega) (by omega) hb]
  exact h
/-- an int over four is a quarter; over another small divisor it is the rounded quotient -/
theorem q_div4 (h1 : -(2 ^ 50) < i ∧ i < 2 ^ 50) (h : Q (.float (quarter i) s.toks) { s with toks := s.toks + 1 }) : wpAny (model prog w) A (binaryOp .Div (.int i t) (.int 4 u)) Q E s := by
  have e : Float64.ofFrac (decide (i < 0) != decide ((4 : Int) < 0)) i.natAbs (4 : Int).natAbs = quarter i := by
    have : decide ((4 : Int) < 0) = false := by decide
    rw [this, Bool.bne_false]; rfl
  refine AutoIntOps.truediv_2 (by decide) (by rw [e]; exact notInf_q (by omega)) ?_
  rw [e]; exact h
def quot (n d : Int) : UInt64 := Float64.ofFrac (decide (n < 0)) n.natAbs d.toNat
theorem q_div (hj : 0 < j ∧ j ≤ 500) (h1 : -(2 ^ 40) < i ∧ i < 2 ^ 40) (h : Q (.float (quot i j) s.toks) { s with toks := s.toks + 1 }) : wpAny (model prog w) A (binaryOp .Div (.int i t) (.int j u)) Q E s := by
  have e : Float64.ofFrac (decide (i < 0) != decide (j < 0)) i.natAbs j.natAbs = quot i j := by
    have : decide (j < 0) = false := decide_eq_false (by omega)
    rw [this, Bool.bne_false, show j.natAbs = j.toNat by omega]; rfl
  refine AutoIntOps.truediv_2 (by simp; omega) (by rw [e]; exact notInf_div (by omega) (by omega)) ?_
  rw [e]; exact h
theorem isFin_of {x : UInt64} (h : Float64.isFinite x = true) : ∃ s m e, Float64.decode x = .fin s m e := by
  unfold Float64.isFinite at h
  split at h
  · exact ⟨_, _, _, by assumption⟩
  · cases h
theorem floor_fin (hf : Float64.isFinite x = true) (h : Q (.int (Flt.toInt Float64.floorOf x) s.toks) { s with toks := s.toks + 1 }) : wpAny (model prog w) A (call (.builtin "math.floor") [.float x t]) Q E s := by
  obtain ⟨sg, m, e, hd⟩ := isFin_of hf
  rw [Flt.toInt_fin hd] at h
  exact Flt.call_fn_gives Flt.kind_floor Flt.plain_floor Flt.entry_floor (Flt.args_floor _) (Flt.gives_mfloor t hd) h
theorem ceil_fin (hf : Float64.isFinite x = true) (h : Q (.int (Flt.toInt Float64.ceilOf x) s.toks) { s with toks := s.toks + 1 }) : wpAny (model prog w) A (call (.builtin "math.ceil") [.float x t]) Q E s := by
  obtain ⟨sg, m, e, hd⟩ := isFin_of hf
  rw [Flt.toInt_fin hd] at h
  exact Flt.call_fn_gives Flt.kind_ceil Flt.plain_ceil Flt.entry_ceil (Flt.args_ceil _) (Flt.gives_mceil t hd) h
theorem trunc_fin (hf : Float64.isFinite x = true) (h : Q (.int (Flt.toInt Float64.truncOf x) s.toks) { s with toks := s.toks + 1 }) : wpAny (model prog w) A (call (.builtin "math.trunc") [.float x t]) Q E s := by
  obtain ⟨sg, m, e, hd⟩ := isFin_of hf
  rw [Flt.toInt_fin hd] at h
  refine Flt.trunc_via ?_
  exact call_meets F.slot_float_trunc (typeIs_float s x t) F.entry_float_trunc (F.args_float_trunc_1 _) (Flt.gives_trunc t hd).meets h
theorem q_floor (hx : x = quarter a) (h1 : -(2 ^ 50) < a ∧ a < 2 ^ 50) (h : Q (.int (a / 4) s.toks) { s with toks := s.toks + 1 }) : wpAny (model prog w) A (call (.builtin "math.floor") [.float x t]) Q E s := by
  subst hx
  refine floor_fin (finite_q (by omega)) ?_
  rw [floor_q (by omega)]; exact h
theorem q_ceil (hx : x = quarter a) (h1 : -(2 ^ 50) < a ∧ a < 2 ^ 50) (h : Q (.int (-((-a) / 4)) s.toks) { s with toks := s.toks + 1 }) : wpAny (model prog w) A (call (.builtin "math.ceil") [.float x t]) Q E s := by
  subst hx
  refine ceil_fin (finite_q (by omega)) ?_
  rw [ceil_q (by omega)]; exact h
theorem q_trunc_pos (hx : x = quarter a) (h1 : 0 ≤ a ∧ a < 2 ^ 50) (h : Q (.int (a / 4) s.toks) { s with toks := s.toks + 1 }) : wpAny (model prog w) A (call (.builtin "math.trunc") [.float x t]) Q E s := by
  subst hx
  refine trunc_fin (finite_q (by omega)) ?_
  rw [truncdiv_q h1.1 (by omega)]; exact h
theorem q_trunc (hx : x = quarter a) (ha : a = 4 * b) (h1 : -(2 ^ 48) < b ∧ b < 2 ^ 48) (h : Q (.int b s.toks) { s with toks := s.toks + 1 }) : wpAny (model prog w) A (call (.builtin "math.trunc") [.float x t]) Q E s := by
  subst hx ha
  refine trunc_fin (finite_q (by omega)) ?_
  rw [trunc_q (by omega)]; exact h
theorem quot_floor (hx : x = quot i j) (hd : 0 < j ∧ j ≤ 500) (h1 : -(2 ^ 40) < i ∧ i < 2 ^ 40) (h : Q (.int (i / j) s.toks) { s with toks := s.toks + 1 }) : wpAny (model prog w) A (call (.builtin "math.floor") [.float x t]) Q E s := by
  subst hx
  refine floor_fin (finite_div (by omega) (by omega)) ?_
  unfold quot
  rw [floor_div (by omega) (by omega) (by omega), show ((j.toNat : Nat) : Int) = j by omega]; exact h

/- the two that are no quarters: 30.6001 * k, and (367 m - 362) / 12 + adj + day -/
def lit306 : UInt64 := 0x403e99a027525461
def prod306 (k : Int) : UInt64 := Float64.mul lit306 (Float64.ofInt k)
theorem prod306_all : ((List.range 12).all fun i => Float64.isFinite (prod306 ((i : Int) + 4)) && (Flt.toInt Float64.floorOf (prod306 ((i : Int) + 4)) == 306001 * ((i : Int) + 4) / 10000)) = true := by decide +kernel
theorem prod306_floor {k : Int} (h : 4 ≤ k ∧ k ≤ 15) : Float64.isFinite (prod306 k) = true ∧ Flt.toInt Float64.floorOf (prod306 k) = 306001 * k / 10000 := by
  have := List.all_eq_true.mp prod306_all (k - 4).toNat (List.mem_range.mpr (by omega))
  rw [Bool.and_eq_true, show (((k - 4).toNat : Nat) : Int) + 4 = k by omega] at this
  exact ⟨this.1, by simpa using this.2⟩
def g12a (m adj : Int) : UInt64 := Float64.add (quot (367 * m - 362) 12) (Float64.ofInt adj)
def g12b (m adj d : Int) : UInt64 := Float64.add (g12a m adj) (Float64.ofInt d)
theorem g12_all : ((List.range 12).all fun i => (List.range 3).all fun j => (List.range 22).all fun k => Float64.isFinite (g12b ((i : Int) + 1) (-(j : Int)) ((k : Int) + 1)) &&
    (Flt.toInt Float64.floorOf (g12b ((i : Int) + 1) (-(j : Int)) ((k : Int) + 1)) == (367 * ((i : Int) + 1) - 362) / 12 + (-(j : Int)) + ((k : Int) + 1))) = true := by decide +kernel
theorem g12_floor {m a d : Int} (h1 : 1 ≤ m ∧ m ≤ 12) (h2 : -2 ≤ a ∧ a ≤ 0) (h3 : 1 ≤ d ∧ d ≤ 22) : Float64.isFinite (g12b m a d) = true ∧ Flt.toInt Float64.floorOf (g12b m a d) = (367 * m - 362) / 12 + a + d := by
  have e1 := List.all_eq_true.mp g12_all (m - 1).toNat (List.mem_range.mpr (by omega))
  have e2 := List.all_eq_true.mp e1 (-a).toNat (List.mem_range.mpr (by omega))
  have e3 := List.all_eq_true.mp e2 (d - 1).toNat (List.mem_range.mpr (by omega))
  rw [Bool.and_eq_true, show (((m - 1).toNat : Nat) : Int) + 1 = m by omega, show -(((-a).toNat : Nat) : Int) = a by omega, show (((d - 1).toNat : Nat) : Int) + 1 = d by omega] at e3
  exact ⟨e3.1, by simpa using e3.2⟩
theorem q306_mul (hx : x = lit306) (h1 : -(2 ^ 28) < i ∧ i < 2 ^ 28)
    (h : Q (.float (prod306 i) s.toks) { s with toks := s.toks + 1 }) : wpAny (model prog w) A (binaryOp .Mult (.float x t) (.int i u)) Q E s := by
  subst hx
  exact AutoFloatOps.mul_fi_1 (notInf_int (by omega)) h
theorem q306_floor (hx : x = prod306 i) (h1 : 4 ≤ i ∧ i ≤ 15) (h : Q (.int (306001 * i / 10000) s.toks) { s with toks := s.toks + 1 }) : wpAny (model prog w) A (call (.builtin "math.floor") [.float x t]) Q E s := by
  subst hx
  obtain ⟨hf, he⟩ := prod306_floor h1
  refine floor_fin hf ?_
  rw [he]; exact h
theorem q12_add1 (hx : x = quot (367 * a - 362) 12) (h1 : -(2 ^ 48) < i ∧ i < 2 ^ 48)
    (h : Q (.float (g12a a i) s.toks) { s with toks := s.toks + 1 }) : wpAny (model prog w) A (binaryOp .Add (.float x t) (.int i u)) Q E s := by
  subst hx
  exact AutoFloatOps.add_fi_1 (notInf_int (by omega)) h
theorem q12_add2 (hx : x = g12a a b) (h1 : -(2 ^ 48) < i ∧ i < 2 ^ 48)
    (h : Q (.float (g12b a b i) s.toks) { s with toks := s.toks + 1 }) : wpAny (model prog w) A (binaryOp .Add (.float x t) (.int i u)) Q E s := by
  subst hx
  exact AutoFloatOps.add_fi_1 (notInf_int (by omega)) h
theorem q12_floor (hx : x = g12b a b i) (h1 : 1 ≤ a ∧ a ≤ 12) (h2 : -2 ≤ b ∧ b ≤ 0) (h3 : 1 ≤ i ∧ i ≤ 22) (h : Q (.int ((367 * a - 362) / 12 + b + i) s.toks) { s with toks := s.toks + 1 }) : wpAny (model prog w) A (call (.builtin "math.floor") [.float x t]) Q E s := by
  subst hx
  obtain ⟨hf, he⟩ := g12_floor h1 h2 h3
  refine floor_fin hf ?_
  rw [he]; exact h
end
-- DateR
section
open PySem.F PySem.Builtin._datetime

theorem mro_date : mroOf (.type "datetime.date") = pure [.type "datetime.date", .type "object"] := by rw [mroOf_type]; kernel_rfl
theorem lookup_date_new : typeLookup (.type "datetime.date") "__new__" = pure (some (.builtin "datetime.date.__new__")) := by rw [typeLookup_type, builtinLookup_eq_fast]; kernel_rfl
theorem lookup_date_init : typeLookup (.type "datetime.date") "__init__" = pure (some (.builtin "object.__init__")) := by rw [typeLookup_type, builtinLookup_eq_fast]; kernel_rfl
theorem sub_date : isSubtype (.type "datetime.date") (.type "datetime.date") = pure true := by rw [isSubtype_type]; kernel_rfl
theorem sub_datetime : isSubtype (.type "datetime.date") (.type "datetime.datetime") = pure false := by rw [isSubtype_type]; kernel_rfl
theorem entry_date_new : entryFor table "datetime.date.__new__" = some Builtin.«datetime.date.__new__» := entryFor_of_tree (by kernel_rfl)
theorem entry_date_weekday : entryFor table "datetime.date.weekday" = some Builtin.«datetime.date.weekday» := entryFor_of_tree (by kernel_rfl)
set_option maxHeartbeats 4000000 in
theorem meets_date_new (y m : Int) (t u v : Tok) (hy : 1 ≤ y) (hy2 : y ≤ 9999) (hm : 1 ≤ m) (hm2 : m ≤ 12) :
    Meets (Builtin.«datetime.date.__new__» ⟨[.type "datetime.date", .int y t, .int m u, .int 1 v], []⟩)
      (fun _ R s => R (.ok (.ret (Value.ref s.heap.objs.size))) { s with heap := s.heap.push { cls := Value.type "datetime.date", data := Data.fields #[Value.int y 0, Value.int m 0, Value.int 1 0] } }) :=
  .of_wp fun prog w A R s h => by
    obtain ⟨hp, g, d, tk, os⟩ := s
    have h1 := sub_date
    have h2 := sub_datetime
    have a1 : ¬ ((decide (y ≥ 2 ^ 63) || decide (y < -2 ^ 63)) = true) := by simp; omega
    have a2 : ¬ (y ≥ 2 ^ 31) := by omega
    have a3 : ¬ (y < -2 ^ 31) := by omega
    have b1 : ¬ ((decide (m ≥ 2 ^ 63) || decide (m < -2 ^ 63)) = true) := by simp; omega
    have b2 : ¬ (m ≥ 2 ^ 31) := by omega
    have b3 : ¬ (m < -2 ^ 31) := by omega
    have c1 : ¬ ((decide ((1 : Int) ≥ 2 ^ 63) || decide ((1 : Int) < -2 ^ 63)) = true) := by decide
    have c2 : ¬ ((1 : Int) ≥ 2 ^ 31) := by decide
    have c3 : ¬ ((1 : Int) < -2 ^ 31) := by decide
    have e1 : ¬ ((decide (y < 1) || decide (y > 9999)) = true) := by simp; omega
    have e2 : ¬ ((decide (m < 1) || decide (m > 12)) = true) := by simp; omega
    have e3 : ¬ ((decide ((1 : Int) < 1) || decide (1 > daysInMonth y m)) = true) := by
      have hm' : m = 1 ∨ m = 2 ∨ m = 3 ∨ m = 4 ∨ m = 5 ∨ m = 6 ∨ m = 7 ∨ m = 8 ∨ m = 9 ∨ m = 10 ∨ m = 11 ∨ m = 12 := by omega
      rcases hm' with rfl | rfl | rfl | rfl | rfl | rfl | rfl | rfl | rfl | rfl | rfl | rfl <;> unfold daysInMonth <;> cases Builtin.Time.timeIsLeap y <;> decide
    iterate 200 (try any_goals (first | assumption | rw [if_neg a1] | rw [if_neg a2] | rw [if_neg a3] | rw [if_neg b1] | rw [if_neg b2] | rw [if_neg b3] | rw [if_neg c1] | rw [if_neg c2] | rw [if_neg c3] | rw [if_neg e1] | rw [if_neg e2] | rw [if_neg e3] | wp_step))
    all_goals exact ⟨_, rfl, h⟩
theorem slot_date_init : Slot "datetime.date" "__init__" "object.__init__" :=
  .of (owner := "object") (n := "__init__") (by rw [typeLookup_type, builtinLookup_eq_fast]; kernel_rfl) (by decide +kernel) (by decide +kernel) (by decide +kernel)
    (by first | exact .inl (by decide +kernel) | exact .inr (by decide +kernel)) (by rw [isSubtype_type]; kernel_rfl)
theorem slot_date_weekday : Slot "datetime.date" "weekday" "datetime.date.weekday" :=
  .of (owner := "datetime.date") (n := "weekday") (by rw [typeLookup_type, builtinLookup_eq_fast]; kernel_rfl) (by decide +kernel) (by decide +kernel) (by decide +kernel)
    (by first | exact .inl (by decide +kernel) | exact .inr (by decide +kernel)) (by rw [isSubtype_type]; kernel_rfl)
theorem type_date_weekday : typeOf (.builtin "datetime.date.weekday") = pure (.type "method_descriptor") := by show builtinType _ = _; rw [builtinType_eq_fast]; kernel_rfl
theorem plainAttrs_date : PlainAttrs "datetime.date" :=
  ⟨⟨"object.__getattribute__", by rw [typeLookup_type, builtinLookup_eq_fast]; kernel_rfl, by decide +kernel⟩, by rw [typeLookup_type, builtinLookup_eq_fast]; kernel_rfl⟩
theorem called_date : TypeCalled "datetime.date" "datetime.date.__new__" "object.__init__" :=
  ⟨by decide +kernel, by decide +kernel, ⟨_, _, mro_date⟩, madeBy_type mro_date lookup_date_new (by decide +kernel), by decide +kernel, sub_date, slot_date_init⟩
theorem typeCall_date_3 (a b c : Value) : checkTypeCall "datetime.date" ⟨[a, b, c], []⟩ = pure () := by kernel_rfl
theorem newCall_date_3 (a b c : Value) : checkBuiltinCall "datetime.date.__new__" ⟨[.type "datetime.date", a, b, c], []⟩ = pure () := by kernel_rfl
theorem args_object_init_4 (a b c d : Value) : argsOk "object.__init__" ⟨[a, b, c, d], []⟩ := by
  unfold argsOk; rw [signature?_of (id := "object.__init__") (n := ['_', '_', 't', 'i', 'n', 'i', '_', '_']) (o := ['t', 'c', 'e', 'j', 'b', 'o']) (by kernel_rfl) owner_object]; kernel_rfl
theorem args_date_weekday (a : Value) : argsOk "datetime.date.weekday" ⟨[a], []⟩ := by unfold argsOk; kernel_rfl

abbrev dateObj (y m : Int) : Obj := { cls := .type "datetime.date", data := .fields #[.int y 0, .int m 0, .int 1 0] }
section
variable {prog : Program} {w : World} {A : Around} {E : Value → Shared → Prop} {s : Shared} {h₀ : Heap} {L : Addr} {m : Str → Option Value} {news : List (Addr × Obj)}
theorem call_date {y mo : Int} {t u v : Tok} {Q : Value → Shared → Prop} (F : Fr h₀ L s.heap m) (N : News h₀ L s.heap news) (hy : 1 ≤ y) (hy2 : y ≤ 9999) (hm : 1 ≤ mo) (hm2 : mo ≤ 12)
    (h : ∀ h', Fr h₀ L h' m → News h₀ L h' ((s.heap.objs.size, dateObj y mo) :: news) → Q (.ref s.heap.objs.size) { s with heap := h' }) :
    wpAny (model prog w) A (call (.type "datetime.date") [.int y t, .int mo u, .int 1 v]) Q E s :=
  callType_new called_date (by decide) (typeCall_date_3 _ _ _) (newCall_date_3 _ _ _) (fun obj => args_object_init_4 obj _ _ _) entry_date_new
    (meets_date_new y mo t u v hy hy2 hm hm2) ⟨⟨_, Heap.get?_push_size _ rfl, rfl⟩, h _ (F.push _) (N.push F _)⟩
theorem method_date {y mo : Int} {D : Addr} {pl : Sem Bool} {Q : Value × List Value → Shared → Prop} (N : News h₀ L s.heap news) (hm : (D, dateObj y mo) ∈ news)
    (h : Q (.builtin "datetime.date.weekday", [.ref D]) s) : wpAny (model prog w) A (getMethod (.ref D) (Str.ofString "weekday") pl) Q E s :=
  getMethod_builtin ⟨_, (N _ hm).1, rfl⟩ plainAttrs_date slot_date_weekday type_date_weekday (fun a e => by cases e; exact ⟨_, (N _ hm).1, rfl⟩) h
theorem meets_weekday (y mo : Int) (D : Addr) :
    Meets (Builtin.«datetime.date.weekday» ⟨[.ref D], []⟩)
      (fun _ R s => s.heap.get? D = some (dateObj y mo) ∧ R (.ok (.ret (Value.int (weekdayOf (toOrdinal y mo 1)) s.toks))) { s with toks := s.toks + 1 }) :=
  .of_wp fun prog w A R s h => by
    obtain ⟨hp, g, d, tk, os⟩ := s
    obtain ⟨hg, h⟩ := h
    have h1 := sub_date
    wp_walk
    all_goals exact ⟨_, rfl, h⟩
theorem call_weekday {y mo : Int} {D : Addr} {Q : Value → Shared → Prop} (N : News h₀ L s.heap news) (hm : (D, dateObj y mo) ∈ news)
    (h : Q (.int (weekdayOf (toOrdinal y mo 1)) s.toks) { s with toks := s.toks + 1 }) : wpAny (model prog w) A (call (.builtin "datetime.date.weekday") [.ref D]) Q E s :=
  call_meets slot_date_weekday ⟨_, (N _ hm).1, rfl⟩ entry_date_weekday (args_date_weekday _) (meets_weekday y mo D) ⟨(N _ hm).1, h⟩
theorem weekdayOf_lt (n : Int) : 0 ≤ weekdayOf n ∧ weekdayOf n < 7 := by unfold weekdayOf; omega
end
end
-- EqM
section
variable {prog : Program} {w : World} {A : Around} {E : Value → Shared → Prop} {s : Shared} {K : Frag} {x C dd L : Addr} {h₀ : Heap} {m : Str → Option Value} {sl : Array (Option Value)} {i k : Int} {t u : Tok}

theorem int_eq_bind (self : Value) : bindSpecial (.builtin "int.__eq__") self = pure (.builtin "int.__eq__", [self]) := slot_int_eq.bind self
theorem own_isInt {M : Model} {A : Around} {E : Value → Shared → Prop} {Q : Bool → Shared → Prop} (X : K.In s.heap) (hx : s.heap.get? x = some ⟨.ref C, some dd, .prim (.int k u), sl⟩) (hsub : subIn K (.ref C) (.type "int") = some true) (h : Q true s) :
    wpAny M A (isInstance (.ref x) (.type "int")) Q E s := by
  have h1 : Looks M s.heap (typeOf (.ref x)) (.ref C) := (Looks.ld hx).andThen .now
  unfold isInstance
  refine wpAny_bind (h1.here ?_)
  exact (looks_subIn X hsub).here h
theorem call_own_eq {Q : Value → Shared → Prop} (X : K.In s.heap) (hx : s.heap.get? x = some ⟨.ref C, some dd, .prim (.int k u), sl⟩) (hsub : subIn K (.ref C) (.type "int") = some true)
    (h : Q (.bool (k == i)) s) : wpAny (model prog w) A (call (.builtin "int.__eq__") [.ref x, .int i t]) Q E s := by
  refine wpAny_call (codeAny_call_builtin slot_int_eq.plain entry_int_eq ?_)
  have hk : builtinKind "int.__eq__" = some .slot := by decide +kernel
  have hs : splitId "int.__eq__" = some ("int", "__eq__") := by decide +kernel
  simp only [checkBuiltinCall, hk, hs]
  refine wpAny_bind (own_isInt X hx hsub ?_)
  simp only [Bool.not_true, Bool.false_eq_true, if_false]
  have hfin : wpAny (model prog w) A.in1 (Builtin.«int.__eq__» ⟨[.ref x, .int i t], []⟩) (fun fin s' => ∃ v, fin = .done (.ret v) ∧ Q v s') E s := by
    obtain ⟨hp, g, d, tk, os⟩ := s
    wp_walk
    all_goals exact ⟨_, rfl, h⟩
  have hend := wpAny_mono (Q' := fun fin s' => match fin with
          | Fin.done f =>
            match (Except.ok f : Result) with
            | Except.ok (Flow.ret v) => Q v s'
            | Except.ok a => False
            | Except.error e => E e s'
          | Fin.again c' =>
            c'.quiet = true ∧
              codeAny (model prog w) A c'
                (fun r s' =>
                  match r with
                  | Except.ok (Flow.ret v) => Q v s'
                  | Except.ok a => False
                  | Except.error e => E e s')
                s') hfin (fun fin s' h' => by obtain ⟨v, rfl, hv⟩ := h'; exact hv) fun _ _ x => x
  cases hsig : Manifest.signature? "int.__eq__" with
  | none => exact wpAny_pure hend
  | some sig =>
    have ok := args_int_eq (.ref x) (.int i t)
    simp only [argsOk, hsig] at ok
    have h2 : Bind.checkArgs "int.__eq__" sig ⟨[.ref x, .int i t], []⟩ = pure () := ok
    show wpAny _ _ (Bind.checkArgs "int.__eq__" sig ⟨[.ref x, .int i t], []⟩) _ _ s
    rw [h2]; exact wpAny_pure hend
theorem ifBound_own {M : Model} {args : List Value} {name : Str} {Q : Option Value → Shared → Prop} (X : K.In s.heap) (hx : s.heap.get? x = some ⟨.ref C, some dd, .prim (.int k u), sl⟩) (hs : findIn K (.ref C) name = some (some (.builtin "int.__eq__")))
    (h : wpAny M A (call (.builtin "int.__eq__") (.ref x :: args)) (fun v => Q (some v)) E s) : wpAny M A (callSpecialIfBound? (.ref x) name args) Q E s := by
  have h1 : Looks M s.heap (typeOf (.ref x)) (.ref C) := (Looks.ld hx).andThen .now
  simp only [callSpecialIfBound?, bindSpecialIfBound?]
  refine wpAny_holding (wpAny_bind (wpAny_bind (wpAny_bind (h1.here ((looks_findIn X hs).here ?_)))))
  refine wpAny_bind (wpAny_askSetting (wpAny_ite ?_))
  have fin : wpAny M A (call (.builtin "int.__eq__") ([.ref x] ++ args) >>= fun v => pure (some v)) Q E s := wpAny_bind (wpAny_mono h (fun v s' h' => wpAny_pure h') fun _ _ h' => h')
  split
  · exact wpAny_bind (wpAny_of_eq (int_eq_bind _) (wpAny_pure (by exact fin)))
  · exact wpAny_tryCatch (wpAny_bind (wpAny_of_eq (int_eq_bind _) (wpAny_pure (by exact fin))))
theorem eq_own {Q : Value → Shared → Prop} (hu : A.units < cLine) (F : Fr h₀ L s.heap m) (X₀ : K.In h₀) (hl : K.lookup x = some ⟨.ref C, some dd, .prim (.int k u), sl⟩) (hsub : subIn K (.ref C) (.type "int") = some true)
    (hs : findIn K (.ref C) "__eq__" = some (some (.builtin "int.__eq__"))) (h : Q (.bool (k == i)) s) : wpAny (model prog w) A (compareOp .Eq (.int i t) (.ref x)) Q E s := by
  have X := X₀.keeps F.keep
  have hx := X _ _ hl
  have h1 : Looks (model prog w) s.heap (typeOf (.ref x)) (.ref C) := (Looks.ld hx).andThen .now
  refine cmp_ofEq ?_
  unfold richCompare
  refine wpAny_holding (wpAny_bind (wpAny_cRoomFor hu ?_))
  have h2 : Looks (model prog w) s.heap (typeOf (.int i t)) (.type "int") := Looks.of_pure rfl
  have one : wpAny (model prog w) A (tryCompare (.ref x) "__eq__" (.int i t)) (fun r s' => ∃ v, r = some v ∧ Q v s') E s := by
    unfold tryCompare
    exact wpAny_bind (ifBound_own X hx hs (call_own_eq X hx hsub (wpAny_pure ⟨_, rfl, h⟩)))
  simp only [show oneThing? CmpOp.Eq (Value.int i t) (Value.ref x) = none from rfl, cmpInfo]
  refine wpAny_bind (h2.here (wpAny_bind (h1.here ?_)))
  have hne : (Value.ref C != Value.type "int") = true := rfl
  have hne' : (Value.type "int" != Value.ref C) = true := rfl
  simp only [hne', if_true]
  refine wpAny_bind ((looks_subIn X hsub).here ?_)
  simp only [if_true]
  refine wpAny_bind (wpAny_mono one (fun r s' z => ?_) fun _ _ e => e)
  obtain ⟨v, rfl, hq⟩ := z
  exact wpAny_bind (wpAny_rule (wpAny_pure hq))
end
-- Base
def Ctr (w : World) (f : Addr) (vs : List Value) (D U : Nat) (Post : List (Addr × Obj) → Value → Prop) : Prop :=
  ∀ (loose : List Str) (mean : ExcName → Option Value) (mg mb : Str → Option Value) (dp un : Nat) (gd : Option (List Code)) (cn : Str) (cs : Scope) (a : Addr) (ccd : Value) (cl : List (Str × Addr)) (outer : List Env) (A₀ : Around) (base h₀ : Heap) (L : Addr) (m : Str → Option Value) (news : List (Addr × Obj)) (s : Shared) (Q E : Value → Shared → Prop),
    Below A₀ base outer h₀ → Fr h₀ L s.heap m → (hd.heap_39 w.params).In h₀ → News h₀ L s.heap news → Top hd.view_39 loose mean mg mb h₀ → cs.kind = .function → dp + D < recursionLimit → un + U < cLine →
    (∀ (h' : Heap) (tk' : Nat) (nw : List (Addr × Obj)) (v : Value), Fr h₀ L h' m → News h₀ L h' (nw ++ news) → Post nw v → Q v { s with heap := h', toks := tk' }) →
    wpAny (model PySem.Challenge.rw_ak5016_01.row.prog w) (ktrTop dp un gd cn cs L a ccd cl outer) (call (.ref f) vs) Q E s
theorem Ctr.use {w : World} {f : Addr} {vs : List Value} {D U : Nat} {Post : List (Addr × Obj) → Value → Prop} {loose : List Str} {mean : ExcName → Option Value} {mg mb : Str → Option Value} {dp un : Nat} {gd : Option (List Code)} {cn : Str} {cs : Scope} {a : Addr} {ccd : Value} {cl : List (Str × Addr)} {outer : List Env} {A₀ : Around} {base h₀ : Heap} {L : Addr} {m : Str → Option Value} {news : List (Addr × Obj)} {s : Shared} {Q E : Value → Shared → Prop}
    (C : Ctr w f vs D U Post) (B : Below A₀ base outer h₀) (F : Fr h₀ L s.heap m) (X : (hd.heap_39 w.params).In h₀) (N : News h₀ L s.heap news) (T : Top hd.view_39 loose mean mg mb h₀) (hk : cs.kind = .function) (h1 : dp + D < recursionLimit) (h2 : un + U < cLine)
    (ret : ∀ (h' : Heap) (tk' : Nat) (nw : List (Addr × Obj)) (v : Value), Fr h₀ L h' m → News h₀ L h' (nw ++ news) → Post nw v → Q v { s with heap := h', toks := tk' }) :
    wpAny (model PySem.Challenge.rw_ak5016_01.row.prog w) (ktrTop dp un gd cn cs L a ccd cl outer) (call (.ref f) vs) Q E s := C _ _ _ _ _ _ _ _ _ _ _ _ _ _ _ _ _ _ _ _ _ _ B F X N T hk h1 h2 ret

local macro_rules | `(tactic| walk_at "MINE enter") => `(tactic| first
  | (refine' code_def ?k1 ?k2 ?k3 ?k4 ?k5 ?kA ?kF ?kK ?k6 ?k7 ?k8 ?k9 ?kB ?_ ?c2 ?c3 ?c4 ?c5; (case kA => exact rfl); (case kF => exact rfl); (case kK => first | exact rfl | assumption); (case k1 => k_asm); (case k2 => k_asm); (case k3 => k_asm); (case k4 => k_asm); (case k5 => k_asm); (case k6 => k_is); (case k7 => k_is); (case k8 => ktr_room); (case k9 => first | exact BindsTo.of_eq rfl | exact binds_K (by k_in) rfl (by k_is) rfl rfl rfl); (case c5 => decide); (case kB => exact locs rfl); (case c2 => exact rfl); (case c3 => exact rfl); (case c4 => exact rfl); k_whole; intro g' L' h' FG' F' N' B' X' T'; (try dsimp only); (try k_lift B'); (try k_fold))
  | (refine' code_defC ?k1 ?k2 ?k3 ?k4 ?k5 ?kA ?kF ?kK ?k6 ?k7 ?k8 ?k9 ?kB ?kD ?_ ?c2 ?c3 ?c4; (case kA => exact rfl); (case kF => exact rfl); (case kK => first | exact rfl | assumption); (case k1 => k_asm); (case k2 => k_asm); (case k3 => k_asm); (case k4 => k_asm); (case k5 => k_asm); (case k6 => k_is); (case k7 => k_is); (case k8 => ktr_room); (case k9 => first | exact BindsTo.of_eq rfl | exact binds_K (by k_in) rfl (by k_is) rfl rfl rfl); (case kB => exact rfl); (case kD => decide +kernel); (case c2 => exact rfl); (case c3 => exact rfl); (case c4 => exact rfl); k_whole; intro g' L' h' tk' cells' FG' F' N' Y' B' X' T' l1; (try k_lt l1); k_cells Y'; (try simp only [List.cons_append, List.nil_append] at N'); (try dsimp only); (try k_lift B'); (try k_fold)))
theorem jw_eq (n : Int) : 4 * n - 2 + 2 = 4 * n := by omega
local macro_rules | `(tactic| walk_at "MINE is") => `(tactic| with_reducible first | rfl | exact lit_half | exact lit_greg | exact lit_365 | exact lit_jul | exact lit_isl | exact lit_29 | exact lit_cop | exact lit_arm | exact lit_sar)
local macro_rules | `(tactic| walk_at "binaryOp Add float float") => `(tactic| (k_here; refine' q_add_ff ?hx ?hy ?h1 ?h2 ?_; (case hx => walk_at "MINE is"); (case hy => walk_at "MINE is"); (case h1 => omega); (case h2 => omega); (try dsimp only)))
local macro_rules | `(tactic| walk_at "binaryOp Sub float float") => `(tactic| (k_here; refine' q_sub_ff ?hx ?hy ?h1 ?h2 ?_; (case hx => walk_at "MINE is"); (case hy => walk_at "MINE is"); (case h1 => omega); (case h2 => omega); (try dsimp only)))
local macro_rules | `(tactic| walk_at "binaryOp Add float int") => `(tactic| (k_here; first
  | (refine' q_add_fi ?hx ?h1 ?h2 ?_; (case hx => walk_at "MINE is"); (case h1 => omega); (case h2 => omega); (try dsimp only))
  | (refine' q12_add1 ?hx ?h1 ?_; (case hx => with_reducible rfl); (case h1 => omega); (try dsimp only))
  | (refine' q12_add2 ?hx ?h1 ?_; (case hx => with_reducible rfl); (case h1 => omega); (try dsimp only))))
local macro_rules | `(tactic| walk_at "inplaceOp Add float int") => `(tactic| (k_here; refine' q_iadd_fi ?hx ?h1 ?h2 ?_; (case hx => walk_at "MINE is"); (case h1 => omega); (case h2 => omega); (try dsimp only)))
local macro_rules | `(tactic| walk_at "binaryOp Add int float") => `(tactic| (k_here; refine' q_add_if ?hx ?h1 ?h2 ?_; (case hx => walk_at "MINE is"); (case h1 => omega); (case h2 => omega); (try dsimp only)))
local macro_rules | `(tactic| walk_at "binaryOp Sub float int") => `(tactic| (k_here; refine' q_sub_fi ?hx ?h1 ?h2 ?_; (case hx => walk_at "MINE is"); (case h1 => omega); (case h2 => omega); (try dsimp only)))
local macro_rules | `(tactic| walk_at "binaryOp Sub int float") => `(tactic| (k_here; refine' q_sub_if ?hx ?h1 ?h2 ?_; (case hx => walk_at "MINE is"); (case h1 => omega); (case h2 => omega); (try dsimp only)))
local macro_rules | `(tactic| walk_at "binaryOp Mult float int") => `(tactic| (k_here; first
  | (refine' q306_mul ?hx ?h1 ?_; (case hx => k_dflt (exact rfl)); (case h1 => omega); (try dsimp only))
  | (refine' q_mul_fi ?hx ?h1 ?h2 ?_; (case hx => walk_at "MINE is"); (case h1 => omega); (case h2 => omega); (try dsimp only))))
local macro_rules | `(tactic| walk_at "binaryOp Div int int") => `(tactic| (k_here; first
  | (with_reducible refine' q_div4 ?h1 ?_; (case h1 => omega); (try dsimp only))
  | (refine' q_div ?h1 ?h2 ?_; (case h1 => omega); (case h2 => omega); (try dsimp only))))
local macro_rules | `(tactic| walk_at "call builtin:math.floor") => `(tactic| (k_here; first
  | (refine' q_floor ?hx ?h1 ?_; (case hx => walk_at "MINE is"); (case h1 => omega); (try dsimp only))
  | (refine' quot_floor ?hx ?h1 ?h2 ?_; (case hx => with_reducible rfl); (case h1 => omega); (case h2 => omega); (try dsimp only))
  | (refine' q12_floor ?hx ?h1 ?h2 ?h3 ?_; (case hx => with_reducible rfl); (case h1 => omega); (case h2 => omega); (case h3 => omega); (try dsimp only))
  | (refine' q306_floor ?hx ?h1 ?_; (case hx => with_reducible rfl); (case h1 => omega); (try dsimp only))))
local macro_rules | `(tactic| walk_at "call builtin:math.ceil") => `(tactic| (k_here; refine' q_ceil ?hx ?h1 ?_; (case hx => walk_at "MINE is"); (case h1 => omega); (try dsimp only)))
local macro_rules | `(tactic| walk_at "call builtin:math.trunc") => `(tactic| (k_here; first
  | (refine' q_trunc_pos ?hx ?h1 ?_; (case hx => walk_at "MINE is"); (case h1 => omega); (try dsimp only))
  | (refine' q_trunc ?hx ?ha ?h1 ?_; (case hx => walk_at "MINE is"); (case ha => exact jw_eq _); (case h1 => omega); (try dsimp only))))
local macro_rules | `(tactic| walk_at "call type:datetime.date") => `(tactic| (k_here; k_dflt (refine' call_date ?F ?N ?h1 ?h2 ?h3 ?h4 ?_; (case F => k_asm); (case N => k_asm); (case h1 => omega); (case h2 => omega); (case h3 => omega); (case h4 => omega); k_whole); intro h' F' N'; (try k_sweep)))
local macro_rules | `(tactic| walk_at "getMethod ref") => `(tactic| (k_here; (with_reducible show wpAny _ _ (getMethod (Value.ref _) (PySem.Str.ofString "weekday") _) _ _ _); k_dflt (refine' method_date ?N ?m ?_; (case N => k_asm); (case m => k_mem))))
local macro_rules | `(tactic| walk_at "call builtin:datetime.date.weekday") => `(tactic| (k_here; k_dflt (refine' call_weekday ?N ?m ?_; (case N => k_asm); (case m => k_mem))))


section
variable {prog : Program} {w : World} {A : Around} {E : Value → Shared → Prop} {s : Shared} {K : Frag} {a L : Addr} {h₀ : Heap} {m : Str → Option Value} {n : Nat} {dd : Option Addr} {sl : Array (Option Value)} {b c k : Int} {t u : Tok}
theorem mod_pos {Q : Value → Shared → Prop} (hb : 0 < c) (h : Q (.int (b % c) s.toks) { s with toks := s.toks + 1 }) : wpAny (model prog w) A (binaryOp .Mod (.int b t) (.int c u)) Q E s :=
  mod_int' (by omega) (by rw [Int.fmod_eq_emod_of_nonneg _ (by omega)]; exact h)
theorem div_pos {Q : Value → Shared → Prop} (hb : 0 < c ∧ c < 2 ^ 29) (h : Q (.int (b / c) s.toks) { s with toks := s.toks + 1 }) : wpAny (model prog w) A (binaryOp .FloorDiv (.int b t) (.int c u)) Q E s :=
  floordiv_int (by omega) (by rw [Int.fdiv_eq_ediv_of_nonneg _ (by omega)]; exact h) (Or.inl (PyProof.noPylong_small (by omega)))
theorem divmod_pos {news : List (Addr × Obj)} {Q : Value → Shared → Prop} (F : Fr h₀ L s.heap m) (N : News h₀ L s.heap news) (hb : 0 < c ∧ c < 2 ^ 29)
    (h : ∀ D h', Fr h₀ L h' m → News h₀ L h' ((D, { cls := .type "tuple", data := .seq #[.int (b / c) s.toks, .int (b % c) (s.toks + 1)] }) :: news) → (∀ p ∈ news, p.1 < D) →
      Q (.ref D) { s with toks := s.toks + 1 + 1, heap := h' }) : wpAny (model prog w) A (call (.builtin "divmod") [.int b t, .int c u]) Q E s :=
  divmod_N F N (by omega) (by rw [Int.fdiv_eq_ediv_of_nonneg _ (by omega), Int.fmod_eq_emod_of_nonneg _ (by omega)]; exact fun h' F' N' => h _ h' F' N' fun p hp => Heap.lt_size (N p hp).1) (Or.inl (PyProof.noPylong_small (by omega)))
theorem tupAny_K {value slice : PySem.Expr} {l : List Value} {Q : Value → Shared → Prop} (F : Fr h₀ L s.heap m) (X₀ : K.In h₀) (hl : K.lookup a = some ⟨.type "tuple", dd, .seq l.toArray n, sl⟩)
    (h0 : 0 ≤ k ∧ k < (l.length : Int)) (hz : l.length < 1000) (h : ∀ v, Q v s)
    (hs : subscripted slice false (.ref a) (.int k u) = operate [.ref a, .int k u] (getItem (.ref a) (.int k u)) := by with_unfolding_all rfl) :
    wpAny (model prog w) A (subscriptTail value slice (.ref a) (.int k u)) Q E s :=
  topTup_K (j := k.toNat) (v := l[k.toNat]'(by omega)) F X₀ hl (by omega) (by omega) (by unfold seqIndex?; simp; omega) (by simp) (h _) hs
theorem intsAt_get : ∀ {l : List Value} {ns : List Int} {j : Nat}, PyProof.Rows.IntsAre l ns → j < ns.length → ∃ t, l[j]? = some (.int (ns.getD j 0) t)
  | _, _, 0, .cons n t _, _ => ⟨t, rfl⟩
  | _, _, j + 1, .cons n t r, h => by
    obtain ⟨t', e⟩ := intsAt_get r (Nat.lt_of_succ_lt_succ h)
    exact ⟨t', by simpa using e⟩
theorem listInts_K {value slice : PySem.Expr} {l : List Value} {ns : List Int} {Q : Value → Shared → Prop} (F : Fr h₀ L s.heap m) (X₀ : K.In h₀) (hl : K.lookup a = some ⟨.type "list", dd, .seq l.toArray n, sl⟩)
    (hi : PyProof.Rows.IntsAre l ns) (h0 : 0 ≤ k ∧ k < (ns.length : Int)) (hz : ns.length < 1000) (h : ∀ t, Q (.int (ns.getD k.toNat 0) t) s)
    (hs : subscripted slice false (.ref a) (.int k u) = operate [.ref a, .int k u] (getItem (.ref a) (.int k u)) := by with_unfolding_all rfl) :
    wpAny (model prog w) A (subscriptTail value slice (.ref a) (.int k u)) Q E s := by
  obtain ⟨t', e⟩ := intsAt_get hi (j := k.toNat) (by omega)
  exact topList_K F X₀ hl h0.1 (by omega) e (h t') hs
end
local macro_rules | `(tactic| walk_at "binaryOp Mod int int") => `(tactic| (k_here; k_dflt (refine' mod_pos ?h1 ?_; (case h1 => omega)); (try dsimp only)))
local macro_rules | `(tactic| walk_at "binaryOp FloorDiv int int") => `(tactic| (k_here; k_dflt (refine' div_pos ?h1 ?_; (case h1 => omega)); (try dsimp only)))
local macro_rules | `(tactic| walk_at "call builtin:divmod") => `(tactic| (k_here; k_dflt (refine' divmod_pos ?F ?N ?h1 ?_; (case F => k_asm); (case N => k_asm); (case h1 => omega); k_whole); intro D' h' F' N' l1; (try k_lt l1); (try k_sweep); (try dsimp only)))
local macro_rules | `(tactic| walk_at "subscriptTail") => `(tactic| (k_here; (with_reducible show wpAny _ _ (subscriptTail _ _ (Value.ref 384) (Value.int _ _)) _ _ _); k_dflt (refine' tupAny_K ?F ?X ?l ?a ?b ?_; (case F => k_asm); (case X => k_asm); (case l => k_is); (case a => first | exact weekdayOf_lt _ | (simp only [List.length_cons, List.length_nil]; omega)); (case b => decide); k_whole); intro v'; (try dsimp only)))
local macro_rules | `(tactic| walk_at "subscriptTail") => `(tactic| (k_here; (with_reducible show wpAny _ _ (subscriptTail _ _ (Value.ref 385) (Value.int _ _)) _ _ _); k_dflt (refine' listInts_K ?F ?X ?l ?i ?a ?b ?_; (case F => k_asm); (case X => k_asm); (case l => k_is); (case i => repeat constructor); (case a => simp only [List.length_cons, List.length_nil]; omega); (case b => decide); k_whole); intro t'; (try dsimp only)))
local macro_rules | `(tactic| walk_at "compareOp Eq int ref") => `(tactic| (k_here; k_dflt (refine' eq_own ?u ?F ?X ?l ?s ?e ?_; (case u => ktr_units); (case F => k_asm); (case X => k_asm); (case l => k_is); (case s => k_is); (case e => k_is); k_whole); (try dsimp only)))
local macro_rules | `(tactic| walk_at "call ref") => `(tactic| (k_here; (refine wpAny_call ?_); k_dflt (walk_at "MINE enter")))
theorem any_mem (ns : List Int) (x : Int) : (ns.any (· == x)) = decide (x ∈ ns) := by
  induction ns with
  | nil => rfl
  | cons n ns ih =>
    rw [List.any_cons, ih]
    by_cases h : n = x
    · subst h; simp
    · have h2 : ¬ x = n := fun e => h e.symm
      simp [h, h2]
section
variable {prog : Program} {w : World} {A : Around} {E : Value → Shared → Prop} {s : Shared} {K : Frag} {a L : Addr} {h₀ : Heap} {m : Str → Option Value} {n : Nat} {dd : Option Addr} {sl : Array (Option Value)}
theorem in_Ktup {l : List Value} {ns : List Int} {x : Int} {u : Tok} {Q : Value → Shared → Prop} (F : Fr h₀ L s.heap m) (X₀ : K.In h₀) (hl : K.lookup a = some ⟨.type "tuple", dd, .seq l.toArray n, sl⟩) (hi : PyProof.Rows.IntsAre l ns)
    (h : Q (.bool (decide (x ∈ ns))) s) : wpAny (model prog w) A (compareOp .In (.int x u) (.ref a)) Q E s :=
  in_tuple_ints (tupK (X₀.keeps F.keep) hl) (by simpa using hi) (by rw [any_mem]; exact h)
end
local macro_rules | `(tactic| walk_at "compareOp In int ref") => `(tactic| (k_here; k_dflt (refine' in_Ktup ?F ?X ?l ?i ?_; (case F => k_asm); (case X => k_asm); (case l => k_is); (case i => repeat constructor); k_whole)))
local macro_rules | `(tactic| walk_at "eval Call") => `(tactic| (k_here; k_dflt (refine Call_ ?_)))
theorem ctr_int {h₀ h' : Heap} {L : Addr} {m : Str → Option Value} {news news' : List (Addr × Obj)} {s : Shared} {Q : Value → Shared → Prop} {x y : Int} {t : Tok} {tk' : Nat} {P : Prop}
    (hret : ∀ (h' : Heap) (tk' : Nat) (nw : List (Addr × Obj)) (v : Value), Fr h₀ L h' m → News h₀ L h' (nw ++ news) → (P ∧ ∃ t, v = .int x t) → Q v { s with heap := h', toks := tk' })
    (e : y = x) (F : Fr h₀ L h' m) (N : News h₀ L h' news') (hs : ∀ p ∈ news, p ∈ news') (hP : P) : Q (.int y t) { s with heap := h', toks := tk' } := by
  subst e
  exact hret h' tk' [] _ F (fun p hp => N p (hs p hp)) ⟨hP, t, rfl⟩
theorem ctr_flt {h₀ h' : Heap} {L : Addr} {m : Str → Option Value} {news news' : List (Addr × Obj)} {s : Shared} {Q : Value → Shared → Prop} {x y : Int} {t : Tok} {tk' : Nat} {P : Prop}
    (hret : ∀ (h' : Heap) (tk' : Nat) (nw : List (Addr × Obj)) (v : Value), Fr h₀ L h' m → News h₀ L h' (nw ++ news) → (P ∧ ∃ t, v = .float (quarter x) t) → Q v { s with heap := h', toks := tk' })
    (e : y = x) (F : Fr h₀ L h' m) (N : News h₀ L h' news') (hs : ∀ p ∈ news, p ∈ news') (hP : P) : Q (.float (quarter y) t) { s with heap := h', toks := tk' } := by
  subst e
  exact hret h' tk' [] _ F (fun p hp => N p (hs p hp)) ⟨hP, t, rfl⟩
theorem ne_above {news : List (Addr × Obj)} {a d : Addr} (h : ∀ p ∈ news, p.1 < a) (hd : @LE.le Nat _ a d) : ∀ p ∈ news, p.1 ≠ d := fun p hp => Nat.ne_of_lt (Nat.lt_of_lt_of_le (h p hp) hd)
local macro_rules | `(tactic| k_all) => `(tactic| (refine ne_above (by assumption) ?_; (try dsimp only); omega))
def isLeap (y : Int) : Bool := decide (y % 4 = 0) && (decide (y % 100 ≠ 0) || decide (y % 400 = 0))
-- C1
theorem leap_a {y : Int} (h : ¬ y % 4 = 0) : (y % 4 == 0) = isLeap y := by simp [isLeap, h]
theorem leap_b {y : Int} (h : y % 4 = 0) (h2 : y % 100 ≠ 0) : (y % 100 != 0) = isLeap y := by simp [isLeap, h, h2]
theorem leap_c {y : Int} (h : y % 4 = 0) (h2 : y % 100 = 0) : (y % 400 == 0) = isLeap y := by simp [isLeap, h, h2]; rfl
theorem c_isleap (w : World) (y : Int) (t : Tok) : Ctr w 392 [.int y t] 1 8 (fun nw v => nw = [] ∧ v = .bool (isLeap y)) := by
  (w_top off; unfold Ctr; k_fill; intro loose mean mg mb dp un gd cn cs a0 ccd cl outer A0 base h0 L0 m0 news0 s0 Q0 E0 B0 F0 X0 N0 T0 hk0 hd0 hu0 hret; refine wpAny_call ?_; k_dflt (walk_at "MINE enter"); k_steps)
  all_goals (refine hret _ _ [] _ (by k_asm) (by k_asm) ⟨rfl, congrArg _ ?_⟩; first | exact leap_a (by assumption) | exact leap_b (by assumption) (by assumption) | exact leap_c (by assumption) (by assumption))
local macro_rules | `(tactic| walk_at "call ref") => `(tactic| (k_here; (with_reducible show wpAny _ _ (call (Value.ref 392) [Value.int _ _]) _ _ _); (k_dflt (refine' Ctr.use (c_isleap _ _ _) ?B ?F ?X ?N ?T ?hk ?h1 ?h2 ?_; (case B => k_asm); (case F => k_asm); (case X => k_asm); (case N => k_asm); (case T => k_asm); (case hk => first | exact rfl | assumption); (case h1 => ktr_room); (case h2 => ktr_units))); intro h' tk' nw v F' N' hp; obtain ⟨he1, he2⟩ := hp; subst he1; subst he2; (try dsimp only [List.nil_append] at N' ⊢); (try k_sweep); (try k_fold)))
theorem c_legal (w : World) (y m d : Int) (t u v : Tok) (hm : 1 ≤ m ∧ m ≤ 12) (hd : 1 ≤ d ∧ d ≤ 22) : Ctr w 420 [.int y t, .int m u, .int d v] 2 16 (fun nw v => nw = [] ∧ v = .bool true) := by
  (w_top off; unfold Ctr; k_fill; intro loose mean mg mb dp un gd cn cs a0 ccd cl outer A0 base h0 L0 m0 news0 s0 Q0 E0 B0 F0 X0 N0 T0 hk0 hd0 hu0 hret; refine wpAny_call ?_; k_dflt (walk_at "MINE enter"); k_steps)
  all_goals exact hret _ _ [] _ (by k_asm) (by k_asm) ⟨rfl, rfl⟩
local macro_rules | `(tactic| walk_at "call ref") => `(tactic| (k_here; (with_reducible show wpAny _ _ (call (Value.ref 420) [Value.int _ _, Value.int _ _, Value.int _ _]) _ _ _); (k_dflt (refine' Ctr.use (c_legal _ _ _ _ _ _ _ (by omega) (by omega)) ?B ?F ?X ?N ?T ?hk ?h1 ?h2 ?_; (case B => k_asm); (case F => k_asm); (case X => k_asm); (case N => k_asm); (case T => k_asm); (case hk => first | exact rfl | assumption); (case h1 => ktr_room); (case h2 => ktr_units))); intro h' tk' nw v F' N' hp; obtain ⟨he1, he2⟩ := hp; subst he1; subst he2; (try dsimp only [List.nil_append] at N' ⊢); (try k_sweep); (try k_fold)))
def jdg (y m d : Int) : Int := 1721425 + 365 * (y - 1) + (y - 1) / 4 - (y - 1) / 100 + (y - 1) / 400 + ((367 * m - 362) / 12 + (if m ≤ 2 then 0 else if isLeap y then -1 else -2) + d)
theorem jdg_bd {y m d : Int} (hy : -20000000 < y ∧ y < 20000000) (hm : 1 ≤ m ∧ m ≤ 12) (hd : 1 ≤ d ∧ d ≤ 22) : -(2 ^ 34) < jdg y m d ∧ jdg y m d < 2 ^ 34 := by
  unfold jdg; split <;> (try split) <;> omega
theorem c_jdg (w : World) (y m d : Int) (t u v : Tok) (hy : -20000000 < y ∧ y < 20000000) (hm : 1 ≤ m ∧ m ≤ 12) (hd : 1 ≤ d ∧ d ≤ 22) : Ctr w 427 [.int y t, .int m u, .int d v] 3 24 (fun nw v => (-(2 ^ 34) < jdg y m d ∧ jdg y m d < 2 ^ 34) ∧ ∃ t, v = .float (quarter (4 * jdg y m d - 2)) t) := by
  (w_top off; unfold Ctr; k_fill; intro loose mean mg mb dp un gd cn cs a0 ccd cl outer A0 base h0 L0 m0 news0 s0 Q0 E0 B0 F0 X0 N0 T0 hk0 hd0 hu0 hret; refine wpAny_call ?_; k_dflt (walk_at "MINE enter"); k_steps)
  all_goals ((refine' ctr_flt hret ?ce ?cF ?cN ?cS ?cP; (case cF => k_asm); (case cN => k_asm); (case cS => kcj_in); (case cP => (exact jdg_bd (by assumption) (by assumption) (by assumption))); (case ce => (unfold jdg; first | (rw [if_pos (by assumption)]; omega) | (rw [if_neg (by assumption), if_pos (by assumption)]; omega) | (rw [if_neg (by assumption), if_neg (Bool.eq_false_iff.mp (by assumption))]; omega)))))
local macro_rules | `(tactic| walk_at "call ref") => `(tactic| (k_here; (with_reducible show wpAny _ _ (call (Value.ref 427) [Value.int _ _, Value.int _ _, Value.int _ _]) _ _ _); (k_dflt (refine' Ctr.use (c_jdg _ _ _ _ _ _ _ (by omega) (by omega) (by omega)) ?B ?F ?X ?N ?T ?hk ?h1 ?h2 ?_; (case B => k_asm); (case F => k_asm); (case X => k_asm); (case N => k_asm); (case T => k_asm); (case hk => first | exact rfl | assumption); (case h1 => ktr_room); (case h2 => ktr_units))); intro h' tk' nw v F' N' hp; obtain ⟨hb', t', he2⟩ := hp; subst he2; (try k_sweep); (try k_fold)))
-- C2
def glen (y m : Int) : Int := if m = 2 then (if isLeap y then 29 else 28) else if m = 4 ∨ m = 6 ∨ m = 9 ∨ m = 11 then 30 else 31
theorem glen_bd (y m : Int) : 5 ≤ glen y m ∧ glen y m ≤ 31 := by unfold glen; (repeat' split) <;> omega
theorem mlg_a {y m : Int} (h : 2 = m) : ([0, 31, 28, 31, 30, 31, 30, 31, 31, 30, 31, 30, 31] : List Int).getD m.toNat 0 + (if isLeap y = true then 1 else 0) = glen y m := by
  subst h; cases h : isLeap y <;> simp [glen, h]
theorem mlg_b {y m : Int} (hm : 1 ≤ m ∧ m ≤ 12) (h : 2 ≠ m) : ([0, 31, 28, 31, 30, 31, 30, 31, 31, 30, 31, 30, 31] : List Int).getD m.toNat 0 + (if (2 == m) = true then 1 else 0) = glen y m := by
  have : m = 1 ∨ m = 3 ∨ m = 4 ∨ m = 5 ∨ m = 6 ∨ m = 7 ∨ m = 8 ∨ m = 9 ∨ m = 10 ∨ m = 11 ∨ m = 12 := by omega
  rcases this with h | h | h | h | h | h | h | h | h | h | h <;> subst h <;> simp [glen]
theorem c_weekday (w : World) (y m : Int) (t u v : Tok) (hy : -20000000 < y ∧ y < 20000000) (hm : 1 ≤ m ∧ m ≤ 12) : Ctr w 399 [.int y t, .int m u, .int 1 v] 2 16 (fun nw v => True) := by
  (w_top off; unfold Ctr; k_fill; intro loose mean mg mb dp un gd cn cs a0 ccd cl outer A0 base h0 L0 m0 news0 s0 Q0 E0 B0 F0 X0 N0 T0 hk0 hd0 hu0 hret; refine wpAny_call ?_; k_dflt (walk_at "MINE enter"); k_steps)
  all_goals exact hret _ _ [_] _ (by k_asm) (by k_asm) trivial
local macro_rules | `(tactic| walk_at "call ref") => `(tactic| (k_here; (with_reducible show wpAny _ _ (call (Value.ref 399) [Value.int _ _, Value.int _ _, Value.int _ _]) _ _ _); (k_dflt (refine' Ctr.use (c_weekday _ _ _ _ _ _ (by omega) (by omega)) ?B ?F ?X ?N ?T ?hk ?h1 ?h2 ?_; (case B => k_asm); (case F => k_asm); (case X => k_asm); (case N => k_asm); (case T => k_asm); (case hk => first | exact rfl | assumption); (case h1 => ktr_room); (case h2 => ktr_units))); intro h' tk' nw v F' N' hp; (try k_sweep); (try k_fold)))
theorem c_mlg (w : World) (y m : Int) (t u : Tok) (hy : -20000000 < y ∧ y < 20000000) (hm : 1 ≤ m ∧ m ≤ 12) : Ctr w 434 [.int y t, .int m u] 5 40 (fun nw v => (5 ≤ glen y m ∧ glen y m ≤ 31) ∧ ∃ t, v = .int (glen y m) t) := by
  (w_top off; unfold Ctr; k_fill; intro loose mean mg mb dp un gd cn cs a0 ccd cl outer A0 base h0 L0 m0 news0 s0 Q0 E0 B0 F0 X0 N0 T0 hk0 hd0 hu0 hret; refine wpAny_call ?_; k_dflt (walk_at "MINE enter"); k_steps)
  all_goals ((refine' ctr_int hret ?ce ?cF ?cN ?cS ?cP; (case cF => k_asm); (case cN => k_asm); (case cS => kcj_in); (case cP => (exact glen_bd _ _)); (case ce => (first | exact mlg_a (by assumption) | exact mlg_b (by assumption) (by assumption)))))
local macro_rules | `(tactic| walk_at "call ref") => `(tactic| (k_here; (with_reducible show wpAny _ _ (call (Value.ref 434) [Value.int _ _, Value.int _ _]) _ _ _); (k_dflt (refine' Ctr.use (c_mlg _ _ _ _ _ (by omega) (by omega)) ?B ?F ?X ?N ?T ?hk ?h1 ?h2 ?_; (case B => k_asm); (case F => k_asm); (case X => k_asm); (case N => k_asm); (case T => k_asm); (case hk => first | exact rfl | assumption); (case h1 => ktr_room); (case h2 => ktr_units))); intro h' tk' nw v F' N' hp; obtain ⟨hb', t', he2⟩ := hp; subst he2; (try k_sweep); (try k_fold)))

def glenJ (y m : Int) : Int := if m = 2 then (if y % 4 = 0 then 29 else 28) else if m = 4 ∨ m = 6 ∨ m = 9 ∨ m = 11 then 30 else 31
theorem glenJ_bd (y m : Int) : 5 ≤ glenJ y m ∧ glenJ y m ≤ 31 := by unfold glenJ; (repeat' split) <;> omega
theorem mlj_a {y m : Int} (h : m = 2) (h2 : y % 4 = 0) : 29 = glenJ y m := by simp [glenJ, h, h2]
theorem mlj_b {y m : Int} (h : m = 2) (h2 : y % 4 ≠ 0) : 28 = glenJ y m := by simp [glenJ, h, h2]
theorem mlj_c {y m : Int} (h : m ≠ 2) (h2 : m ∈ ([4, 6, 9, 11] : List Int)) : 30 = glenJ y m := by simp at h2; simp [glenJ, h, h2]
theorem mlj_d {y m : Int} (h : m ≠ 2) (h2 : ¬ m ∈ ([4, 6, 9, 11] : List Int)) : 31 = glenJ y m := by simp at h2; simp [glenJ, h, h2]
theorem c_mlj (w : World) (y m : Int) (t u : Tok) (hm : 1 ≤ m ∧ m ≤ 12) : Ctr w 456 [.int y t, .int m u] 2 16 (fun nw v => (5 ≤ glenJ y m ∧ glenJ y m ≤ 31) ∧ ∃ t, v = .int (glenJ y m) t) := by
  (w_top off; unfold Ctr; k_fill; intro loose mean mg mb dp un gd cn cs a0 ccd cl outer A0 base h0 L0 m0 news0 s0 Q0 E0 B0 F0 X0 N0 T0 hk0 hd0 hu0 hret; refine wpAny_call ?_; k_dflt (walk_at "MINE enter"); k_steps)
  all_goals ((refine' ctr_int hret ?ce ?cF ?cN ?cS ?cP; (case cF => k_asm); (case cN => k_asm); (case cS => kcj_in); (case cP => (exact glenJ_bd _ _)); (case ce => (first | exact mlj_a (by assumption) (by assumption) | exact mlj_b (by assumption) (by assumption) | exact mlj_c (by assumption) (by assumption) | exact mlj_d (by assumption) (by assumption)))))
local macro_rules | `(tactic| walk_at "call ref") => `(tactic| (k_here; (with_reducible show wpAny _ _ (call (Value.ref 456) [Value.int _ _, Value.int _ _]) _ _ _); (k_dflt (refine' Ctr.use (c_mlj _ _ _ _ _ (by omega)) ?B ?F ?X ?N ?T ?hk ?h1 ?h2 ?_; (case B => k_asm); (case F => k_asm); (case X => k_asm); (case N => k_asm); (case T => k_asm); (case hk => first | exact rfl | assumption); (case h1 => ktr_room); (case h2 => ktr_units))); intro h' tk' nw v F' N' hp; obtain ⟨hb', t', he2⟩ := hp; subst he2; (try k_sweep); (try k_fold)))
def glenI (y m : Int) : Int := if m = 1 ∨ m = 3 ∨ m = 5 ∨ m = 7 ∨ m = 9 ∨ m = 11 ∨ (m = 12 ∧ (y * 11 + 14) % 30 < 11) then 30 else 29
theorem glenI_bd (y m : Int) : 5 ≤ glenI y m ∧ glenI y m ≤ 31 := by unfold glenI; (repeat' split) <;> omega
theorem mli_a {y m : Int} (h2 : m ∈ ([1, 3, 5, 7, 9, 11] : List Int)) : 30 = glenI y m := by
  simp at h2; unfold glenI; rw [if_pos (by omega)]
theorem mli_b {y m : Int} (h : m = 12) (h3 : (y * 11 + 14) % 30 < 11) : 30 = glenI y m := by
  unfold glenI; rw [if_pos (by omega)]
theorem mli_c {y m : Int} (h2 : ¬ m ∈ ([1, 3, 5, 7, 9, 11] : List Int)) (h3 : ¬ (y * 11 + 14) % 30 < 11) : 29 = glenI y m := by
  simp at h2; unfold glenI; rw [if_neg (by omega)]
theorem mli_d {y m : Int} (h2 : ¬ m ∈ ([1, 3, 5, 7, 9, 11] : List Int)) (h3 : m ≠ 12) : 29 = glenI y m := by
  simp at h2; unfold glenI; rw [if_neg (by omega)]
theorem c_mli (w : World) (y m : Int) (t u : Tok) : Ctr w 499 [.int y t, .int m u] 2 16 (fun nw v => (5 ≤ glenI y m ∧ glenI y m ≤ 31) ∧ ∃ t, v = .int (glenI y m) t) := by
  (w_top off; unfold Ctr; k_fill; intro loose mean mg mb dp un gd cn cs a0 ccd cl outer A0 base h0 L0 m0 news0 s0 Q0 E0 B0 F0 X0 N0 T0 hk0 hd0 hu0 hret; refine wpAny_call ?_; k_dflt (walk_at "MINE enter"); k_steps)
  all_goals ((refine' ctr_int hret ?ce ?cF ?cN ?cS ?cP; (case cF => k_asm); (case cN => k_asm); (case cS => kcj_in); (case cP => (exact glenI_bd _ _)); (case ce => (first | exact mli_a (by assumption) | exact mli_b (by assumption) (by assumption) | exact mli_c (by assumption) (by assumption) | exact mli_d (by assumption) (by assumption)))))
local macro_rules | `(tactic| walk_at "call ref") => `(tactic| (k_here; (with_reducible show wpAny _ _ (call (Value.ref 499) [Value.int _ _, Value.int _ _]) _ _ _); (k_dflt (refine' Ctr.use (c_mli _ _ _ _ _) ?B ?F ?X ?N ?T ?hk ?h1 ?h2 ?_; (case B => k_asm); (case F => k_asm); (case X => k_asm); (case N => k_asm); (case T => k_asm); (case hk => first | exact rfl | assumption); (case h1 => ktr_room); (case h2 => ktr_units))); intro h' tk' nw v F' N' hp; obtain ⟨hb', t', he2⟩ := hp; subst he2; (try k_sweep); (try k_fold)))
def glenC (y m : Int) : Int := if m ≤ 12 then 30 else if y % 4 = 3 then 6 else 5
theorem glenC_bd (y m : Int) : 5 ≤ glenC y m ∧ glenC y m ≤ 31 := by unfold glenC; (repeat' split) <;> omega
theorem mlc_a {y m : Int} (h : m ≤ 12) : 30 = glenC y m := by simp [glenC, h]
theorem mlc_b {y m : Int} (h : ¬ m ≤ 12) (h2 : y % 4 = 3) : 6 = glenC y m := by simp [glenC, h, h2]
theorem mlc_c {y m : Int} (h : ¬ m ≤ 12) (h2 : y % 4 ≠ 3) : 5 = glenC y m := by simp [glenC, h, h2]
theorem c_mlc (w : World) (y m : Int) (t u : Tok) (hm : 1 ≤ m ∧ m ≤ 13) : Ctr w 527 [.int y t, .int m u] 2 16 (fun nw v => (5 ≤ glenC y m ∧ glenC y m ≤ 31) ∧ ∃ t, v = .int (glenC y m) t) := by
  (w_top off; unfold Ctr; k_fill; intro loose mean mg mb dp un gd cn cs a0 ccd cl outer A0 base h0 L0 m0 news0 s0 Q0 E0 B0 F0 X0 N0 T0 hk0 hd0 hu0 hret; refine wpAny_call ?_; k_dflt (walk_at "MINE enter"); k_steps)
  all_goals first | (exfalso; omega) | ((refine' ctr_int hret ?ce ?cF ?cN ?cS ?cP; (case cF => k_asm); (case cN => k_asm); (case cS => kcj_in); (case cP => (exact glenC_bd _ _)); (case ce => (first | exact mlc_a (by assumption) | exact mlc_b (by assumption) (by assumption) | exact mlc_c (by assumption) (by assumption)))))
local macro_rules | `(tactic| walk_at "call ref") => `(tactic| (k_here; (with_reducible show wpAny _ _ (call (Value.ref 527) [Value.int _ _, Value.int _ _]) _ _ _); (k_dflt (refine' Ctr.use (c_mlc _ _ _ _ _ (by omega)) ?B ?F ?X ?N ?T ?hk ?h1 ?h2 ?_; (case B => k_asm); (case F => k_asm); (case X => k_asm); (case N => k_asm); (case T => k_asm); (case hk => first | exact rfl | assumption); (case h1 => ktr_room); (case h2 => ktr_units))); intro h' tk' nw v F' N' hp; obtain ⟨hb', t', he2⟩ := hp; subst he2; (try k_sweep); (try k_fold)))
def glenN (m : Int) : Int := if m ≤ 6 then 31 else 30
theorem glenN_bd (m : Int) : 5 ≤ glenN m ∧ glenN m ≤ 31 := by unfold glenN; (repeat' split) <;> omega
theorem mln_a {m : Int} (h2 : m ∈ ([2, 3, 4, 5, 6] : List Int)) : 31 = glenN m := by simp at h2; unfold glenN; rw [if_pos (by omega)]
theorem mln_b {m : Int} (hm : 2 ≤ m ∧ m ≤ 12) (h2 : ¬ m ∈ ([2, 3, 4, 5, 6] : List Int)) : 30 = glenN m := by simp at h2; unfold glenN; rw [if_neg (by omega)]
theorem c_mln (w : World) (y m : Int) (t u : Tok) (hm : 2 ≤ m ∧ m ≤ 12) : Ctr w 549 [.int y t, .int m u] 2 16 (fun nw v => (5 ≤ glenN m ∧ glenN m ≤ 31) ∧ ∃ t, v = .int (glenN m) t) := by
  (w_top off; unfold Ctr; k_fill; intro loose mean mg mb dp un gd cn cs a0 ccd cl outer A0 base h0 L0 m0 news0 s0 Q0 E0 B0 F0 X0 N0 T0 hk0 hd0 hu0 hret; refine wpAny_call ?_; k_dflt (walk_at "MINE enter"); k_steps)
  all_goals first | (exfalso; omega) | ((refine' ctr_int hret ?ce ?cF ?cN ?cS ?cP; (case cF => k_asm); (case cN => k_asm); (case cS => kcj_in); (case cP => (exact glenN_bd _)); (case ce => (first | exact mln_a (by assumption) | exact mln_b (by assumption) (by assumption)))))
local macro_rules | `(tactic| walk_at "call ref") => `(tactic| (k_here; (with_reducible show wpAny _ _ (call (Value.ref 549) [Value.int _ _, Value.int _ _]) _ _ _); (k_dflt (refine' Ctr.use (c_mln _ _ _ _ _ (by omega)) ?B ?F ?X ?N ?T ?hk ?h1 ?h2 ?_; (case B => k_asm); (case F => k_asm); (case X => k_asm); (case N => k_asm); (case T => k_asm); (case hk => first | exact rfl | assumption); (case h1 => ktr_room); (case h2 => ktr_units))); intro h' tk' nw v F' N' hp; obtain ⟨hb', t', he2⟩ := hp; subst he2; (try k_sweep); (try k_fold)))
def glenA (m : Int) : Int := if m ≤ 12 then 30 else 5
theorem glenA_bd (m : Int) : 5 ≤ glenA m ∧ glenA m ≤ 31 := by unfold glenA; (repeat' split) <;> omega
theorem c_mla (w : World) (y m : Int) (t u v : Tok) (hm : 1 ≤ m ∧ m ≤ 13) : Ctr w 587 [.int y t, .int m u, .str (Str.ofString "moveable") v] 2 16 (fun nw v => (5 ≤ glenA m ∧ glenA m ≤ 31) ∧ ∃ t, v = .int (glenA m) t) := by
  (w_top off; unfold Ctr; k_fill; intro loose mean mg mb dp un gd cn cs a0 ccd cl outer A0 base h0 L0 m0 news0 s0 Q0 E0 B0 F0 X0 N0 T0 hk0 hd0 hu0 hret; refine wpAny_call ?_; k_dflt (walk_at "MINE enter"); k_steps)
  all_goals ((refine' ctr_int hret ?ce ?cF ?cN ?cS ?cP; (case cF => k_asm); (case cN => k_asm); (case cS => kcj_in); (case cP => (exact glenA_bd _)); (case ce => (unfold glenA; split <;> omega))))
local macro_rules | `(tactic| walk_at "call ref") => `(tactic| (k_here; (with_reducible show wpAny _ _ (call (Value.ref 587) [Value.int _ _, Value.int _ _, Value.str _ _]) _ _ _); (k_dflt (refine' Ctr.use (c_mla _ _ _ _ _ _ (by omega)) ?B ?F ?X ?N ?T ?hk ?h1 ?h2 ?_; (case B => k_asm); (case F => k_asm); (case X => k_asm); (case N => k_asm); (case T => k_asm); (case hk => first | exact rfl | assumption); (case h1 => ktr_room); (case h2 => ktr_units))); intro h' tk' nw v F' N' hp; obtain ⟨hb', t', he2⟩ := hp; subst he2; (try k_sweep); (try k_fold)))
def glenS (y m : Int) : Int := if m ≤ 12 then 30 else if y % 4 = 0 then 6 else 5
theorem glenS_bd (y m : Int) : 5 ≤ glenS y m ∧ glenS y m ≤ 31 := by unfold glenS; (repeat' split) <;> omega
theorem c_mls (w : World) (y m : Int) (t u v : Tok) (hy : 533 ≤ y) (hm : 1 ≤ m ∧ m ≤ 13) : Ctr w 587 [.int y t, .int m u, .str (Str.ofString "sarkawag") v] 2 16 (fun nw v => (5 ≤ glenS y m ∧ glenS y m ≤ 31) ∧ ∃ t, v = .int (glenS y m) t) := by
  (w_top off; unfold Ctr; k_fill; intro loose mean mg mb dp un gd cn cs a0 ccd cl outer A0 base h0 L0 m0 news0 s0 Q0 E0 B0 F0 X0 N0 T0 hk0 hd0 hu0 hret; refine wpAny_call ?_; k_dflt (walk_at "MINE enter"); k_steps)
  all_goals ((refine' ctr_int hret ?ce ?cF ?cN ?cS ?cP; (case cF => k_asm); (case cN => k_asm); (case cS => kcj_in); (case cP => (exact glenS_bd _ _)); (case ce => (unfold glenS; (repeat' split) <;> omega))))
local macro_rules | `(tactic| walk_at "call ref") => `(tactic| (k_here; (with_reducible show wpAny _ _ (call (Value.ref 587) [Value.int _ _, Value.int _ _, Value.str _ _]) _ _ _); (k_dflt (refine' Ctr.use (c_mls _ _ _ _ _ _ (by omega) (by omega)) ?B ?F ?X ?N ?T ?hk ?h1 ?h2 ?_; (case B => k_asm); (case F => k_asm); (case X => k_asm); (case N => k_asm); (case T => k_asm); (case hk => first | exact rfl | assumption); (case h1 => ktr_room); (case h2 => ktr_units))); intro h' tk' nw v F' N' hp; obtain ⟨hb', t', he2⟩ := hp; subst he2; (try k_sweep); (try k_fold)))
-- C3
theorem jw_bd (n : Int) : 0 ≤ n % 7 ∧ n % 7 < 7 := by omega
theorem c_jwday (w : World) (n : Int) (t : Tok) (hn : -(2 ^ 40) < n ∧ n < 2 ^ 40) : Ctr w 66 [.float (quarter (4 * n - 2)) t] 1 8 (fun nw v => (0 ≤ n % 7 ∧ n % 7 < 7) ∧ ∃ t, v = .int (n % 7) t) := by
  (w_top off; unfold Ctr; k_fill; intro loose mean mg mb dp un gd cn cs a0 ccd cl outer A0 base h0 L0 m0 news0 s0 Q0 E0 B0 F0 X0 N0 T0 hk0 hd0 hu0 hret; refine wpAny_call ?_; k_dflt (walk_at "MINE enter"); k_steps)
  all_goals ((refine' ctr_int hret ?ce ?cF ?cN ?cS ?cP; (case cF => k_asm); (case cN => k_asm); (case cS => kcj_in); (case cP => (exact jw_bd _)); (case ce => (rfl))))
local macro_rules | `(tactic| walk_at "call ref") => `(tactic| (k_here; (with_reducible show wpAny _ _ (call (Value.ref 66) [Value.float (quarter (4 * _ - 2)) _]) _ _ _); (k_dflt (refine' Ctr.use (c_jwday _ _ _ (by omega)) ?B ?F ?X ?N ?T ?hk ?h1 ?h2 ?_; (case B => k_asm); (case F => k_asm); (case X => k_asm); (case N => k_asm); (case T => k_asm); (case hk => first | exact rfl | assumption); (case h1 => ktr_room); (case h2 => ktr_units))); intro h' tk' nw v F' N' hp; obtain ⟨hb', t', he2⟩ := hp; subst he2; (try k_sweep); (try k_fold)))

theorem c_legalj (w : World) (y m : Int) (t u v : Tok) (hm : 1 ≤ m ∧ m ≤ 12) : Ctr w 463 [.int y t, .int m u, .int 1 v] 3 24 (fun nw v => nw = [] ∧ v = .bool true) := by
  (w_top off; unfold Ctr; k_fill; intro loose mean mg mb dp un gd cn cs a0 ccd cl outer A0 base h0 L0 m0 news0 s0 Q0 E0 B0 F0 X0 N0 T0 hk0 hd0 hu0 hret; refine wpAny_call ?_; k_dflt (walk_at "MINE enter"); k_steps)
  all_goals first | (exfalso; omega) | exact hret _ _ [] _ (by k_asm) (cb_drop (by assumption) (by kcj_in)) ⟨rfl, rfl⟩
local macro_rules | `(tactic| walk_at "call ref") => `(tactic| (k_here; (with_reducible show wpAny _ _ (call (Value.ref 463) [Value.int _ _, Value.int _ _, Value.int _ _]) _ _ _); (k_dflt (refine' Ctr.use (c_legalj _ _ _ _ _ _ (by omega)) ?B ?F ?X ?N ?T ?hk ?h1 ?h2 ?_; (case B => k_asm); (case F => k_asm); (case X => k_asm); (case N => k_asm); (case T => k_asm); (case hk => first | exact rfl | assumption); (case h1 => ktr_room); (case h2 => ktr_units))); intro h' tk' nw v F' N' hp; obtain ⟨he1, he2⟩ := hp; subst he1; subst he2; (try dsimp only [List.nil_append] at N' ⊢); (try k_sweep); (try k_fold)))
def jdj (y m : Int) : Int := (1461 * ((if m ≤ 2 then y - 1 else y) + 4716)) / 4 + 306001 * ((if m ≤ 2 then m + 12 else m) + 1) / 10000 + 1 - 1524
theorem jdj_bd {y m : Int} (hy : -20000000 < y ∧ y < 20000000) (hm : 1 ≤ m ∧ m ≤ 12) : -(2 ^ 34) < jdj y m ∧ jdj y m < 2 ^ 34 := by unfold jdj; split <;> omega
theorem c_jdj (w : World) (y m : Int) (t u v : Tok) (hy : -20000000 < y ∧ y < 20000000) (hm : 1 ≤ m ∧ m ≤ 12) : Ctr w 470 [.int y t, .int m u, .int 1 v] 4 32 (fun nw v => (-(2 ^ 34) < jdj y m ∧ jdj y m < 2 ^ 34) ∧ ∃ t, v = .float (quarter (4 * jdj y m - 2)) t) := by
  (w_top off; unfold Ctr; k_fill; intro loose mean mg mb dp un gd cn cs a0 ccd cl outer A0 base h0 L0 m0 news0 s0 Q0 E0 B0 F0 X0 N0 T0 hk0 hd0 hu0 hret; refine wpAny_call ?_; k_dflt (walk_at "MINE enter"); k_steps)
  all_goals ((refine' ctr_flt hret ?ce ?cF ?cN ?cS ?cP; (case cF => k_asm); (case cN => k_asm); (case cS => kcj_in); (case cP => (exact jdj_bd (by assumption) (by assumption))); (case ce => (unfold jdj; first | (rw [if_pos (by assumption), if_pos (by assumption)]; omega) | (rw [if_neg (by assumption), if_neg (by assumption)]; omega)))))
local macro_rules | `(tactic| walk_at "call ref") => `(tactic| (k_here; (with_reducible show wpAny _ _ (call (Value.ref 470) [Value.int _ _, Value.int _ _, Value.int _ _]) _ _ _); (k_dflt (refine' Ctr.use (c_jdj _ _ _ _ _ _ (by omega) (by omega)) ?B ?F ?X ?N ?T ?hk ?h1 ?h2 ?_; (case B => k_asm); (case F => k_asm); (case X => k_asm); (case N => k_asm); (case T => k_asm); (case hk => first | exact rfl | assumption); (case h1 => ktr_room); (case h2 => ktr_units))); intro h' tk' nw v F' N' hp; obtain ⟨hb', t', he2⟩ := hp; subst he2; (try k_sweep); (try k_fold)))

def jdi (y m : Int) : Int := 1948440 + (1 + -((-(118 * (m - 1))) / 4) + (y - 1) * 354 + (3 + 11 * y) / 30) - 1
theorem jdi_bd {y m : Int} (hy : -20000000 < y ∧ y < 20000000) (hm : 1 ≤ m ∧ m ≤ 12) : -(2 ^ 34) < jdi y m ∧ jdi y m < 2 ^ 34 := by unfold jdi; omega
theorem c_jdi (w : World) (y m : Int) (t u v : Tok) (hy : -20000000 < y ∧ y < 20000000) (hm : 1 ≤ m ∧ m ≤ 12) : Ctr w 492 [.int y t, .int m u, .int 1 v] 2 16 (fun nw v => (-(2 ^ 34) < jdi y m ∧ jdi y m < 2 ^ 34) ∧ ∃ t, v = .float (quarter (4 * jdi y m - 2)) t) := by
  (w_top off; unfold Ctr; k_fill; intro loose mean mg mb dp un gd cn cs a0 ccd cl outer A0 base h0 L0 m0 news0 s0 Q0 E0 B0 F0 X0 N0 T0 hk0 hd0 hu0 hret; refine wpAny_call ?_; k_dflt (walk_at "MINE enter"); k_steps)
  all_goals ((refine' ctr_flt hret ?ce ?cF ?cN ?cS ?cP; (case cF => k_asm); (case cN => k_asm); (case cS => kcj_in); (case cP => (exact jdi_bd (by assumption) (by assumption))); (case ce => (unfold jdi; omega))))
local macro_rules | `(tactic| walk_at "call ref") => `(tactic| (k_here; (with_reducible show wpAny _ _ (call (Value.ref 492) [Value.int _ _, Value.int _ _, Value.int _ _]) _ _ _); (k_dflt (refine' Ctr.use (c_jdi _ _ _ _ _ _ (by omega) (by omega)) ?B ?F ?X ?N ?T ?hk ?h1 ?h2 ?_; (case B => k_asm); (case F => k_asm); (case X => k_asm); (case N => k_asm); (case T => k_asm); (case hk => first | exact rfl | assumption); (case h1 => ktr_room); (case h2 => ktr_units))); intro h' tk' nw v F' N' hp; obtain ⟨hb', t', he2⟩ := hp; subst he2; (try k_sweep); (try k_fold)))

def jdc (y m : Int) : Int := 1825030 + (1 + (m - 1) * 30 + (y - 1) * 365 + y / 4) - 1
theorem jdc_bd {y m : Int} (hy : -20000000 < y ∧ y < 20000000) (hm : 1 ≤ m ∧ m ≤ 13) : -(2 ^ 34) < jdc y m ∧ jdc y m < 2 ^ 34 := by unfold jdc; omega
theorem c_jdc (w : World) (y m : Int) (t u v : Tok) (hy : -20000000 < y ∧ y < 20000000) (hm : 1 ≤ m ∧ m ≤ 13) : Ctr w 520 [.int y t, .int m u, .int 1 v] 2 16 (fun nw v => (-(2 ^ 34) < jdc y m ∧ jdc y m < 2 ^ 34) ∧ ∃ t, v = .float (quarter (4 * jdc y m - 2)) t) := by
  (w_top off; unfold Ctr; k_fill; intro loose mean mg mb dp un gd cn cs a0 ccd cl outer A0 base h0 L0 m0 news0 s0 Q0 E0 B0 F0 X0 N0 T0 hk0 hd0 hu0 hret; refine wpAny_call ?_; k_dflt (walk_at "MINE enter"); k_steps)
  all_goals ((refine' ctr_flt hret ?ce ?cF ?cN ?cS ?cP; (case cF => k_asm); (case cN => k_asm); (case cS => kcj_in); (case cP => (exact jdc_bd (by assumption) (by assumption))); (case ce => (unfold jdc; omega))))
local macro_rules | `(tactic| walk_at "call ref") => `(tactic| (k_here; (with_reducible show wpAny _ _ (call (Value.ref 520) [Value.int _ _, Value.int _ _, Value.int _ _]) _ _ _); (k_dflt (refine' Ctr.use (c_jdc _ _ _ _ _ _ (by omega) (by omega)) ?B ?F ?X ?N ?T ?hk ?h1 ?h2 ?_; (case B => k_asm); (case F => k_asm); (case X => k_asm); (case N => k_asm); (case T => k_asm); (case hk => first | exact rfl | assumption); (case h1 => ktr_room); (case h2 => ktr_units))); intro h' tk' nw v F' N' hp; obtain ⟨hb', t', he2⟩ := hp; subst he2; (try k_sweep); (try k_fold)))

def jdn (y m : Int) : Int := jdg (y + 78) 3 (22 - (if isLeap (y + 78) = true then 1 else 0)) + (if isLeap (y + 78) = true then 31 else 30) + (if 5 < m - 2 then 5 else m - 2) * 31 + (if 8 ≤ m then (m - 7) * 30 else 0)
theorem jdn_bd {y m : Int} (hy : -15000000 < y ∧ y < 15000000) (hm : 2 ≤ m ∧ m ≤ 12) : -(2 ^ 36) < jdn y m ∧ jdn y m < 2 ^ 36 := by
  have h1 := jdg_bd (y := y + 78) (m := 3) (d := 22 - (if isLeap (y + 78) = true then 1 else 0)) (by omega) (by omega) (by split <;> omega)
  unfold jdn; generalize jdg (y + 78) 3 (22 - (if isLeap (y + 78) = true then 1 else 0)) = j at *; (repeat' split) <;> omega
theorem c_jdn (w : World) (y m : Int) (t u v : Tok) (hy : -15000000 < y ∧ y < 15000000) (hm : 2 ≤ m ∧ m ≤ 12) : Ctr w 542 [.int y t, .int m u, .int 1 v] 5 40 (fun nw v => (-(2 ^ 36) < jdn y m ∧ jdn y m < 2 ^ 36) ∧ ∃ t, v = .float (quarter (4 * jdn y m - 2)) t) := by
  (w_top off; unfold Ctr; k_fill; intro loose mean mg mb dp un gd cn cs a0 ccd cl outer A0 base h0 L0 m0 news0 s0 Q0 E0 B0 F0 X0 N0 T0 hk0 hd0 hu0 hret; refine wpAny_call ?_; k_dflt (walk_at "MINE enter"); k_steps)
  all_goals first | (exfalso; omega) | ((refine' ctr_flt hret ?ce ?cF ?cN ?cS ?cP; (case cF => k_asm); (case cN => k_asm); (case cS => kcj_in); (case cP => (exact jdn_bd (by assumption) (by assumption))); (case ce => (unfold jdn; simp only [*, if_true, if_false, Bool.false_eq_true]; omega))))
local macro_rules | `(tactic| walk_at "call ref") => `(tactic| (k_here; (with_reducible show wpAny _ _ (call (Value.ref 542) [Value.int _ _, Value.int _ _, Value.int _ _]) _ _ _); (k_dflt (refine' Ctr.use (c_jdn _ _ _ _ _ _ (by omega) (by omega)) ?B ?F ?X ?N ?T ?hk ?h1 ?h2 ?_; (case B => k_asm); (case F => k_asm); (case X => k_asm); (case N => k_asm); (case T => k_asm); (case hk => first | exact rfl | assumption); (case h1 => ktr_room); (case h2 => ktr_units))); intro h' tk' nw v F' N' hp; obtain ⟨hb', t', he2⟩ := hp; subst he2; (try k_sweep); (try k_fold)))
-- C4
theorem c_validm (w : World) (y m : Int) (t u v x : Tok) (hy : 1 ≤ y) (hm : 1 ≤ m ∧ m ≤ 13) : Ctr w 564 [.int y t, .int m u, .int 1 v, .str (Str.ofString "moveable") x] 3 24 (fun nw v => nw = [] ∧ v = .bool true) := by
  (w_top off; unfold Ctr; k_fill; intro loose mean mg mb dp un gd cn cs a0 ccd cl outer A0 base h0 L0 m0 news0 s0 Q0 E0 B0 F0 X0 N0 T0 hk0 hd0 hu0 hret; refine wpAny_call ?_; k_dflt (walk_at "MINE enter"); k_steps)
  all_goals exact hret _ _ [] _ (by k_asm) (cb_drop (by assumption) (by kcj_in)) ⟨rfl, rfl⟩
theorem c_valids (w : World) (y m : Int) (t u v x : Tok) (hy : 533 ≤ y) (hm : 1 ≤ m ∧ m ≤ 13) : Ctr w 564 [.int y t, .int m u, .int 1 v, .str (Str.ofString "sarkawag") x] 3 24 (fun nw v => nw = [] ∧ v = .bool true) := by
  (w_top off; unfold Ctr; k_fill; intro loose mean mg mb dp un gd cn cs a0 ccd cl outer A0 base h0 L0 m0 news0 s0 Q0 E0 B0 F0 X0 N0 T0 hk0 hd0 hu0 hret; refine wpAny_call ?_; k_dflt (walk_at "MINE enter"); k_steps)
  all_goals exact hret _ _ [] _ (by k_asm) (cb_drop (by assumption) (by kcj_in)) ⟨rfl, rfl⟩
local macro_rules | `(tactic| walk_at "call ref") => `(tactic| (k_here; (with_reducible show wpAny _ _ (call (Value.ref 564) [Value.int _ _, Value.int _ _, Value.int _ _, Value.str _ _]) _ _ _); (first | (k_dflt (refine' Ctr.use (c_validm _ _ _ _ _ _ _ (by omega) (by omega)) ?B ?F ?X ?N ?T ?hk ?h1 ?h2 ?_; (case B => k_asm); (case F => k_asm); (case X => k_asm); (case N => k_asm); (case T => k_asm); (case hk => first | exact rfl | assumption); (case h1 => ktr_room); (case h2 => ktr_units))) | (k_dflt (refine' Ctr.use (c_valids _ _ _ _ _ _ _ (by omega) (by omega)) ?B ?F ?X ?N ?T ?hk ?h1 ?h2 ?_; (case B => k_asm); (case F => k_asm); (case X => k_asm); (case N => k_asm); (case T => k_asm); (case hk => first | exact rfl | assumption); (case h1 => ktr_room); (case h2 => ktr_units)))); intro h' tk' nw v F' N' hp; obtain ⟨he1, he2⟩ := hp; subst he1; subst he2; (try dsimp only [List.nil_append] at N' ⊢); (try k_sweep); (try k_fold)))
def jda (y m : Int) : Int := 1922502 + 365 * y + ((m - 1) * 30 + 1)
theorem jda_bd {y m : Int} (hy : 1 ≤ y ∧ y < 20000000) (hm : 1 ≤ m ∧ m ≤ 13) : -(2 ^ 34) < jda y m ∧ jda y m < 2 ^ 34 := by unfold jda; omega
theorem c_jda (w : World) (y m : Int) (t u v x : Tok) (hy : 1 ≤ y ∧ y < 20000000) (hm : 1 ≤ m ∧ m ≤ 13) : Ctr w 579 [.int y t, .int m u, .int 1 v, .str (Str.ofString "moveable") x] 4 32 (fun nw v => (-(2 ^ 34) < jda y m ∧ jda y m < 2 ^ 34) ∧ ∃ t, v = .float (quarter (4 * jda y m - 2)) t) := by
  (w_top off; unfold Ctr; k_fill; intro loose mean mg mb dp un gd cn cs a0 ccd cl outer A0 base h0 L0 m0 news0 s0 Q0 E0 B0 F0 X0 N0 T0 hk0 hd0 hu0 hret; refine wpAny_call ?_; k_dflt (walk_at "MINE enter"); k_steps)
  all_goals ((refine' ctr_flt hret ?ce ?cF ?cN ?cS ?cP; (case cF => k_asm); (case cN => k_asm); (case cS => kcj_in); (case cP => (exact jda_bd (by assumption) (by assumption))); (case ce => (unfold jda; omega))))
def jds (y m : Int) : Int := 2117211 + 365 * (y - 533) + (y - 533) / 4 + ((m - 1) * 30 + 1)
theorem jds_bd {y m : Int} (hy : 533 ≤ y ∧ y < 20000000) (hm : 1 ≤ m ∧ m ≤ 13) : -(2 ^ 34) < jds y m ∧ jds y m < 2 ^ 34 := by unfold jds; omega
theorem c_jds (w : World) (y m : Int) (t u v x : Tok) (hy : 533 ≤ y ∧ y < 20000000) (hm : 1 ≤ m ∧ m ≤ 13) : Ctr w 579 [.int y t, .int m u, .int 1 v, .str (Str.ofString "sarkawag") x] 4 32 (fun nw v => (-(2 ^ 34) < jds y m ∧ jds y m < 2 ^ 34) ∧ ∃ t, v = .float (quarter (4 * jds y m - 2)) t) := by
  (w_top off; unfold Ctr; k_fill; intro loose mean mg mb dp un gd cn cs a0 ccd cl outer A0 base h0 L0 m0 news0 s0 Q0 E0 B0 F0 X0 N0 T0 hk0 hd0 hu0 hret; refine wpAny_call ?_; k_dflt (walk_at "MINE enter"); k_steps)
  all_goals ((refine' ctr_flt hret ?ce ?cF ?cN ?cS ?cP; (case cF => k_asm); (case cN => k_asm); (case cS => kcj_in); (case cP => (exact jds_bd (by assumption) (by assumption))); (case ce => (unfold jds; omega))))
local macro_rules | `(tactic| walk_at "call ref") => `(tactic| (k_here; (with_reducible show wpAny _ _ (call (Value.ref 579) [Value.int _ _, Value.int _ _, Value.int _ _, Value.str _ _]) _ _ _); (first | (k_dflt (refine' Ctr.use (c_jda _ _ _ _ _ _ _ (by omega) (by omega)) ?B ?F ?X ?N ?T ?hk ?h1 ?h2 ?_; (case B => k_asm); (case F => k_asm); (case X => k_asm); (case N => k_asm); (case T => k_asm); (case hk => first | exact rfl | assumption); (case h1 => ktr_room); (case h2 => ktr_units))) | (k_dflt (refine' Ctr.use (c_jds _ _ _ _ _ _ _ (by omega) (by omega)) ?B ?F ?X ?N ?T ?hk ?h1 ?h2 ?_; (case B => k_asm); (case F => k_asm); (case X => k_asm); (case N => k_asm); (case T => k_asm); (case hk => first | exact rfl | assumption); (case h1 => ktr_room); (case h2 => ktr_units)))); intro h' tk' nw v F' N' hp; obtain ⟨hb', t', he2⟩ := hp; subst he2; (try k_sweep); (try k_fold)))
-- LRules
def RngPost (P : Prop) : Prop := P
theorem foldl_rep (v : Value) : ∀ (k : Nat) (acc : Array Value), (List.foldl (fun x1 x2 => x1 ++ x2) acc (List.replicate k #[v])) = acc ++ (List.replicate k v).toArray
  | 0, acc => by simp
  | k + 1, acc => by
    rw [List.replicate_succ, List.foldl_cons, foldl_rep v k, List.replicate_succ, Array.append_assoc]
    congr 1
    simp
section
variable {prog : Program} {w : World} {A : Around} {E : Value → Shared → Prop} {s : Shared} {h₀ : Heap} {L : Addr} {m : Str → Option Value} {news : List (Addr × Obj)} {env : Env}
theorem rep_l {l : Addr} {v : Value} {c : Nat} {x : Int} {u : Tok} {Q : Value → Shared → Prop} (F : Fr h₀ L s.heap m) (N : News h₀ L s.heap news) (hm : (l, listOf #[v] c) ∈ news) (h0 : 0 ≤ x ∧ x < 1000)
    (h : ∀ h', Fr h₀ L h' m → News h₀ L h' ((s.heap.objs.size, listOf (List.replicate x.toNat v).toArray 0) :: news) → (∀ p ∈ news, p.1 < s.heap.objs.size) → Q (.ref s.heap.objs.size) { s with heap := h' }) :
    wpAny (model prog w) A (binaryOp .Mult (.ref l) (.int x u)) Q E s := by
  refine mul_list F N (N _ hm).1 (by omega) (by omega) (by simp; omega) fun h' F' N' => ?_
  refine h h' F' ?_ fun p hp => Heap.lt_size (N p hp).1
  have e : (List.foldl (fun x1 x2 => x1 ++ x2) #[] (List.replicate (if (#[v] : Array Value).isEmpty = true then 0 else x.toNat) #[v])) = (List.replicate x.toNat v).toArray := by
    rw [if_neg (by simp), foldl_rep]; simp
  rw [e] at N'
  exact N'
theorem rep_r {l : Addr} {v : Value} {c : Nat} {x : Int} {u : Tok} {Q : Value → Shared → Prop} (F : Fr h₀ L s.heap m) (N : News h₀ L s.heap news) (hm : (l, listOf #[v] c) ∈ news) (h0 : 0 ≤ x ∧ x < 1000)
    (h : ∀ h', Fr h₀ L h' m → News h₀ L h' ((s.heap.objs.size, listOf (List.replicate x.toNat v).toArray 0) :: news) → (∀ p ∈ news, p.1 < s.heap.objs.size) → Q (.ref s.heap.objs.size) { s with heap := h' }) :
    wpAny (model prog w) A (binaryOp .Mult (.int x u) (.ref l)) Q E s := by
  refine mul_list_r F N (N _ hm).1 (by omega) (by omega) (by simp; omega) fun h' F' N' => ?_
  refine h h' F' ?_ fun p hp => Heap.lt_size (N p hp).1
  have e : (List.foldl (fun x1 x2 => x1 ++ x2) #[] (List.replicate (if (#[v] : Array Value).isEmpty = true then 0 else x.toNat) #[v])) = (List.replicate x.toNat v).toArray := by
    rw [if_neg (by simp), foldl_rep]; simp
  rw [e] at N'
  exact N'
theorem cat_N {l b : Addr} {vs ws : List Value} {c d : Nat} {Q : Value → Shared → Prop} (F : Fr h₀ L s.heap m) (N : News h₀ L s.heap news) (hl : (l, listOf vs.toArray c) ∈ news) (hb : (b, listOf ws.toArray d) ∈ news) (hz : vs.length + ws.length < 1000)
    (h : ∀ h', Fr h₀ L h' m → News h₀ L h' ((s.heap.objs.size, listOf (vs ++ ws).toArray 0) :: news) → (∀ p ∈ news, p.1 < s.heap.objs.size) → Q (.ref s.heap.objs.size) { s with heap := h' }) :
    wpAny (model prog w) A (binaryOp .Add (.ref l) (.ref b)) Q E s :=
  add_arrays F N ⟨_, (N _ hl).1, rfl, c, rfl⟩ ⟨_, (N _ hb).1, rfl, d, rfl⟩ (fun h' F' N' => h h' F' (by simpa using N') fun p hp => Heap.lt_size (N p hp).1)
    (by simp [sizeLine_eq]; omega)

open LCg in
theorem ListComp_R {elt iter : Expr} {x : Str} {px : Pos} {scope : Scope} {cl : List (Str × Addr)} {pos : Pos} {Q : Value → Shared → Prop} (F₀ : Fr h₀ L s.heap m)
    (hclos : closureFor scope env = pure cl) (hcell : ∀ y ∈ scope.names, y.2 ≠ .cell) (hkind : scope.kind = .function)
    (hnames : ∀ y ∈ scope.names, y.2 = .local → scope.names.lookup y.1 = some .local) (hx : scope.names.lookup x = some .local)
    (h : wpAny (model prog w) A (eval iter env) (fun xv s₁ => RngPost (∃ r a b c t u v n news, xv = .ref r ∧ A.handled = none ∧ Fr h₀ L s₁.heap m ∧ News h₀ L s₁.heap news ∧ IsRange s₁.heap r a b c t u v ∧ Builtin.Range.small a b c = true ∧ Builtin.Range.rangeSize a b c = ((n : Nat) : Int) ∧ n ≤ sizeLine ∧
      ∀ s₂ : Shared, (∃ h, s₂ = { s₁ with heap := h }) → CompRest prog w A h₀ L m env elt x scope cl s₂ (fun _ => True) (fun i v => i < n ∧ ∃ t, v = .int (a + (i : Int) * c) t) (FinE h₀ L m s₂ Q) n 0 [] news)) E s)
    (hs : ∀ x, foldedSetIterable iter env x = pure x := by intro _; rfl) :
    wpAny (model prog w) A (eval (.ListComp elt [⟨.Name x px, iter, [], 0⟩] scope pos) env) Q E s := by
  rw [eval_ListComp]
  refine wpAny_comprehension_free (use := none) rfl hs hclos hkind hnames (wpAny_mono h (fun xv s₁ h₁ => ?_) fun _ _ e => e)
  obtain ⟨r, a, b, c, t, u, v, n, news, rfl, hh, F, N, hr, hsm, hn, hsz, R⟩ := h₁
  refine wpAny_pyIter_range hr hsm ?_
  refine block_U (St := fun i h => IsRangeIter h s₁.heap.objs.size (a + (i : Nat) * c) ((n : Int) - (i : Nat)) c) (Walks.range hh s₁.heap.objs.size a c n).bound hsz (fun i h st => ⟨_, st⟩) ?_ hcell hkind hx (by show IsRangeIter _ _ _ _ _; rw [hn]; simpa using Heap.get?_push_size _ rfl) (fun b hb => ?_)
    (F.keeps fun _ _ e => Heap.get?_push_of_some _ e) (N.grown fun _ _ e => Heap.get?_push_of_some _ e) (Nat.ne_of_lt F.ns.lt) (next_is_new F) (fun p hp => Nat.ne_of_lt (Heap.lt_size (N p hp).1)) trivial (R _ ⟨_, rfl⟩) ?_
  · intro i h h' o nw st e e' _ _ _
    have st' : h.get? s₁.heap.objs.size = some _ := st
    show h'.get? s₁.heap.objs.size = some _
    rw [e', ← e]; exact st'
  · rw [List.mem_singleton.mp hb]
    show s₁.heap.objs.size < (s₁.heap.push _).objs.size
    rw [Heap.size_push]; exact Nat.lt_succ_self _
  · intro D C h tk m' ys news' F' N' o1 hn hC₀ hD₀ hCL hDL hCD offC fin
    refine ⟨m', hn, fun h'' hs'' => fin D h'' tk (F'.change hs'' hCL hC₀) (fun p hp => ?_) o1⟩
    refine ⟨hs''.extBut _ _ ?_ (N' p hp).1, (N' p hp).2⟩
    rcases List.mem_cons.mp hp with rfl | hp
    · exact Ne.symm hCD
    · exact offC p hp
open LCg in
theorem comp_key {elt : Expr} {x : Str} {scope : Scope} {cl : List (Str × Addr)} {n : Nat} {row : Nat → Dat} {base : List (Addr × Obj)} {Fin : List Value → List (Addr × Obj) → Prop}
    (step : ∀ (i : Nat) (t : Tok) (I : Addr) (oI : Obj) (C : Addr) (oC : Obj) (D : Addr) (ys : List Value) (nws : List (Addr × Obj)) (m₂ : Str → Option Value) (h : Heap) (tk : Nat) (E' : Value → Shared → Prop) (Qe : Value → List (Addr × Obj) → Prop),
      i < n → (∀ p ∈ base, p ∈ nws) → NsObj oC m₂ → m₂ x = some (.int (0 + (i : Int) * 7) t) → Fr h₀ L h m → News h₀ L h ((I, oI) :: (C, oC) :: (D, lst ys) :: nws) → Off3 I C D nws → ((@Ne Nat I C) ∧ (@Ne Nat I D) ∧ (@Ne Nat C D)) →
      (∀ r add, DatIn (add ++ nws) r (row i) → Qe r (add ++ nws)) →
      wpAny (model prog w) A (eval elt (compEnvC scope cl C env)) (CompEnd h₀ L m { s with heap := h, toks := tk } I oI C oC D (lst ys) (fun _ => True) Qe) E' { s with heap := h, toks := tk })
    (fin : ∀ ys nws, (∀ p ∈ base, p ∈ nws) → DatAll nws ys ((List.range n).map row) → Fin ys nws) :
    CompRest prog w A h₀ L m env elt x scope cl s (fun _ => True) (fun i v => i < n ∧ ∃ t, v = .int (0 + (i : Int) * 7) t) Fin n 0 [] base := by
  have key : ∀ (k i : Nat) (ys : List Value) (nws : List (Addr × Obj)), i + k = n → (∀ p ∈ base, p ∈ nws) → DatAll nws ys ((List.range i).map row) →
      CompRest prog w A h₀ L m env elt x scope cl s (fun _ => True) (fun i v => i < n ∧ ∃ t, v = .int (0 + (i : Int) * 7) t) Fin k i ys nws := by
    intro k
    induction k with
    | zero =>
      intro i ys nws hi hb hd
      obtain rfl : i = n := by omega
      exact CompRest.zero (fin ys nws hb hd)
    | succ k ih =>
      intro i ys nws hi hb hd
      refine CompRest.succ ?_
      rintro v I oI C oC D m₂ h tk E' ⟨hlt, t, rfl⟩ hN hm F N off ne
      refine step i t I oI C oC D ys nws m₂ h tk E' _ hlt hb hN hm F N off ne fun r add hr => ?_
      refine ih (i + 1) (ys ++ [r]) (add ++ nws) (by omega) (fun p hp => List.mem_append_right _ (hb p hp)) ?_
      rw [List.range_succ, List.map_append]
      exact DatAll.append (DatAll.mono (fun p hp => List.mem_append_right _ hp) hd) (DatAll.one hr)
  exact key n 0 [] base (by omega) (fun _ h => h) .nil
theorem datAll_drop {news : List (Addr × Obj)} : ∀ (k : Nat) {vs : List Value} {ds : List Dat}, DatAll news vs ds → DatAll news (vs.drop k) (ds.drop k)
  | 0, _, _, h => h
  | k + 1, _, _, .nil => by simpa using DatAll.nil
  | k + 1, _, _, .cons _ r => datAll_drop k r
theorem datAll_take {news : List (Addr × Obj)} : ∀ (k : Nat) {vs : List Value} {ds : List Dat}, DatAll news vs ds → DatAll news (vs.take k) (ds.take k)
  | 0, _, _, _ => by simpa using DatAll.nil
  | k + 1, _, _, .nil => by simpa using DatAll.nil
  | k + 1, _, _, .cons h r => .cons h (datAll_take k r)
theorem slice_step {value slice : Expr} {l : Addr} {vs : List Value} {c : Nat} {x y : Int} {t u : Tok} {Q : Value → Shared → Prop} (F : Fr h₀ L s.heap m) (N : News h₀ L s.heap news) (hm : (l, listOf vs.toArray c) ∈ news) (hy : y = x + 7) (hx : 0 ≤ x ∧ y ≤ (vs.length : Int)) (hz : vs.length < 1000)
    (h : ∀ D' h', Fr h₀ L h' m → News h₀ L h' ((D', listOf ((vs.drop x.toNat).take 7).toArray 0) :: news) → (∀ p ∈ news, p.1 < D') → Q (.ref D') { s with heap := h' })
    (hs : subscripted slice false (.ref l) (.ref s.heap.objs.size) = operate [.ref s.heap.objs.size, .ref l] (getItem (.ref l) (.ref s.heap.objs.size)) := by with_unfolding_all rfl)
    (ht : ∀ r, letTemporaryGo value (.ref l) r = pure () := by intro _; with_unfolding_all rfl) :
    wpAny (model prog w) A (subscriptTail value slice (.ref l) (.ref s.heap.objs.size)) Q E { s with heap := s.heap.push { cls := .type "slice", data := .fields #[.int x t, .int y u, .none] } } := by
  subst hy
  refine slice_listK (lo := some x) (hi := some (x + 7)) ⟨_, (N _ hm).1, rfl, c, rfl⟩ (.int _ _) (.int _ _) ?_ hs ht (by simp [sizeLine_eq]; omega)
  have e : slicePick vs.toArray (some x) (some (x + 7)) none = ((vs.drop x.toNat).take 7).toArray := by
    apply Array.toList_inj.mp
    rw [slicePick_plain]
    simp only [Option.elim, List.size_toArray, clipAt_in hx.1 (show x ≤ (vs.length : Int) by omega), clipAt_in (show 0 ≤ x + 7 by omega) hx.2]
    rw [show (x + 7).toNat - x.toNat = 7 by omega]
  rw [e]
  have F' := (F.push { cls := .type "slice", data := .fields #[.int x t, .int (x + 7) u, .none] })
  have N' := N.push F { cls := .type "slice", data := .fields #[.int x t, .int (x + 7) u, .none] }
  have N'' := N'.push F' (listOf ((vs.drop x.toNat).take 7).toArray 0)
  have hz2 : (s.heap.push { cls := .type "slice", data := .fields #[.int x t, .int (x + 7) u, .none] }).objs.size = s.heap.objs.size + 1 := Heap.size_push _ _
  rw [hz2] at N''
  refine h _ _ (F'.push _) (fun p hp => ?_) fun p hp => Nat.lt_succ_of_lt (Heap.lt_size (N p hp).1)
  rcases List.mem_cons.mp hp with rfl | hp
  · exact N'' _ (.head _)
  · exact N'' _ (.tail _ (.tail _ hp))
open LCg LCt in
theorem compT_key {ct : Expr} {x : Str} {px : Pos} {scope : Scope} {cl : List (Str × Addr)} {vs : List Value} {ns : List Int} {pz : Int → Bool} {ax : Addr} {c : Nat} {base : List (Addr × Obj)} {Fin : List Value → List (Addr × Obj) → Prop}
    (hi : PyProof.Rows.IntsAre vs ns) (hax : (ax, listOf vs.toArray c) ∈ base)
    (test : ∀ (z : Int) (t : Tok) (I : Addr) (oI : Obj) (C : Addr) (oC : Obj) (D : Addr) (ys : List Value) (nws : List (Addr × Obj)) (m₂ : Str → Option Value) (h : Heap) (tk : Nat) (E' : Value → Shared → Prop) (Qt : Bool → Shared → Prop),
      (∀ p ∈ base, p ∈ nws) → NsObj oC m₂ → m₂ x = some (.int z t) → Fr h₀ L h m → News h₀ L h ((I, oI) :: (C, oC) :: (D, lst ys) :: nws) →
      (∀ tk', Qt (pz z) { s with heap := h, toks := tk' }) → wpAny (model prog w) A (isTrue ct (compEnvC scope cl C env) (eval ct (compEnvC scope cl C env))) Qt E' { s with heap := h, toks := tk })
    (hk : ∀ C, (compEnvC scope cl C env).scope.kind = .function) (hl : ∀ C, (compEnvC scope cl C env).kindOf x = some .local) (hd : (x == ("__debug__" : Str)) = false)
    (fin : ∀ ys nws, (∀ p ∈ base, p ∈ nws) → PyProof.Rows.IntsAre ys (ns.filter pz) → Fin ys nws) :
    CompRestT prog w A h₀ L m env ct (.Name x px) x scope cl s (SrcAt h₀ ax vs.toArray) (fun i v => vs.toArray[i]? = some v) Fin vs.toArray.size 0 [] base := by
  have key : ∀ (k i : Nat) (ys : List Value) (nws : List (Addr × Obj)), i + k = vs.length → (∀ p ∈ base, p ∈ nws) → PyProof.Rows.IntsAre ys ((ns.take i).filter pz) →
      CompRestT prog w A h₀ L m env ct (.Name x px) x scope cl s (SrcAt h₀ ax vs.toArray) (fun i v => vs.toArray[i]? = some v) Fin k i ys nws := by
    intro k
    induction k with
    | zero =>
      intro i ys nws hk' hb hy
      have hlen := hi.length
      rw [List.take_of_length_le (by omega)] at hy
      exact CompRestT.zero (fin ys nws hb hy)
    | succ k ih =>
      intro i ys nws hk' hb hy
      have hlen := hi.length
      refine CompRestT.succ ?_
      rintro v I oI C oC D m₂ h tk E' hv hN hm F N off ne
      have hlt : i < ns.length := by omega
      obtain ⟨t, hx⟩ := hi.get i ns[i] (by simp [hlt])
      have hv' : v = .int ns[i] t := by
        have hP' : vs[i]? = some v := by simpa using hv
        rw [hx] at hP'; exact (Option.some.inj hP').symm
      subst hv'
      have hs : ns.take (i + 1) = ns.take i ++ [ns[i]] := by rw [List.take_add_one, List.getElem?_eq_getElem hlt]; rfl
      refine test ns[i] t I oI C oC D ys nws m₂ h tk E' _ hb hN hm F N fun tk' => ?_
      by_cases hp : pz ns[i] = true
      · rw [if_pos hp]
        refine PySem.W.LCgL.ld_own N (.tail _ (.head _)) hN hm ?_ (hk C) (hl C) hd
        refine CompEnd.intro F N nws (fun _ h => h) off (.inr ⟨_, hb _ hax, rfl, _, rfl⟩) ?_
        refine ih (i + 1) _ nws (by omega) hb ?_
        rw [hs, List.filter_append]
        have e : [ns[i]].filter pz = [ns[i]] := by simp [hp]
        rw [e]
        exact hy.append (.cons _ t .nil)
      · rw [if_neg hp]
        refine CompEnd.intro F N nws (fun _ h => h) off (.inr ⟨_, hb _ hax, rfl, _, rfl⟩) ?_
        refine ih (i + 1) ys nws (by omega) hb ?_
        rw [hs, List.filter_append]
        have e : [ns[i]].filter pz = [] := by simp [hp]
        rw [e, List.append_nil]
        exact hy
  rw [List.size_toArray]
  exact key vs.length 0 [] base (by omega) (fun _ h => h) (by simpa using .nil)
open LCg LCt in
theorem ListComp_F {ct elt iter : Expr} {x : Str} {px : Pos} {scope : Scope} {cl : List (Str × Addr)} {pos : Pos} {Q : Value → Shared → Prop} (F₀ : Fr h₀ L s.heap m)
    (hclos : closureFor scope env = pure cl) (hcell : ∀ y ∈ scope.names, y.2 ≠ .cell) (hkind : scope.kind = .function)
    (hnames : ∀ y ∈ scope.names, y.2 = .local → scope.names.lookup y.1 = some .local) (hx : scope.names.lookup x = some .local)
    (h : wpAny (model prog w) A (eval iter env) (fun xv s₁ => RngPost (CompSrcT prog w A h₀ L m env ct elt x scope cl (fun s₂ => FinE h₀ L m s₂ Q) xv s₁)) E s)
    (hs : ∀ x, foldedSetIterable iter env x = pure x := by intro _; rfl) :
    wpAny (model prog w) A (eval (.ListComp elt [⟨.Name x px, iter, [ct], 0⟩] scope pos) env) Q E s := ListComp_T F₀ hclos hcell hkind hnames hx h hs
theorem len_ints {l : Addr} {vs : List Value} {ns : List Int} {c : Nat} {Q : Value → Shared → Prop} (N : News h₀ L s.heap news) (hm : (l, listOf vs.toArray c) ∈ news) (hi : PyProof.Rows.IntsAre vs ns) (hz : ns.length < 1000)
    (h : Q (.int (ns.length : Int) (s.toks + 1)) { s with toks := s.toks + 1 + 1 }) : wpAny (model prog w) A (call (.builtin "len") [.ref l]) Q E s := by
  have e : vs.toArray.size = ns.length := by rw [List.size_toArray, hi.length]
  exact len_list ⟨_, (N _ hm).1, rfl, c, rfl⟩ (by rw [e]; omega) (by rw [e]; exact h)
theorem item_ints {value slice : Expr} {l : Addr} {vs : List Value} {ns : List Int} {c : Nat} {k : Int} {u : Tok} {Q : Value → Shared → Prop} (N : News h₀ L s.heap news) (hm : (l, listOf vs.toArray c) ∈ news) (hi : PyProof.Rows.IntsAre vs ns) (h0 : 0 ≤ k ∧ k < (ns.length : Int)) (hz : ns.length < 1000)
    (h : ∀ t, Q (.int (ns.getD k.toNat 0) t) s)
    (hs : subscripted slice false (.ref l) (.int k u) = operate [.ref l, .int k u] (getItem (.ref l) (.int k u)) := by with_unfolding_all rfl) (hg : ∀ r, letTemporaryGo value (.ref l) r = pure () := by intro _; with_unfolding_all rfl) :
    wpAny (model prog w) A (subscriptTail value slice (.ref l) (.int k u)) Q E s := by
  obtain ⟨t, e⟩ := intsAt_get hi (j := k.toNat) (by omega)
  exact item_list (items := vs.toArray) ⟨_, (N _ hm).1, rfl, c, rfl⟩ h0.1 (by omega) (by simpa using e) (h t) hs hg
theorem slice_to {value slice : Expr} {l : Addr} {vs : List Value} {c : Nat} {y : Int} {u : Tok} {Q : Value → Shared → Prop} (F : Fr h₀ L s.heap m) (N : News h₀ L s.heap news) (hm : (l, listOf vs.toArray c) ∈ news) (hx : 0 ≤ y ∧ y ≤ (vs.length : Int)) (hz : vs.length < 1000)
    (h : ∀ D' h', Fr h₀ L h' m → News h₀ L h' ((D', listOf (vs.take y.toNat).toArray 0) :: news) → (∀ p ∈ news, p.1 < D') → Q (.ref D') { s with heap := h' })
    (hs : subscripted slice false (.ref l) (.ref s.heap.objs.size) = operate [.ref s.heap.objs.size, .ref l] (getItem (.ref l) (.ref s.heap.objs.size)) := by with_unfolding_all rfl)
    (ht : ∀ r, letTemporaryGo value (.ref l) r = pure () := by intro _; with_unfolding_all rfl) :
    wpAny (model prog w) A (subscriptTail value slice (.ref l) (.ref s.heap.objs.size)) Q E { s with heap := s.heap.push { cls := .type "slice", data := .fields #[.none, .int y u, .none] } } := by
  refine slice_listK (lo := none) (hi := some y) ⟨_, (N _ hm).1, rfl, c, rfl⟩ .none (.int _ _) ?_ hs ht (by simp [sizeLine_eq]; omega)
  have e : slicePick vs.toArray none (some y) none = (vs.take y.toNat).toArray := by
    apply Array.toList_inj.mp
    rw [slicePick_plain]
    simp only [Option.elim, List.size_toArray, clipAt_in hx.1 hx.2]
    simp
  rw [e]
  have F' := (F.push { cls := .type "slice", data := .fields #[.none, .int y u, .none] })
  have N' := N.push F { cls := .type "slice", data := .fields #[.none, .int y u, .none] }
  have N'' := N'.push F' (listOf (vs.take y.toNat).toArray 0)
  have hz2 : (s.heap.push { cls := .type "slice", data := .fields #[.none, .int y u, .none] }).objs.size = s.heap.objs.size + 1 := Heap.size_push _ _
  rw [hz2] at N''
  refine h _ _ (F'.push _) (fun p hp => ?_) fun p hp => Nat.lt_succ_of_lt (Heap.lt_size (N p hp).1)
  rcases List.mem_cons.mp hp with rfl | hp
  · exact N'' _ (.head _)
  · exact N'' _ (.tail _ (.tail _ hp))
theorem datAll_rep {news : List (Addr × Obj)} : ∀ k : Nat, DatAll news (List.replicate k Value.none) (List.replicate k Dat.none)
  | 0 => .nil
  | k + 1 => .cons .none (datAll_rep k)
theorem datAll_ints {news : List (Addr × Obj)} : ∀ {vs : List Value} {ns : List Int}, PyProof.Rows.IntsAre vs ns → DatAll news vs (ns.map Dat.int)
  | _, _, .nil => .nil
  | _, _, .cons n t r => .cons (.int n t) (datAll_ints r)
def dayDats (p n : Int) : List Dat := List.replicate p.toNat Dat.none ++ (rangeKs 1 n.toNat).map Dat.int ++ List.replicate 7 Dat.none
def gridD (p n : Int) : List Dat := (List.range ((p + n + 6) / 7).toNat).map fun j => Dat.list (((dayDats p n).drop (j * 7)).take 7)
theorem datAll_days {vs : List Value} {p n : Int} (hi : PyProof.Rows.IntsAre vs (rangeKs 1 (1 + n - 1).toNat)) : DatAll [] (List.replicate p.toNat Value.none ++ vs ++ List.replicate (Int.toNat 7) Value.none) (dayDats p n) := by
  rw [show 1 + n - 1 = n by omega] at hi
  exact ((datAll_rep _).append (datAll_ints hi)).append (datAll_rep 7)
theorem size7 {b : Int} (hb : 0 ≤ b) : Builtin.Range.rangeSize 0 b 7 = (((b + 6) / 7).toNat : Int) := by
  rw [rangeSize_pos (by omega) hb]; omega
theorem small7 {b : Int} (hb : 0 ≤ b ∧ b < 1000) : Builtin.Range.small 0 b 7 = true := by
  have e := size7 hb.1
  unfold Builtin.Range.small
  rw [e]
  unfold Builtin.Range.rangeFitsLong
  simp
  refine ⟨?_, ?_⟩ <;> (try right) <;> omega
end
local macro_rules | `(tactic| walk_at "binaryOp Mult ref int") => `(tactic| (k_here; k_dflt (refine' rep_l ?F ?N ?m ?h ?_; (case F => k_asm); (case N => k_asm); (case m => k_mem); (case h => omega); k_whole); intro h' F' N' l1; (try k_lt l1); (try k_sweep)))
local macro_rules | `(tactic| walk_at "binaryOp Mult int ref") => `(tactic| (k_here; k_dflt (refine' rep_r ?F ?N ?m ?h ?_; (case F => k_asm); (case N => k_asm); (case m => k_mem); (case h => omega); k_whole); intro h' F' N' l1; (try k_lt l1); (try k_sweep)))
local macro_rules | `(tactic| walk_at "binaryOp Add ref ref") => `(tactic| (k_here; k_dflt (refine' cat_N ?F ?N ?l ?r ?z ?_; (case F => k_asm); (case N => k_asm); (case l => k_mem); (case r => k_mem); (case z => first | (simp only [List.length_append, List.length_replicate, List.length_cons, List.length_nil]; omega) | ((have hl9 := PyProof.Rows.IntsAre.length (by assumption)); simp only [rangeKs_length] at hl9; simp only [List.length_append, List.length_replicate, List.length_cons, List.length_nil]; omega)); k_whole); intro h' F' N' l1; (try k_lt l1); (try k_sweep)))
-- C5
local macro_rules | `(tactic| walk_at "eval ListComp") => `(tactic| (k_here; (with_reducible show wpAny _ _ (eval (PySem.Expr.ListComp (PySem.Expr.Subscript _ _ _) _ _ _) _) _ _ _); k_dflt (refine' ListComp_R ?F ?a ?b ?c ?d ?e ?_; (case F => k_asm); (case a => with_unfolding_all rfl); (case b => decide); (case c => rfl); (case d => decide); (case e => rfl))))
theorem c_helper (w : World) (sw n : Int) (t u : Tok) (hs : 0 ≤ sw ∧ sw < 7) (hn : 5 ≤ n ∧ n ≤ 31) : Ctr w 71 [.int sw t, .int n u] 2 16 (fun nw v => DatIn nw v (Dat.list (gridD ((sw + 1) % 7) n))) := by
  (w_top off; unfold Ctr; k_fill; intro loose mean mg mb dp un gd cn cs a0 ccd cl outer A0 base h0 L0 m0 news0 s0 Q0 E0 B0 F0 X0 N0 T0 hk0 hd0 hu0 hret; refine wpAny_call ?_; k_dflt (walk_at "MINE enter"); k_steps)
  unfold RngPost
  refine ⟨_, _, _, _, _, _, _, (((sw + 1) % 7 + n + 6) / 7).toNat, _, rfl, rfl, by k_asm, by k_asm, by assumption, small7 (by omega), size7 (by omega), by rw [sizeLine_eq]; omega, ?_⟩
  rintro s₂ ⟨h9, rfl⟩
  refine comp_key (row := fun j => Dat.list (((dayDats ((sw + 1) % 7) n).drop (j * 7)).take 7)) ?_ ?_
  · intro i t I oI C oC D ys nws m₂ h tk E' Qe hi hbase hN hm F9 N9 off ne hQ
    simp only [List.forall_mem_cons] at hbase
    obtain ⟨b1, b2, b3, b4, b5, b6, b7, b8, b9⟩ := hbase
    (k_fold)
    walk1
    k_dflt (refine' lcf_cell N9 ?c (.tail _ (.tail _ (.tail _ b8))) ?d ?_ ?a ?b; (case a => rfl); (case b => rfl); (case c => rfl); (case d => assumption))
    walk1
    walk1
    k_dflt (refine LCgL.ld_own N9 (.tail _ (.head _)) hN hm ?_)
    walk1
    walk1
    k_dflt (refine LCgL.ld_own N9 (.tail _ (.head _)) hN hm ?_)
    walk1
    walk1
    walk1
    have hI := PyProof.Rows.IntsAre.length (by assumption)
    rw [rangeKs_length] at hI
    refine slice_step F9 N9 (.tail _ (.tail _ (.tail _ b1))) rfl ⟨by omega, by simp only [List.length_append, List.length_replicate, hI]; omega⟩ (by simp only [List.length_append, List.length_replicate, hI]; omega) (fun D' h' F8 N8 l8 => ?_)
    refine LCg.CompEnd.intro F8 N8 ((D', _) :: nws) (by kcj_in) ?_ trivial (hQ _ [_] (DatIn.list (.head _) (DatAll.mono (fun _ hp => absurd hp List.not_mem_nil) ?_)))
    · exact And.intro ⟨Nat.ne_of_gt (l8 _ (.head _)), Nat.ne_of_gt (l8 _ (.tail _ (.head _))), Nat.ne_of_gt (l8 _ (.tail _ (.tail _ (.head _))))⟩ off
    rw [show (0 + (i : Int) * 7).toNat = i * 7 by omega]
    exact datAll_take 7 (datAll_drop _ (datAll_days (by assumption)))
  · intro ys nws hb hd
    unfold LCg.FinE
    intro D9 h9 tk9 F9 N9 o9
    k_steps
    refine hret _ _ ((D9, LCg.lst ys) :: nws) _ (by k_asm) ?_ ?_
    · simp only [List.forall_mem_cons] at hb
      obtain ⟨b1, b2, b3, b4, b5, b6, b7, b8, b9⟩ := hb
      exact cb_drop (news' := (D9, LCg.lst ys) :: nws) (by k_asm) (fun p hp => (List.mem_append.mp hp).elim id fun h => .tail _ (b9 p h))
    · exact DatIn.list (.head _) (DatAll.mono (fun _ h => .tail _ h) hd)
local macro_rules | `(tactic| walk_at "call ref") => `(tactic| (k_here; (with_reducible show wpAny _ _ (call (Value.ref 71) [Value.int _ _, Value.int _ _]) _ _ _); (k_dflt (refine' Ctr.use (c_helper _ _ _ _ _ (by omega) (by omega)) ?B ?F ?X ?N ?T ?hk ?h1 ?h2 ?_; (case B => k_asm); (case F => k_asm); (case X => k_asm); (case N => k_asm); (case T => k_asm); (case hk => first | exact rfl | assumption); (case h1 => ktr_room); (case h2 => ktr_units))); intro h' tk' nw v F' N' hgrid; (try k_sweep); (try k_fold)))
-- C6
def leafJd (k y m : Int) : Int := if k = 0 then jdg y m 1 else if k = 1 then jdj y m else if k = 2 then jdi y m else if k = 3 then jdc y m else if k = 4 then jdn y m else if k = 5 then jda y m else jds y m
def leafLen (k y m : Int) : Int := if k = 0 then glen y m else if k = 1 then glenJ y m else if k = 2 then glenI y m else if k = 3 then glenC y m else if k = 4 then glenN m else if k = 5 then glenA m else glenS y m
def months (k : Int) : Int := if k = 3 ∨ k = 5 ∨ k = 6 then 13 else 12
def leafOk (k y m : Int) : Prop := (0 ≤ k ∧ k < 7) ∧ (-12000000 < y ∧ y < 12000000) ∧ (1 ≤ m ∧ m ≤ 13) ∧ (k = 3 ∨ k = 5 ∨ k = 6 ∨ m ≤ 12) ∧ (k ≠ 4 ∨ 2 ≤ m) ∧ (k ≠ 5 ∨ 1 ≤ y) ∧ (k ≠ 6 ∨ 533 ≤ y)
theorem c_leaf (w : World) (k y m : Int) (t u v : Tok) (hok : leafOk k y m) : Ctr w 628 [.int k v, .int y t, .int m u] 8 64 (fun nw v => DatIn nw v (Dat.list (gridD ((leafJd k y m % 7 + 1) % 7) (leafLen k y m)))) := by
  obtain ⟨h1, h2, h3, h4, h5, h6, h7⟩ := hok
  have hk : k = 0 ∨ k = 1 ∨ k = 2 ∨ k = 3 ∨ k = 4 ∨ k = 5 ∨ k = 6 := by omega
  rcases hk with hk | hk | hk | hk | hk | hk | hk <;> subst hk
  all_goals (w_top off; unfold Ctr; k_fill; intro loose mean mg mb dp un gd cn cs a0 ccd cl outer A0 base h0 L0 m0 news0 s0 Q0 E0 B0 F0 X0 N0 T0 hk0 hd0 hu0 hret; refine wpAny_call ?_; k_dflt (walk_at "MINE enter"); k_steps)
  all_goals (refine hret _ _ _ _ (by k_asm) ?_ (by assumption); exact cb_drop (by assumption) (by kcj_in))
local macro_rules | `(tactic| walk_at "call ref") => `(tactic| (k_here; (with_reducible show wpAny _ _ (call (Value.ref 628) [Value.int _ _, Value.int _ _, Value.int _ _]) _ _ _); (k_dflt (refine' Ctr.use (c_leaf _ _ _ _ _ _ _ (by assumption)) ?B ?F ?X ?N ?T ?hk ?h1 ?h2 ?_; (case B => k_asm); (case F => k_asm); (case X => k_asm); (case N => k_asm); (case T => k_asm); (case hk => first | exact rfl | assumption); (case h1 => ktr_room); (case h2 => ktr_units))); intro h' tk' nw v F' N' hgrid; (try k_sweep); (try k_fold)))
theorem leafLen_bd (k y m : Int) : 5 ≤ leafLen k y m ∧ leafLen k y m ≤ 31 := by
  unfold leafLen
  have a := glen_bd y m; have b := glenJ_bd y m; have c := glenI_bd y m; have d := glenC_bd y m; have e := glenN_bd m; have f := glenA_bd m; have g := glenS_bd y m
  (repeat' split) <;> assumption
theorem c_length (w : World) (k y m : Int) (t u v : Tok) (hok : leafOk k y m) : Ctr w 621 [.int k v, .int y t, .int m u] 8 64 (fun nw v => (5 ≤ leafLen k y m ∧ leafLen k y m ≤ 31) ∧ ∃ t, v = .int (leafLen k y m) t) := by
  obtain ⟨h1, h2, h3, h4, h5, h6, h7⟩ := hok
  have hk : k = 0 ∨ k = 1 ∨ k = 2 ∨ k = 3 ∨ k = 4 ∨ k = 5 ∨ k = 6 := by omega
  rcases hk with hk | hk | hk | hk | hk | hk | hk <;> subst hk
  all_goals (w_top off; unfold Ctr; k_fill; intro loose mean mg mb dp un gd cn cs a0 ccd cl outer A0 base h0 L0 m0 news0 s0 Q0 E0 B0 F0 X0 N0 T0 hk0 hd0 hu0 hret; refine wpAny_call ?_; k_dflt (walk_at "MINE enter"); k_steps)
  all_goals ((refine' ctr_int hret ?ce ?cF ?cN ?cS ?cP; (case cF => k_asm); (case cN => k_asm); (case cS => kcj_in); (case cP => (exact leafLen_bd _ _ _)); (case ce => (rfl))))
local macro_rules | `(tactic| walk_at "call ref") => `(tactic| (k_here; (with_reducible show wpAny _ _ (call (Value.ref 621) [Value.int _ _, Value.int _ _, Value.int _ _]) _ _ _); (k_dflt (refine' Ctr.use (c_length _ _ _ _ _ _ _ (by assumption)) ?B ?F ?X ?N ?T ?hk ?h1 ?h2 ?_; (case B => k_asm); (case F => k_asm); (case X => k_asm); (case N => k_asm); (case T => k_asm); (case hk => first | exact rfl | assumption); (case h1 => ktr_room); (case h2 => ktr_units))); intro h' tk' nw v F' N' hp; obtain ⟨hb', t', he2⟩ := hp; subst he2; (try k_sweep); (try k_fold)))
-- C7
def jan (y : Int) : Int := 2451545 + 146097 * ((y - 2000) / 400) + 365 * ((y - 2000) % 400) + ((y - 2000) % 400 + 3) / 4 - (if 0 < (y - 2000) % 400 - 1 then (y - 2000) % 400 - 1 else 0) / 100
theorem jan_bd {y : Int} (hy : -20000000 < y ∧ y < 20000000) : -(2 ^ 34) < jan y ∧ jan y < 2 ^ 34 := by unfold jan; split <;> omega
theorem c_jan (w : World) (y : Int) (t : Tok) (hy : -20000000 < y ∧ y < 20000000) : Ctr w 609 [.int y t] 1 8 (fun nw v => (-(2 ^ 34) < jan y ∧ jan y < 2 ^ 34) ∧ ∃ t, v = .int (jan y) t) := by
  (w_top off; unfold Ctr; k_fill; intro loose mean mg mb dp un gd cn cs a0 ccd cl outer A0 base h0 L0 m0 news0 s0 Q0 E0 B0 F0 X0 N0 T0 hk0 hd0 hu0 hret; refine wpAny_call ?_; k_dflt (walk_at "MINE enter"); k_steps)
  all_goals ((refine' ctr_int hret ?ce ?cF ?cN ?cS ?cP; (case cF => k_asm); (case cN => k_asm); (case cS => kcj_in); (case cP => (exact jan_bd (by assumption))); (case ce => (rfl))))
local macro_rules | `(tactic| walk_at "call ref") => `(tactic| (k_here; (with_reducible show wpAny _ _ (call (Value.ref 609) [Value.int _ _]) _ _ _); (k_dflt (refine' Ctr.use (c_jan _ _ _ (by omega)) ?B ?F ?X ?N ?T ?hk ?h1 ?h2 ?_; (case B => k_asm); (case F => k_asm); (case X => k_asm); (case N => k_asm); (case T => k_asm); (case hk => first | exact rfl | assumption); (case h1 => ktr_room); (case h2 => ktr_units))); intro h' tk' nw v F' N' hp; obtain ⟨hb', t', he2⟩ := hp; subst he2; (try k_sweep); (try k_fold)))
def moonYears : List Int := [2, 5, 7, 10, 13, 16, 18, 21, 24, 26, 29]
def lawFirst (k y : Int) : Int :=
  if k = 0 then jan y
  else if k = 1 then 1461 * ((y + 4712) / 4) + 365 * ((y + 4712) % 4) + (if (y + 4712) % 4 > 0 then 1 else 0)
  else if k = 2 then 1948440 + 10631 * ((y - 1) / 30) + 354 * ((y - 1) % 30) + ((moonYears.filter fun z => decide (z ≤ (y - 1) % 30)).length : Int)
  else if k = 3 then 1825030 + 1461 * ((y - 1) / 4) + 365 * ((y - 1) % 4) + (if (y - 1) % 4 = 3 then 1 else 0)
  else if k = 4 then jan (y + 78) + 80
  else if k = 5 then 1922868 + 365 * (y - 1)
  else 2117212 + 1461 * ((y - 533) / 4) + 365 * ((y - 533) % 4)
def lawLens (k y : Int) : List Int :=
  if k = 0 then [31, jan (y + 1) - jan y - 337, 31, 30, 31, 30, 31, 31, 30, 31, 30, 31]
  else if k = 1 then [31, if (y + 4712) % 4 = 0 then 29 else 28, 31, 30, 31, 30, 31, 31, 30, 31, 30, 31]
  else if k = 2 then [30, 29, 30, 29, 30, 29, 30, 29, 30, 29, 30, if (y - 1) % 30 + 1 ∈ moonYears then 30 else 29]
  else if k = 3 then [30, 30, 30, 30, 30, 30, 30, 30, 30, 30, 30, 30, if (y - 1) % 4 = 2 then 6 else 5]
  else if k = 4 then [jan (y + 79) - jan (y + 78) - 335, 31, 31, 31, 31, 31, 30, 30, 30, 30, 30, 30]
  else if k = 5 then [30, 30, 30, 30, 30, 30, 30, 30, 30, 30, 30, 30, 5]
  else [30, 30, 30, 30, 30, 30, 30, 30, 30, 30, 30, 30, if (y - 533) % 4 = 3 then 6 else 5]
abbrev YearPost (k y : Int) (nw : List (Addr × Obj)) (v : Value) : Prop := ∃ t l vs tk n1 n2, v = .ref t ∧ (t, ({ cls := .type "tuple", data := .seq #[.int (lawFirst k y) tk, .ref l] n1 } : Obj)) ∈ nw ∧ (l, listOf vs.toArray n2) ∈ nw ∧ PyProof.Rows.IntsAre vs (lawLens k y)
theorem ctr_year {h₀ h' : Heap} {L : Addr} {m : Str → Option Value} {news news' : List (Addr × Obj)} {s : Shared} {Q : Value → Shared → Prop} {k y x : Int} {t l : Addr} {vs : List Value} {tk : Tok} {n1 n2 tk' : Nat} {ns : List Int}
    (hret : ∀ (h' : Heap) (tk' : Nat) (nw : List (Addr × Obj)) (v : Value), Fr h₀ L h' m → News h₀ L h' (nw ++ news) → YearPost k y nw v → Q v { s with heap := h', toks := tk' })
    (F : Fr h₀ L h' m) (N : News h₀ L h' ((t, { cls := .type "tuple", data := .seq #[.int x tk, .ref l] n1 }) :: (l, listOf vs.toArray n2) :: news')) (hs : ∀ p ∈ news, p ∈ (t, ({ cls := .type "tuple", data := .seq #[.int x tk, .ref l] n1 } : Obj)) :: (l, listOf vs.toArray n2) :: news')
    (hi : PyProof.Rows.IntsAre vs ns) (e1 : x = lawFirst k y) (e2 : ns = lawLens k y) : Q (.ref t) { s with heap := h', toks := tk' } := by
  subst e1 e2
  refine hret h' tk' [(t, _), (l, _)] _ F (fun p hp => N p ?_) ⟨t, l, vs, tk, n1, n2, rfl, .head _, .tail _ (.head _), hi⟩
  rcases List.mem_cons.mp hp with rfl | hp
  · exact .head _
  · rcases List.mem_cons.mp hp with rfl | hp
    · exact .tail _ (.head _)
    · exact hs p hp
theorem lf0 {y : Int} : jan y = lawFirst 0 y := by simp [lawFirst]
theorem lf1a {y : Int} (h : 0 < (y + 4712) % 4) : 1461 * ((y + 4712) / 4) + 365 * ((y + 4712) % 4) + 1 = lawFirst 1 y := by simp [lawFirst, h]
theorem lf1b {y : Int} (h : ¬ 0 < (y + 4712) % 4) : 1461 * ((y + 4712) / 4) + 365 * ((y + 4712) % 4) + 0 = lawFirst 1 y := by simp [lawFirst, h]
theorem lf2 {y : Int} : 1948440 + 10631 * ((y - 1) / 30) + 354 * ((y - 1) % 30) + ((List.filter (fun z => decide (z ≤ (y - 1) % 30)) moonYears).length : Int) = lawFirst 2 y := by simp [lawFirst]
theorem lf3a {y : Int} (h : (y - 1) % 4 = 3) : 1825030 + 1461 * ((y - 1) / 4) + 365 * ((y - 1) % 4) + 1 = lawFirst 3 y := by simp [lawFirst, h]
theorem lf3b {y : Int} (h : (y - 1) % 4 ≠ 3) : 1825030 + 1461 * ((y - 1) / 4) + 365 * ((y - 1) % 4) + 0 = lawFirst 3 y := by simp [lawFirst, h]
theorem lf4 {y : Int} : jan (y + 78) + 80 = lawFirst 4 y := by simp [lawFirst]
theorem lf5 {y : Int} : 1922868 + 365 * (y - 1) = lawFirst 5 y := by simp [lawFirst]
theorem lf6 {y : Int} : 2117212 + 1461 * ((y - 533) / 4) + 365 * ((y - 533) % 4) = lawFirst 6 y := by simp [lawFirst]
theorem ll0 {y : Int} : [31, jan (y + 1) - jan y - 337, 31, 30, 31, 30, 31, 31, 30, 31, 30, 31] = lawLens 0 y := by simp [lawLens]
theorem ll1a {y : Int} (h : (y + 4712) % 4 = 0) : [31, 29, 31, 30, 31, 30, 31, 31, 30, 31, 30, 31] = lawLens 1 y := by simp [lawLens, h]
theorem ll1b {y : Int} (h : (y + 4712) % 4 ≠ 0) : [31, 28, 31, 30, 31, 30, 31, 31, 30, 31, 30, 31] = lawLens 1 y := by simp [lawLens, h]
theorem ll2a {y : Int} (h : (([2, 5, 7, 10, 13, 16, 18, 21, 24, 26, 29] : List Int).any fun x => x == (y - 1) % 30 + 1) = true) : [30, 29, 30, 29, 30, 29, 30, 29, 30, 29, 30, 30] = lawLens 2 y := by
  rw [any_mem] at h
  have h' : (y - 1) % 30 + 1 ∈ moonYears := of_decide_eq_true h
  simp [lawLens, h']
theorem ll2b {y : Int} (h : (([2, 5, 7, 10, 13, 16, 18, 21, 24, 26, 29] : List Int).any fun x => x == (y - 1) % 30 + 1) = false) : [30, 29, 30, 29, 30, 29, 30, 29, 30, 29, 30, 29] = lawLens 2 y := by
  rw [any_mem] at h
  have h' : ¬ (y - 1) % 30 + 1 ∈ moonYears := of_decide_eq_false h
  simp [lawLens, h']
theorem ll3a {y : Int} (h : (y - 1) % 4 = 2) : [30, 30, 30, 30, 30, 30, 30, 30, 30, 30, 30, 30, 6] = lawLens 3 y := by simp [lawLens, h]
theorem ll3b {y : Int} (h : (y - 1) % 4 ≠ 2) : [30, 30, 30, 30, 30, 30, 30, 30, 30, 30, 30, 30, 5] = lawLens 3 y := by simp [lawLens, h]
theorem ll4 {y : Int} : [jan (y + 79) - jan (y + 78) - 335, 31, 31, 31, 31, 31, 30, 30, 30, 30, 30, 30] = lawLens 4 y := by simp [lawLens]
theorem ll5 {y : Int} : [30, 30, 30, 30, 30, 30, 30, 30, 30, 30, 30, 30, 5] = lawLens 5 y := by simp [lawLens]
theorem ll6a {y : Int} (h : (y - 533) % 4 = 3) : [30, 30, 30, 30, 30, 30, 30, 30, 30, 30, 30, 30, 6] = lawLens 6 y := by simp [lawLens, h]
theorem ll6b {y : Int} (h : (y - 533) % 4 ≠ 3) : [30, 30, 30, 30, 30, 30, 30, 30, 30, 30, 30, 30, 5] = lawLens 6 y := by simp [lawLens, h]
local macro_rules | `(tactic| walk_at "call builtin:len") => `(tactic| (k_here; k_dflt (refine' len_ints ?N ?m ?i ?z ?_; (case N => k_asm); (case m => k_mem); (case i => assumption); (case z => first | exact Nat.lt_of_le_of_lt (List.length_filter_le _ _) (by decide) | omega); k_whole)))
local macro_rules | `(tactic| walk_at "eval ListComp") => `(tactic| (k_here; (with_reducible show wpAny _ _ (eval (PySem.Expr.ListComp (PySem.Expr.Name _ _) _ _ _) _) _ _ _); k_dflt (refine' ListComp_F ?F ?a ?b ?c ?d ?e ?_; (case F => k_asm); (case a => with_unfolding_all rfl); (case b => decide); (case c => rfl); (case d => decide); (case e => rfl))))
theorem c_year2 (w : World) (y : Int) (t u : Tok) (hy : -12000000 < y ∧ y < 12000000) : Ctr w 614 [.int 2 u, .int y t] 3 24 (YearPost 2 y) := by
  (w_top off; unfold Ctr; k_fill; intro loose mean mg mb dp un gd cn cs a0 ccd cl outer A0 base h0 L0 m0 news0 s0 Q0 E0 B0 F0 X0 N0 T0 hk0 hd0 hu0 hret; refine wpAny_call ?_; k_dflt (walk_at "MINE enter"); k_steps)
  unfold RngPost
  refine LCt.CompSrcT.ledger rfl (by k_asm) (by k_asm) (.head _) (by rw [sizeLine_eq]; show (11 : Nat) ≤ _; omega) fun g9 => compT_key (pz := fun z => decide (z ≤ (y - 1) % 30)) (ns := moonYears) ?hi (.head _) ?test (fun _ => rfl) (fun _ => rfl) rfl ?fin
  case hi => unfold moonYears; repeat constructor
  case test =>
    intro z t I oI C oC D ys nws m₂ h tk E' Qt hbase hN hm F9 N9 hQ
    simp only [List.forall_mem_cons] at hbase
    obtain ⟨b1, b2, b3, b4⟩ := hbase
    refine wpAny_isTrue_Compare1 ?_
    k_dflt (refine LCgL.ld_own N9 (.tail _ (.head _)) hN hm ?_)
    k_dflt (refine' lcf_cell N9 ?c (.tail _ (.tail _ (.tail _ b3))) ?d ?_ ?a ?b; (case a => rfl); (case b => rfl); (case c => rfl); (case d => assumption))
    refine le_int ?_
    refine wpAny_truthy_bool ?_
    exact hQ _
  case fin =>
    intro ys nws hbase hI9
    unfold LCg.FinE
    intro D9 h9 tk9 F9 N9 o9
    replace N9 := cb_drop N9 (List.forall_mem_cons.mpr ⟨.head _, fun p h => List.mem_cons_of_mem _ (hbase p h)⟩)
    clear hbase o9
    k_steps
    all_goals (refine' ctr_year hret ?F ?N ?hs ?hi ?e1 ?e2; (case F => k_asm); (case N => k_asm); (case hs => kcj_in); (case hi => repeat constructor); (case e1 => first | exact lf0 | exact lf1a (by assumption) | exact lf1b (by assumption) | exact lf2 | exact lf3a (by assumption) | exact lf3b (by assumption) | exact lf4 | exact lf5 | exact lf6); (case e2 => first | exact ll0 | exact ll1a (by assumption) | exact ll1b (by assumption) | exact ll2a (by assumption) | exact ll2b (by assumption) | exact ll3a (by assumption) | exact ll3b (by assumption) | exact ll4 | exact ll5 | exact ll6a (by assumption) | exact ll6b (by assumption)))
theorem c_year (w : World) (k y : Int) (t u : Tok) (hk : 0 ≤ k ∧ k < 7) (hy : -12000000 < y ∧ y < 12000000) : Ctr w 614 [.int k u, .int y t] 3 24 (YearPost k y) := by
  have hk : k = 0 ∨ k = 1 ∨ k = 2 ∨ k = 3 ∨ k = 4 ∨ k = 5 ∨ k = 6 := by omega
  rcases hk with hk | hk | hk | hk | hk | hk | hk <;> subst hk
  rotate_left 2
  · exact c_year2 w y t u hy
  all_goals (w_top off; unfold Ctr; k_fill; intro loose mean mg mb dp un gd cn cs a0 ccd cl outer A0 base h0 L0 m0 news0 s0 Q0 E0 B0 F0 X0 N0 T0 hk0 hd0 hu0 hret; refine wpAny_call ?_; k_dflt (walk_at "MINE enter"); k_steps)
  all_goals (refine' ctr_year hret ?F ?N ?hs ?hi ?e1 ?e2; (case F => k_asm); (case N => k_asm); (case hs => kcj_in); (case hi => repeat constructor); (case e1 => first | exact lf0 | exact lf1a (by assumption) | exact lf1b (by assumption) | exact lf2 | exact lf3a (by assumption) | exact lf3b (by assumption) | exact lf4 | exact lf5 | exact lf6); (case e2 => first | exact ll0 | exact ll1a (by assumption) | exact ll1b (by assumption) | exact ll2a (by assumption) | exact ll2b (by assumption) | exact ll3a (by assumption) | exact ll3b (by assumption) | exact ll4 | exact ll5 | exact ll6a (by assumption) | exact ll6b (by assumption)))
-- LRows
section
variable {prog : Program} {w : World} {A : Around} {E : Value → Shared → Prop} {s : Shared} {h₀ : Heap} {L D : Addr} {m : Str → Option Value} {news news' : List (Addr × Obj)} {env : Env} {x : Str} {body : List Stmt}

theorem range_G {r : Addr} {a₀ b₀ : Int} {t₀ u₀ v₀ : Tok} {n : Nat} {m₀ : Str → Option Value} {Q : Flow → Shared → Prop} (J : Nat → (Str → Option Value) → List (Addr × Obj) → Prop)
    (hh : A.handled = none) (hr : IsRange s.heap r a₀ b₀ 1 t₀ u₀ v₀) (hsmall : Builtin.Range.small a₀ b₀ 1 = true) (hsz : Builtin.Range.rangeSize a₀ b₀ 1 = (n : Int)) (F : Fr h₀ env.locals s.heap m₀) (N : News h₀ env.locals s.heap news) (hj : J 0 m₀ news)
    (turn : ∀ (i : Nat) (t : Tok) (m₁ : Str → Option Value) (nx : List (Addr × Obj)) (h : Heap) (tk : Nat) (own : List (Addr × Obj)), i < n → OwnOff own (nx.map (·.1)) → J i m₁ nx → Fr h₀ env.locals h (fun y => if y = x then some (.int (a₀ + (i : Int)) t) else m₁ y) → News h₀ env.locals h (nx ++ own) →
      wpAny (model prog w) A (execs body env) (InvPostG h₀ env.locals (J (i + 1)) own { s with heap := h, toks := tk } Q) E { s with heap := h, toks := tk })
    (done : ∀ m₁ nx h tk, J n m₁ nx → Fr h₀ env.locals h m₁ → News h₀ env.locals h nx → Q .next { s with heap := h, toks := tk }) :
    wpAny (model prog w) A (pyIter (.ref r)) (fun it s₂ => LoopAtV prog w A h₀ env x body Q E it s₂) E s := by
  refine wpAny_pyIter_range hr hsmall ?_
  have W : Walks prog w A s.heap.objs.size [s.heap.objs.size] [s.heap.objs.size] n (fun i v => i < n ∧ ∃ t, v = .int (a₀ + i * 1) t)
      (fun i h => IsRangeIter h s.heap.objs.size (a₀ + (i : Nat) * 1) ((n : Int) - (i : Nat)) 1) := (Walks.range hh _ a₀ 1 n).bound
  refine kdr_loop J W (fun _ h => h) (fun _ h => h) ?_ ?_ ?_ ?_ (by show IsRangeIter _ _ _ _ _; rw [hsz]; simpa using Heap.get?_push_size _ rfl) (F.push _) (fun p hp => ⟨Heap.get?_push_of_some _ (N p hp).1, (N p hp).2⟩) hj ?_ done
  · intro i h hi b hb
    rw [List.mem_singleton.mp hb]
    exact ⟨_, hi⟩
  · intro hm
    exact absurd F.ns.lt ((List.mem_singleton.mp hm) ▸ Nat.lt_irrefl _)
  · intro b hb
    rw [List.mem_singleton.mp hb]
    exact next_is_new F
  · intro p hp hI
    exact absurd (Heap.lt_size (N p hp).1) ((List.mem_singleton.mp hI) ▸ Nat.lt_irrefl _)
  · rintro i v m₁ nx h tk own hi ⟨_, t, rfl⟩ hoff hJ F₁ N₁
    have e1 : a₀ + (i : Int) * 1 = a₀ + (i : Int) := by omega
    rw [e1] at F₁
    exact turn i t m₁ nx h tk own hi hoff hJ F₁ N₁
theorem set_U {vs : List Value} {n : Nat} {k : Int} {t : Tok} {x : Value} {Q : Unit → Shared → Prop} (F : Fr h₀ L s.heap m) (N : News h₀ L s.heap news) (U : Upd D (listOf vs.toArray n) (listOf (vs.set k.toNat x).toArray n) news news') (h0 : 0 ≤ k ∧ k < (vs.length : Int)) (hz : vs.length < 1000)
    (h : ∀ h', Fr h₀ L h' m → News h₀ L h' news' → Q () { s with heap := h' }) : wpAny (model prog w) A (setItem (.ref D) (.int k t) x) Q E s := by
  obtain ⟨pre, post, rfl, rfl, a, b⟩ := U.split
  have z := N (D, listOf vs.toArray n) (List.mem_append.mpr (.inr (.head _)))
  have hs : vs.toArray.size = vs.length := List.size_toArray
  refine ki_setAt z.1 h0.1 (by omega) (by omega) (h _ (F.change (Heap.SameBut.update ..) z.2.1 z.2.2) (ki_turn _ N a b ?_ ?_))
  · show vs.toArray.setIfInBounds k.toNat x = (vs.set k.toNat x).toArray
    apply Array.toList_inj.mp
    simp
  · simp
theorem app_U {vs : List Value} {n : Nat} {x : Value} {Q : Value → Shared → Prop} (F : Fr h₀ L s.heap m) (N : News h₀ L s.heap news) (U : Upd D (listOf vs.toArray n) (listOf (vs ++ [x]).toArray (n + 1)) news news') (hz : vs.length < 1000)
    (h : ∀ h', Fr h₀ L h' m → News h₀ L h' news' → Q .none { s with heap := h' }) : wpAny (model prog w) A (call (.builtin "list.append") [.ref D, x]) Q E s := by
  have e : (listOf (vs ++ [x]).toArray (n + 1)) = listOf (vs.toArray.push x) (n + 1) := by simp
  rw [e] at U
  exact append_K F N U h (by simp [sizeLine_eq]; omega)
open Classical in
theorem ne_same {v u : Value} {ds : List Dat} {n₁ n₂ : List (Addr × Obj)} {Q : Value → Shared → Prop} (N : News h₀ L s.heap news) (hv : DatIn n₁ v (Dat.list ds)) (s1 : ∀ p ∈ n₁, p ∈ news) (hw : DatIn n₂ u (Dat.list ds)) (s2 : ∀ p ∈ n₂, p ∈ news)
    (hok : ∀ d ∈ ds, kqdOk 8 d = true) (hu : A.units + 64 < cLine) (h : Q (.bool false) s) : wpAny (model prog w) A (compareOp .NotEq v u) Q E s := by
  cases hv with
  | list m1 d1 =>
    cases hw with
    | list m2 d2 => exact kqd_ne N (s1 _ m1) rfl rfl d1 s1 (s2 _ m2) rfl rfl d2 s2 hok hok hu (by rw [decide_eq_true rfl]; exact h)
end
theorem datAll_set {news : List (Addr × Obj)} {v : Value} {d : Dat} (h : DatIn news v d) : ∀ (k : Nat) {vs : List Value} {ds : List Dat}, DatAll news vs ds → DatAll news (vs.set k v) (ds.set k d)
  | _, _, _, .nil => .nil
  | 0, _, _, .cons _ r => .cons h r
  | k + 1, _, _, .cons a r => .cons a (datAll_set h k r)

/- the rows as the law fills them -/
def stepRow (num n : Int) (st : List Dat × List Dat) (d : Int) : List Dat × List Dat :=
  if (num + d) % 7 = 6 ∨ d = n then (st.1 ++ [Dat.list (st.2.set ((num + d) % 7).toNat (Dat.int d))], List.replicate 7 Dat.none)
  else (st.1, st.2.set ((num + d) % 7).toNat (Dat.int d))
def loopRows (num n : Int) (i : Nat) : List Dat × List Dat := (rangeKs 1 i).foldl (stepRow num n) ([], List.replicate 7 Dat.none)
theorem loopRows_succ (num n : Int) (i : Nat) : loopRows num n (i + 1) = stepRow num n (loopRows num n i) (1 + (i : Int)) := by
  unfold loopRows
  rw [show rangeKs 1 (i + 1) = rangeKs 1 i ++ [1 + (i : Int)] by simp [rangeKs, List.range_succ], List.foldl_append]
  rfl
theorem stepRow_mod (num n : Int) : stepRow num n = stepRow (num % 7) n := by
  funext st d
  unfold stepRow
  rw [show (num + d) % 7 = (num % 7 + d) % 7 by omega]
theorem loopRows_mod (num n : Int) (i : Nat) : loopRows num n i = loopRows (num % 7) n i := by unfold loopRows; rw [stepRow_mod]
def flatB : Dat → Dat → Bool
  | .none, .none => true
  | .int i, .int j => i == j
  | _, _ => false
def rowB : List Dat → List Dat → Bool
  | [], [] => true
  | a :: as, b :: bs => flatB a b && rowB as bs
  | _, _ => false
def gridB : List Dat → List Dat → Bool
  | [], [] => true
  | .list a :: as, .list b :: bs => rowB a b && gridB as bs
  | _, _ => false
theorem flatB_eq : ∀ {a b : Dat}, flatB a b = true → a = b := by
  intro a b h
  cases a <;> cases b <;> simp [flatB] at h ⊢
  exact h
theorem rowB_eq : ∀ {a b : List Dat}, rowB a b = true → a = b
  | [], [], _ => rfl
  | a :: as, b :: bs, h => by
    simp only [rowB, Bool.and_eq_true] at h
    rw [flatB_eq h.1, rowB_eq h.2]
  | [], _ :: _, h => by simp [rowB] at h
  | _ :: _, [], h => by simp [rowB] at h
theorem gridB_eq : ∀ {a b : List Dat}, gridB a b = true → a = b
  | [], [], _ => rfl
  | a :: as, b :: bs, h => by
    cases a <;> cases b <;> simp [gridB] at h
    rw [rowB_eq h.1, gridB_eq h.2]
  | [], _ :: _, h => by simp [gridB] at h
  | a :: _, [], h => by cases a <;> simp [gridB] at h
theorem grid_all : ((List.range 7).all fun r => (List.range 27).all fun k => gridB (loopRows (r : Int) ((k : Int) + 5) (k + 5)).1 (gridD (((r : Int) + 1) % 7) ((k : Int) + 5))) = true := by decide +kernel
theorem grid_eq {num n : Int} (hn : 5 ≤ n ∧ n ≤ 31) : (loopRows num n n.toNat).1 = gridD ((num % 7 + 1) % 7) n := by
  have h1 := List.all_eq_true.mp grid_all (num % 7).toNat (List.mem_range.mpr (by omega))
  have h2 := List.all_eq_true.mp h1 (n - 5).toNat (List.mem_range.mpr (by omega))
  rw [show (((num % 7).toNat : Nat) : Int) = num % 7 by omega, show (((n - 5).toNat : Nat) : Int) + 5 = n by omega, show (n - 5).toNat + 5 = n.toNat by omega] at h2
  rw [loopRows_mod]
  exact gridB_eq h2
theorem grid_ok (p n : Int) : ∀ d ∈ gridD p n, kqdOk 8 d = true := by
  intro d hd
  obtain ⟨j, _, rfl⟩ := List.mem_map.mp hd
  simp only [kqdOk, List.all_eq_true]
  intro e he
  have he' : e ∈ dayDats p n := List.mem_of_mem_drop (List.mem_of_mem_take he)
  unfold dayDats at he'
  rcases List.mem_append.mp he' with he' | he'
  · rcases List.mem_append.mp he' with he' | he'
    · rw [(List.mem_replicate.mp he').2]; rfl
    · obtain ⟨z, _, rfl⟩ := List.mem_map.mp he'; rfl
  · rw [(List.mem_replicate.mp he').2]; rfl
-- PLaw
theorem janA (y : Int) : jan y = 1721426 + 365 * (y - 1) + (y - 1) / 4 - (y - 1) / 100 + (y - 1) / 400 := by
  unfold jan
  have h1 : y = 2000 + 400 * ((y - 2000) / 400) + (y - 2000) % 400 := by omega
  have h2 : 0 ≤ (y - 2000) % 400 ∧ (y - 2000) % 400 < 400 := by omega
  generalize (y - 2000) / 400 = q at *
  generalize (y - 2000) % 400 = r at *
  subst h1
  have e1 : (2000 + 400 * q + r - 1) / 4 = 100 * q + (1999 + r) / 4 := by omega
  have e2 : (2000 + 400 * q + r - 1) / 100 = 4 * q + (1999 + r) / 100 := by omega
  have e3 : (2000 + 400 * q + r - 1) / 400 = q + (1999 + r) / 400 := by omega
  rw [e1, e2, e3]
  split <;> omega
theorem leap_iff (y : Int) : isLeap y = true ↔ (y % 4 = 0 ∧ (y % 100 ≠ 0 ∨ y % 400 = 0)) := by simp [isLeap]
theorem janB (y : Int) : jan (y + 1) - jan y = if isLeap y = true then 366 else 365 := by
  rw [janA, janA]
  split
  · rename_i h
    rw [leap_iff] at h
    omega
  · rename_i h
    rw [leap_iff] at h
    omega
theorem moon_count {r : Int} (h : 0 ≤ r ∧ r < 30) : ((moonYears.filter fun z => decide (z ≤ r)).length : Int) = (14 + 11 * r) / 30 := by
  have all : ((List.range 30).all fun k => ((moonYears.filter fun z => decide (z ≤ (k : Int))).length : Int) == (14 + 11 * (k : Int)) / 30) = true := by decide +kernel
  have := List.all_eq_true.mp all r.toNat (List.mem_range.mpr (by omega))
  rw [show ((r.toNat : Nat) : Int) = r by omega] at this
  simpa using this
theorem moon_leap {r : Int} (h : 0 ≤ r ∧ r < 30) : (r + 1 ∈ moonYears) ↔ ((r + 1) * 11 + 14) % 30 < 11 := by
  have all : ((List.range 30).all fun k => decide (((k : Int) + 1 ∈ moonYears) ↔ (((k : Int) + 1) * 11 + 14) % 30 < 11)) = true := by decide +kernel
  have := List.all_eq_true.mp all r.toNat (List.mem_range.mpr (by omega))
  rw [show ((r.toNat : Nat) : Int) = r by omega] at this
  exact of_decide_eq_true this
theorem twelve {i : Int} (h : 0 ≤ i ∧ i < 12) : i = 0 ∨ i = 1 ∨ i = 2 ∨ i = 3 ∨ i = 4 ∨ i = 5 ∨ i = 6 ∨ i = 7 ∨ i = 8 ∨ i = 9 ∨ i = 10 ∨ i = 11 := by omega
theorem thirteen {i : Int} (h : 0 ≤ i ∧ i < 13) : i = 0 ∨ i = 1 ∨ i = 2 ∨ i = 3 ∨ i = 4 ∨ i = 5 ∨ i = 6 ∨ i = 7 ∨ i = 8 ∨ i = 9 ∨ i = 10 ∨ i = 11 ∨ i = 12 := by omega
theorem p0 {y i : Int} (h : 0 ≤ i ∧ i < 12) : jdg y (i + 1) 1 = jan y + (List.take i.toNat [31, jan (y + 1) - jan y - 337, 31, 30, 31, 30, 31, 31, 30, 31, 30, 31]).sum := by
  rw [janB]
  have hA := janA y
  rcases twelve h with h | h | h | h | h | h | h | h | h | h | h | h <;> subst h <;> (simp [jdg]; (repeat' split) <;> omega)
theorem l0 {y i : Int} (h : 0 ≤ i ∧ i < 12) : glen y (i + 1) = [31, jan (y + 1) - jan y - 337, 31, 30, 31, 30, 31, 31, 30, 31, 30, 31].getD i.toNat 0 := by
  rw [janB]
  rcases twelve h with h | h | h | h | h | h | h | h | h | h | h | h <;> subst h <;> (simp [glen] <;> (repeat' split) <;> omega)
theorem p1 {y i : Int} (h : 0 ≤ i ∧ i < 12) : jdj y (i + 1) = lawFirst 1 y + ((lawLens 1 y).take i.toNat).sum := by
  simp only [lawFirst, lawLens]
  rcases twelve h with h | h | h | h | h | h | h | h | h | h | h | h <;> subst h <;> (simp [jdj]; (repeat' split) <;> omega)
theorem l1 {y i : Int} (h : 0 ≤ i ∧ i < 12) : glenJ y (i + 1) = (lawLens 1 y).getD i.toNat 0 := by
  simp only [lawLens]
  rcases twelve h with h | h | h | h | h | h | h | h | h | h | h | h <;> subst h <;> (simp [glenJ] <;> (repeat' split) <;> omega)
theorem p2 {y i : Int} (h : 0 ≤ i ∧ i < 12) : jdi y (i + 1) = lawFirst 2 y + ((lawLens 2 y).take i.toNat).sum := by
  have hc := moon_count (r := (y - 1) % 30) (by omega)
  have hf : lawFirst 2 y = 1948440 + 10631 * ((y - 1) / 30) + 354 * ((y - 1) % 30) + (14 + 11 * ((y - 1) % 30)) / 30 := by rw [← hc]; simp [lawFirst]
  rw [hf]
  simp only [lawLens]
  rcases twelve h with h | h | h | h | h | h | h | h | h | h | h | h <;> subst h <;> (simp [jdi]; omega)
theorem l2 {y i : Int} (h : 0 ≤ i ∧ i < 12) : glenI y (i + 1) = (lawLens 2 y).getD i.toNat 0 := by
  have hl := moon_leap (r := (y - 1) % 30) (by omega)
  have he : (y * 11 + 14) % 30 = (((y - 1) % 30 + 1) * 11 + 14) % 30 := by omega
  simp only [lawLens]
  by_cases hm : (y - 1) % 30 + 1 ∈ moonYears
  · have h2 := hl.mp hm
    rw [← he] at h2
    rcases twelve h with h | h | h | h | h | h | h | h | h | h | h | h <;> subst h <;> simp [glenI, hm, h2]
  · have h2 : ¬ (y * 11 + 14) % 30 < 11 := fun x => hm (hl.mpr (he ▸ x))
    rcases twelve h with h | h | h | h | h | h | h | h | h | h | h | h <;> subst h <;> simp [glenI, hm, -Int.not_lt, h2]
theorem p3 {y i : Int} (h : 0 ≤ i ∧ i < 13) : jdc y (i + 1) = lawFirst 3 y + ((lawLens 3 y).take i.toNat).sum := by
  simp only [lawFirst, lawLens]
  rcases thirteen h with h | h | h | h | h | h | h | h | h | h | h | h | h <;> subst h <;> (simp [jdc]; (repeat' split) <;> omega)
theorem l3 {y i : Int} (h : 0 ≤ i ∧ i < 13) : glenC y (i + 1) = (lawLens 3 y).getD i.toNat 0 := by
  simp only [lawLens]
  rcases thirteen h with h | h | h | h | h | h | h | h | h | h | h | h | h <;> subst h <;> (simp [glenC] <;> (repeat' split) <;> omega)
theorem p4 {y i : Int} (h : 1 ≤ i ∧ i < 12) : jdn y (i + 1) = lawFirst 4 y + ((lawLens 4 y).take i.toNat).sum := by
  have hB := janB (y + 78)
  rw [show y + 78 + 1 = y + 79 by omega] at hB
  have hA := janA (y + 78)
  simp only [lawFirst, lawLens]
  rcases twelve (i := i) (by omega) with h' | h' | h' | h' | h' | h' | h' | h' | h' | h' | h' | h' <;> subst h' <;> first | omega | (simp [jdn, jdg]; (repeat' split) <;> simp_all <;> omega)
theorem l4 {y i : Int} (h : 1 ≤ i ∧ i < 12) : glenN (i + 1) = (lawLens 4 y).getD i.toNat 0 := by
  simp only [lawLens]
  rcases twelve (i := i) (by omega) with h' | h' | h' | h' | h' | h' | h' | h' | h' | h' | h' | h' <;> subst h' <;> first | omega | (simp [glenN])
theorem p5 {y i : Int} (h : 0 ≤ i ∧ i < 13) : jda y (i + 1) = lawFirst 5 y + ((lawLens 5 y).take i.toNat).sum := by
  simp only [lawFirst, lawLens]
  rcases thirteen h with h | h | h | h | h | h | h | h | h | h | h | h | h <;> subst h <;> (simp [jda]; omega)
theorem l5 {y i : Int} (h : 0 ≤ i ∧ i < 13) : glenA (i + 1) = (lawLens 5 y).getD i.toNat 0 := by
  simp only [lawLens]
  rcases thirteen h with h | h | h | h | h | h | h | h | h | h | h | h | h <;> subst h <;> simp [glenA]
theorem p6 {y i : Int} (h : 0 ≤ i ∧ i < 13) : jds y (i + 1) = lawFirst 6 y + ((lawLens 6 y).take i.toNat).sum := by
  simp only [lawFirst, lawLens]
  rcases thirteen h with h | h | h | h | h | h | h | h | h | h | h | h | h <;> subst h <;> (simp [jds]; omega)
theorem l6 {y i : Int} (h : 0 ≤ i ∧ i < 13) : glenS y (i + 1) = (lawLens 6 y).getD i.toNat 0 := by
  simp only [lawLens]
  rcases thirteen h with h | h | h | h | h | h | h | h | h | h | h | h | h <;> subst h <;> (simp [glenS]; (try ((repeat' split) <;> omega)))
theorem lens_len {k : Int} (y : Int) (hk : 0 ≤ k ∧ k < 7) : ((lawLens k y).length : Int) = months k := by
  have hk' : k = 0 ∨ k = 1 ∨ k = 2 ∨ k = 3 ∨ k = 4 ∨ k = 5 ∨ k = 6 := by omega
  rcases hk' with h | h | h | h | h | h | h <;> subst h <;> simp [lawLens, months]
theorem law_jd {k y i : Int} (hk : 0 ≤ k ∧ k < 7) (hi : 0 ≤ i ∧ i < months k) (h4 : k ≠ 4 ∨ 1 ≤ i) : leafJd k y (i + 1) = lawFirst k y + ((lawLens k y).take i.toNat).sum := by
  have hk' : k = 0 ∨ k = 1 ∨ k = 2 ∨ k = 3 ∨ k = 4 ∨ k = 5 ∨ k = 6 := by omega
  rcases hk' with h | h | h | h | h | h | h <;> subst h <;> simp [months] at hi
  · exact p0 hi
  · exact p1 hi
  · exact p2 hi
  · exact p3 hi
  · exact p4 ⟨by omega, hi.2⟩
  · exact p5 hi
  · exact p6 hi
theorem law_len {k y i : Int} (hk : 0 ≤ k ∧ k < 7) (hi : 0 ≤ i ∧ i < months k) (h4 : k ≠ 4 ∨ 1 ≤ i) : leafLen k y (i + 1) = (lawLens k y).getD i.toNat 0 := by
  have hk' : k = 0 ∨ k = 1 ∨ k = 2 ∨ k = 3 ∨ k = 4 ∨ k = 5 ∨ k = 6 := by omega
  rcases hk' with h | h | h | h | h | h | h <;> subst h <;> simp [months] at hi
  · exact l0 hi
  · exact l1 hi
  · exact l2 hi
  · exact l3 hi
  · exact l4 ⟨by omega, hi.2⟩
  · exact l5 hi
  · exact l6 hi
-- LLoop
theorem loopRows_row (num n : Int) : ∀ i : Nat, (loopRows num n i).2.length = 7
  | 0 => by rfl
  | i + 1 => by
    rw [loopRows_succ]
    unfold stepRow
    split
    · rfl
    · simp [loopRows_row num n i]
theorem loopRows_len (num n : Int) : ∀ i : Nat, (loopRows num n i).1.length ≤ i
  | 0 => Nat.le_refl _
  | i + 1 => by
    have ih := loopRows_len num n i
    rw [loopRows_succ]
    unfold stepRow
    split
    · simp; omega
    · simp; omega
theorem datAll_len {news : List (Addr × Obj)} : ∀ {vs : List Value} {ds : List Dat}, DatAll news vs ds → vs.length = ds.length
  | _, _, .nil => rfl
  | _, _, .cons _ r => by simp [datAll_len r]
theorem datAll_app {news : List (Addr × Obj)} : ∀ {vs us : List Value} {ds es : List Dat}, DatAll news vs ds → DatAll news us es → DatAll news (vs ++ us) (ds ++ es)
  | _, _, _, _, .nil, h => h
  | _, _, _, _, .cons a r, h => .cons a (datAll_app r h)
/-- the rows' loop: what holds ahead of a turn -/
def RJ (num nn : Int) (ra : Addr) (base : List (Addr × Obj)) (m₀ : Str → Option Value) (i : Nat) (m₁ : Str → Option Value) (nx : List (Addr × Obj)) : Prop :=
  ∃ rw vs ws k1 k2 tl, nx = (rw, listOf ws.toArray k2) :: (ra, listOf vs.toArray k1) :: tl ∧ (rw ≠ ra ∧ (∀ p ∈ tl, p.1 ≠ rw) ∧ ∀ p ∈ tl, p.1 ≠ ra) ∧ (∀ p ∈ base, p ∈ tl) ∧ m₁ (Str.ofString "row") = some (.ref rw) ∧ (∀ x, x ≠ Str.ofString "day" → x ≠ Str.ofString "row" → x ≠ Str.ofString "column" → m₁ x = m₀ x) ∧ DatAll tl vs (loopRows num nn i).1 ∧ DatAll [] ws (loopRows num nn i).2
section
variable {prog : Program} {w : World} {A : Around} {E : Value → Shared → Prop} {s : Shared} {h₀ : Heap} {env : Env} {body : List Stmt} {L : Addr}
theorem rj_fr {h : Heap} {m₀ m₁ : Str → Option Value} {v : Str → Option Value} {rw : Addr} (h1 : m₁ (Str.ofString "row") = some (.ref rw)) (h2 : ∀ x, x ≠ Str.ofString "day" → x ≠ Str.ofString "row" → x ≠ Str.ofString "column" → m₁ x = m₀ x)
    (F : Fr h₀ L h (fun y => if y = Str.ofString "day" then v y else m₁ y)) : Fr h₀ L h (fun y => if y = Str.ofString "day" then v y else if y = Str.ofString "row" then some (.ref rw) else if y = Str.ofString "column" then m₁ y else m₀ y) := by
  have em : (fun y => if y = Str.ofString "day" then v y else if y = Str.ofString "row" then some (.ref rw) else if y = Str.ofString "column" then m₁ y else m₀ y) = fun y => if y = Str.ofString "day" then v y else m₁ y := by
    funext y
    by_cases c1 : y = Str.ofString "day"
    · rw [if_pos c1, if_pos c1]
    · rw [if_neg c1, if_neg c1]
      by_cases c2 : y = Str.ofString "row"
      · rw [if_pos c2, c2, h1]
      · rw [if_neg c2]
        by_cases c3 : y = Str.ofString "column"
        · rw [if_pos c3]
        · rw [if_neg c3, h2 y c1 c2 c3]
  rw [em]
  exact F
theorem rows_range {r : Addr} {b₀ : Int} {t₀ u₀ v₀ : Tok} {m₀ : Str → Option Value} {rw₀ ra : Addr} {k1 k2 : Nat} {base : List (Addr × Obj)} {Q : Flow → Shared → Prop} (num nn : Int)
    (hh : A.handled = none) (hr : IsRange s.heap r 1 b₀ 1 t₀ u₀ v₀) (hb : b₀ = nn + 1) (hn : 5 ≤ nn ∧ nn ≤ 31) (F : Fr h₀ env.locals s.heap m₀) (N : News h₀ env.locals s.heap ((rw₀, listOf #[.none, .none, .none, .none, .none, .none, .none] k2) :: (ra, listOf #[] k1) :: base))
    (hm : m₀ (Str.ofString "row") = some (.ref rw₀)) (hd : rw₀ ≠ ra ∧ (∀ p ∈ base, p.1 ≠ rw₀) ∧ ∀ p ∈ base, p.1 ≠ ra)
    (turn : ∀ (i : Nat) (t : Tok) (u : Str → Option Value) (rw : Addr) (vs ws : List Value) (k1 k2 : Nat) (tl : List (Addr × Obj)) (h : Heap) (tk : Nat) (own : List (Addr × Obj)), (i : Int) < nn →
      (rw ≠ ra ∧ (∀ p ∈ tl, p.1 ≠ rw) ∧ ∀ p ∈ tl, p.1 ≠ ra) → (∀ p ∈ base, p ∈ tl) → DatAll tl vs (loopRows num nn i).1 → DatAll [] ws (loopRows num nn i).2 → vs.length < 100 → ws.length = 7 → OwnOff own (((rw, listOf ws.toArray k2) :: (ra, listOf vs.toArray k1) :: tl).map (·.1)) →
      Fr h₀ env.locals h (fun y => if y = Str.ofString "day" then some (.int (1 + (i : Int)) t) else if y = Str.ofString "row" then some (.ref rw) else if y = Str.ofString "column" then u y else m₀ y) → News h₀ env.locals h ((rw, listOf ws.toArray k2) :: (ra, listOf vs.toArray k1) :: (tl ++ own)) →
      wpAny (model prog w) A (execs body env) (InvPostG h₀ env.locals (RJ num nn ra base m₀ (i + 1)) own { s with heap := h, toks := tk } Q) E { s with heap := h, toks := tk })
    (done : ∀ (u : Str → Option Value) (rw : Addr) (vs ws : List Value) (k1 k2 : Nat) (tl : List (Addr × Obj)) (h : Heap) (tk : Nat), (∀ p ∈ base, p ∈ tl) → DatAll tl vs (gridD ((num % 7 + 1) % 7) nn) →
      Fr h₀ env.locals h (fun y => if y = Str.ofString "day" then u y else if y = Str.ofString "row" then some (.ref rw) else if y = Str.ofString "column" then u y else m₀ y) → News h₀ env.locals h ((rw, listOf ws.toArray k2) :: (ra, listOf vs.toArray k1) :: tl) → Q .next { s with heap := h, toks := tk }) :
    wpAny (model prog w) A (pyIter (.ref r)) (fun it s₂ => LoopAtV prog w A h₀ env (Str.ofString "day") body Q E it s₂) E s := by
  subst hb
  refine range_G (n := nn.toNat) (RJ num nn ra base m₀) hh hr ?_ ?_ F N ?_ ?_ ?_
  · show Builtin.Range.small 1 (nn + 1) 1 = true
    have := hn
    simp [Builtin.Range.small, Builtin.Range.rangeFitsLong, Builtin.Range.rangeSize]; omega
  · show Builtin.Range.rangeSize 1 (nn + 1) 1 = (nn.toNat : Int)
    simp [Builtin.Range.rangeSize]; omega
  · exact ⟨rw₀, [], [.none, .none, .none, .none, .none, .none, .none], k1, k2, base, rfl, hd, fun _ h => h, hm, fun _ _ _ _ => rfl, .nil, .cons .none (.cons .none (.cons .none (.cons .none (.cons .none (.cons .none (.cons .none .nil))))))⟩
  · rintro i t m₁ nx h tk own hi hoff ⟨rw, vs, ws, k1, k2, tl, rfl, hd', hb', hr', hm', D1, D2⟩ F₁ N₁
    refine turn i t m₁ rw vs ws k1 k2 tl h tk own (by omega) hd' hb' D1 D2 ?_ ?_ hoff (rj_fr (v := fun _ => _) hr' hm' F₁) N₁
    · rw [datAll_len D1]; have := loopRows_len num nn i; omega
    · rw [datAll_len D2]; exact loopRows_row num nn i
  · rintro m₁ nx h tk ⟨rw, vs, ws, k1, k2, tl, rfl, hd', hb', hr', hm', D1, D2⟩ F₁ N₁
    rw [grid_eq hn] at D1
    refine done m₁ rw vs ws k1 k2 tl h tk hb' D1 ?_ N₁
    refine rj_fr (v := m₁) hr' hm' ?_
    have em : (fun y => if y = Str.ofString "day" then m₁ y else m₁ y) = m₁ := by funext y; split <;> rfl
    rw [em]
    exact F₁
theorem rows_range' {r : Addr} {b₀ : Int} {t₀ u₀ v₀ : Tok} {m₀ : Str → Option Value} {rw₀ ra : Addr} {k1 k2 : Nat} {base : List (Addr × Obj)} {Q : Flow → Shared → Prop} {k y mo num nn : Int} (hJ : leafJd k y mo = num) (hL : leafLen k y mo = nn)
    (hh : A.handled = none) (hr : IsRange s.heap r 1 b₀ 1 t₀ u₀ v₀) (hb : b₀ = nn + 1) (F : Fr h₀ env.locals s.heap m₀) (N : News h₀ env.locals s.heap ((rw₀, listOf #[.none, .none, .none, .none, .none, .none, .none] k2) :: (ra, listOf #[] k1) :: base))
    (hm : m₀ (Str.ofString "row") = some (.ref rw₀)) (hd : rw₀ ≠ ra ∧ (∀ p ∈ base, p.1 ≠ rw₀) ∧ ∀ p ∈ base, p.1 ≠ ra)
    (turn : ∀ (i : Nat) (t : Tok) (u : Str → Option Value) (rw : Addr) (vs ws : List Value) (k1 k2 : Nat) (tl : List (Addr × Obj)) (h : Heap) (tk : Nat) (own : List (Addr × Obj)), (i : Int) < nn →
      (rw ≠ ra ∧ (∀ p ∈ tl, p.1 ≠ rw) ∧ ∀ p ∈ tl, p.1 ≠ ra) → (∀ p ∈ base, p ∈ tl) → DatAll tl vs (loopRows num nn i).1 → DatAll [] ws (loopRows num nn i).2 → vs.length < 100 → ws.length = 7 → OwnOff own (((rw, listOf ws.toArray k2) :: (ra, listOf vs.toArray k1) :: tl).map (·.1)) →
      Fr h₀ env.locals h (fun y => if y = Str.ofString "day" then some (.int (1 + (i : Int)) t) else if y = Str.ofString "row" then some (.ref rw) else if y = Str.ofString "column" then u y else m₀ y) → News h₀ env.locals h ((rw, listOf ws.toArray k2) :: (ra, listOf vs.toArray k1) :: (tl ++ own)) →
      wpAny (model prog w) A (execs body env) (InvPostG h₀ env.locals (RJ num nn ra base m₀ (i + 1)) own { s with heap := h, toks := tk } Q) E { s with heap := h, toks := tk })
    (done : ∀ (u : Str → Option Value) (rw : Addr) (vs ws : List Value) (k1 k2 : Nat) (tl : List (Addr × Obj)) (h : Heap) (tk : Nat), (∀ p ∈ base, p ∈ tl) → DatAll tl vs (gridD ((leafJd k y mo % 7 + 1) % 7) (leafLen k y mo)) →
      Fr h₀ env.locals h (fun y => if y = Str.ofString "day" then u y else if y = Str.ofString "row" then some (.ref rw) else if y = Str.ofString "column" then u y else m₀ y) → News h₀ env.locals h ((rw, listOf ws.toArray k2) :: (ra, listOf vs.toArray k1) :: tl) → Q .next { s with heap := h, toks := tk }) :
    wpAny (model prog w) A (pyIter (.ref r)) (fun it s₂ => LoopAtV prog w A h₀ env (Str.ofString "day") body Q E it s₂) E s := by
  rw [hJ, hL] at done
  exact rows_range num nn hh hr hb (hL ▸ leafLen_bd k y mo) F N hm hd turn done
theorem rj_keep {num nn : Int} {ra rw : Addr} {base tl own : List (Addr × Obj)} {m₀ m' : Str → Option Value} {i : Nat} {vs ws : List Value} {k1 k2 : Nat} {s₁ : Shared} {h' : Heap} {tk : Nat} {t : Tok}
    (hd : rw ≠ ra ∧ (∀ p ∈ tl, p.1 ≠ rw) ∧ ∀ p ∈ tl, p.1 ≠ ra) (hb : ∀ p ∈ base, p ∈ tl) (D1 : DatAll tl vs (loopRows num nn i).1) (D2 : DatAll [] ws (loopRows num nn i).2) (hoff : OwnOff own (((rw, listOf ws.toArray k2) :: (ra, listOf vs.toArray k1) :: tl).map (·.1)))
    (F : Fr h₀ L h' m') (N : News h₀ L h' ((rw, listOf (ws.set ((num + (1 + (i : Int))) % 7).toNat (.int (1 + (i : Int)) t)).toArray k2) :: (ra, listOf vs.toArray k1) :: (tl ++ own)))
    (hc : ¬ ((num + (1 + (i : Int))) % 7 = 6 ∨ 1 + (i : Int) = nn)) (h1 : m' (Str.ofString "row") = some (.ref rw)) (h2 : ∀ x, x ≠ Str.ofString "day" → x ≠ Str.ofString "row" → x ≠ Str.ofString "column" → m' x = m₀ x) :
    InvEndG h₀ L (RJ num nn ra base m₀ (i + 1)) own s₁ { s₁ with heap := h', toks := tk } := by
  have e : loopRows num nn (i + 1) = ((loopRows num nn i).1, (loopRows num nn i).2.set ((num + (1 + (i : Int))) % 7).toNat (Dat.int (1 + (i : Int)))) := by
    rw [loopRows_succ]; unfold stepRow; rw [if_neg hc]
  refine InvEndG.intro F N ⟨rw, vs, ws.set ((num + (1 + (i : Int))) % 7).toNat (.int (1 + (i : Int)) t), k1, k2, tl, rfl, hd, hb, h1, h2, by rw [e]; exact D1, by rw [e]; exact datAll_set (.int _ _) _ D2⟩ hoff ?_ ?_
  · intro p hp
    rcases List.mem_cons.mp hp with rfl | hp
    · exact .head _
    · rcases List.mem_cons.mp hp with rfl | hp
      · exact .tail _ (.head _)
      · exact .tail _ (.tail _ (List.mem_append_left _ hp))
  · intro p hp
    exact .tail _ (.tail _ (List.mem_append_right _ hp))
theorem rj_app {num nn : Int} {ra rw rn : Addr} {base tl own : List (Addr × Obj)} {m₀ m' : Str → Option Value} {i : Nat} {vs ws : List Value} {k1 k2 k3 k4 : Nat} {s₁ : Shared} {h' : Heap} {tk : Nat} {t : Tok}
    (hd : rw ≠ ra ∧ (∀ p ∈ tl, p.1 ≠ rw) ∧ ∀ p ∈ tl, p.1 ≠ ra) (hb : ∀ p ∈ base, p ∈ tl) (D1 : DatAll tl vs (loopRows num nn i).1) (D2 : DatAll [] ws (loopRows num nn i).2) (hoff : OwnOff own (((rw, listOf ws.toArray k2) :: (ra, listOf vs.toArray k4) :: tl).map (·.1)))
    (F : Fr h₀ L h' m') (N : News h₀ L h' ((rn, listOf #[.none, .none, .none, .none, .none, .none, .none] k3) :: (rw, listOf (ws.set ((num + (1 + (i : Int))) % 7).toNat (.int (1 + (i : Int)) t)).toArray k2) :: (ra, listOf (vs ++ [Value.ref rw]).toArray k1) :: (tl ++ own)))
    (hc : (num + (1 + (i : Int))) % 7 = 6 ∨ 1 + (i : Int) = nn) (hn : rw < rn ∧ ra < rn ∧ ∀ p ∈ tl ++ own, p.1 < rn) (h1 : m' (Str.ofString "row") = some (.ref rn)) (h2 : ∀ x, x ≠ Str.ofString "day" → x ≠ Str.ofString "row" → x ≠ Str.ofString "column" → m' x = m₀ x) :
    InvEndG h₀ L (RJ num nn ra base m₀ (i + 1)) own s₁ { s₁ with heap := h', toks := tk } := by
  have e : loopRows num nn (i + 1) = ((loopRows num nn i).1 ++ [Dat.list ((loopRows num nn i).2.set ((num + (1 + (i : Int))) % 7).toNat (Dat.int (1 + (i : Int))))], List.replicate 7 Dat.none) := by
    rw [loopRows_succ]; unfold stepRow; rw [if_pos hc]
  have D3 : DatAll ((rw, listOf (ws.set ((num + (1 + (i : Int))) % 7).toNat (.int (1 + (i : Int)) t)).toArray k2) :: tl) (vs ++ [Value.ref rw]) (loopRows num nn (i + 1)).1 := by
    rw [e]
    refine datAll_app (DatAll.mono (fun p h => .tail _ h) D1) (.cons (.list (.head _) (DatAll.mono (news := []) (fun _ h => absurd h List.not_mem_nil) (datAll_set (.int _ _) _ D2))) .nil)
  refine InvEndG.intro F N ⟨rn, vs ++ [Value.ref rw], [.none, .none, .none, .none, .none, .none, .none], k1, k3, (rw, listOf (ws.set ((num + (1 + (i : Int))) % 7).toNat (.int (1 + (i : Int)) t)).toArray k2) :: tl, rfl, ⟨?a, ?b, ?c⟩, fun p hp => .tail _ (hb p hp), h1, h2, D3, ?d⟩ ?e ?f ?g
  case a => exact fun h => absurd hn.2.1 (h ▸ Nat.lt_irrefl _)
  case b =>
    intro p hp h
    rcases List.mem_cons.mp hp with rfl | hp
    · exact absurd hn.1 (h ▸ Nat.lt_irrefl _)
    · exact absurd (hn.2.2 p (List.mem_append_left _ hp)) (h ▸ Nat.lt_irrefl _)
  case c =>
    intro p hp
    rcases List.mem_cons.mp hp with rfl | hp
    · exact hd.1
    · exact hd.2.2 p hp
  case d => rw [e]; exact .cons .none (.cons .none (.cons .none (.cons .none (.cons .none (.cons .none (.cons .none .nil))))))
  case e =>
    intro p hp b hb'
    rcases List.mem_cons.mp hb' with rfl | hb'
    · exact fun h => absurd (hn.2.2 p (List.mem_append_right _ hp)) (h ▸ Nat.lt_irrefl _)
    · rcases List.mem_cons.mp hb' with rfl | hb'
      · exact hoff p hp _ (.tail _ (.head _))
      · rcases List.mem_cons.mp hb' with rfl | hb'
        · exact hoff p hp _ (.head _)
        · exact hoff p hp _ (.tail _ (.tail _ hb'))
  case f =>
    intro p hp
    rcases List.mem_cons.mp hp with rfl | hp
    · exact .head _
    · rcases List.mem_cons.mp hp with rfl | hp
      · exact .tail _ (.tail _ (.head _))
      · rcases List.mem_cons.mp hp with rfl | hp
        · exact .tail _ (.head _)
        · exact .tail _ (.tail _ (.tail _ (List.mem_append_left _ hp)))
  case g =>
    intro p hp
    exact .tail _ (.tail _ (.tail _ (List.mem_append_right _ hp)))
end
theorem Ctr.weak {w : World} {f : Addr} {vs : List Value} {D U : Nat} {P P' : List (Addr × Obj) → Value → Prop} (C : Ctr w f vs D U P) (h : ∀ nw v, P nw v → P' nw v) : Ctr w f vs D U P' :=
  fun _ _ _ _ _ _ _ _ _ _ _ _ _ _ _ _ _ _ _ _ _ _ B F X N T hk h1 h2 ret => C _ _ _ _ _ _ _ _ _ _ _ _ _ _ _ _ _ _ _ _ _ _ B F X N T hk h1 h2 (fun _ _ _ _ F' N' hp => ret _ _ _ _ F' N' (h _ _ hp))
theorem c_length2 (w : World) (k y i : Int) (t u v : Tok) (hok : leafOk k y (i + 1)) (hi : 0 ≤ i ∧ i < months k) (h4 : k ≠ 4 ∨ 1 ≤ i) : Ctr w 621 [.int k v, .int y t, .int (i + 1) u] 8 64 (fun nw v => leafOk k y (i + 1) ∧ leafJd k y (i + 1) = lawFirst k y + ((lawLens k y).take i.toNat).sum ∧ leafLen k y (i + 1) = (lawLens k y).getD i.toNat 0 ∧ (5 ≤ (lawLens k y).getD i.toNat 0 ∧ (lawLens k y).getD i.toNat 0 ≤ 31) ∧ ∃ t, v = .int ((lawLens k y).getD i.toNat 0) t) := by
  have h := c_length w k y (i + 1) t u v hok
  have e := law_len hok.1 hi h4 (y := y)
  have e2 := law_jd hok.1 hi h4 (y := y)
  refine Ctr.weak h fun nw v hp => ?_
  rw [e] at hp
  exact ⟨hok, e2, e, hp.1, hp.2⟩
theorem rj_apart {rw ra : Addr} {o1 o2 : Obj} {tl own : List (Addr × Obj)} (hd : rw ≠ ra ∧ (∀ p ∈ tl, p.1 ≠ rw) ∧ ∀ p ∈ tl, p.1 ≠ ra) (hoff : OwnOff own (((rw, o1) :: (ra, o2) :: tl).map (·.1))) : (∀ o, ∀ p ∈ (ra, o) :: (tl ++ own), p.1 ≠ rw) ∧ ∀ p ∈ tl ++ own, p.1 ≠ ra := by
  refine ⟨fun o p hp => ?_, fun p hp => ?_⟩
  · rcases List.mem_cons.mp hp with rfl | hp
    · exact fun h => hd.1 h.symm
    · rcases List.mem_append.mp hp with hp | hp
      · exact hd.2.1 p hp
      · exact hoff p hp _ (.head _)
  · rcases List.mem_append.mp hp with hp | hp
    · exact hd.2.2 p hp
    · exact hoff p hp _ (.tail _ (.head _))
theorem all_lt {z : Addr} (l : List (Addr × Obj)) (h : AllLt z l) (p : Addr × Obj) (hp : p ∈ l) : p.1 < z := by
  induction l with
  | nil => exact absurd hp List.not_mem_nil
  | cons q r ih =>
    have h1 : q.1 < z := h.1
    have h2 : AllLt z r := h.2
    rcases List.mem_cons.mp hp with e | hp
    · rw [e]; exact h1
    · exact ih h2 hp
theorem rd_of {rw ra a b c : Addr} {oa ob oc : Obj} {tl : List (Addr × Obj)} (h1 : ra < rw ∧ a < rw ∧ b < rw ∧ c < rw ∧ AllLt rw tl) (h2 : a < ra ∧ b < ra ∧ c < ra ∧ AllLt ra tl) : rw ≠ ra ∧ (∀ p ∈ (a, oa) :: (b, ob) :: (c, oc) :: tl, p.1 ≠ rw) ∧ (∀ p ∈ (a, oa) :: (b, ob) :: (c, oc) :: tl, p.1 ≠ ra) := by
  have k : ∀ {z : Addr}, a < z → b < z → c < z → AllLt z tl → ∀ p ∈ (a, oa) :: (b, ob) :: (c, oc) :: tl, p.1 ≠ z := by
    intro z h1 h2 h3 h4 p hp
    rcases List.mem_cons.mp hp with rfl | hp
    · exact Nat.ne_of_lt h1
    · rcases List.mem_cons.mp hp with rfl | hp
      · exact Nat.ne_of_lt h2
      · rcases List.mem_cons.mp hp with rfl | hp
        · exact Nat.ne_of_lt h3
        · exact Nat.ne_of_lt (all_lt _ h4 p hp)
  exact ⟨Nat.ne_of_gt h1.1, k h1.2.1 h1.2.2.1 h1.2.2.2.1 h1.2.2.2.2, k h2.1 h2.2.1 h2.2.2.1 h2.2.2.2⟩
theorem months_eq (k : Int) : (months k = 13 ∧ (k = 3 ∨ k = 5 ∨ k = 6)) ∨ (months k = 12 ∧ k ≠ 3 ∧ k ≠ 5 ∧ k ≠ 6) := by
  unfold months; split <;> omega
-- C8a
def StopP (P : Prop) : Prop := P
theorem StopP.intro {P : Prop} (h : StopP P) : P := h
local macro_rules | `(tactic| walk_at "exec For Name Call cons nil") => `(tactic| (k_here; (rename Fr _ _ _ _ => lF'); k_dflt (with_unfolding_all refine' For_invVF lF' ?k1 ?k2 ?_; (case k1 => exact rfl); (case k2 => exact rfl); k_whole)))
local macro_rules | `(tactic| walk_at "pyIter ref") => `(tactic| (k_here; refine StopP.intro ?_))
abbrev numOf (k' : Int) : Int := if -10000000 < k' ∧ k' < 10000000 then k' else if -10000000 < k' ∧ ¬k' < 10000000 then k' % 10000000 else k' % 10000000
theorem numOf_bd (k' : Int) : -10000000 < numOf k' ∧ numOf k' < 10000000 := by unfold numOf; (repeat' split) <;> omega
theorem nums_facts (xs : List Int) : (2 ≤ (List.map numOf (xs.take 2) ++ [0, 0]).length ∧ (List.map numOf (xs.take 2) ++ [0, 0]).length < 1000) ∧ (-10000000 < (List.map numOf (xs.take 2) ++ [0, 0]).getD (Int.toNat 0) 0 ∧ (List.map numOf (xs.take 2) ++ [0, 0]).getD (Int.toNat 0) 0 < 10000000) := by
  match xs with
  | [] => simp
  | [a] => have := numOf_bd a; simpa using this
  | a :: b :: r => have := numOf_bd a; simpa using this
theorem months_bd (k : Int) : 12 ≤ months k ∧ months k ≤ 13 := by unfold months; split <;> omega
local macro_rules | `(tactic| walk_at "subscriptTail") => `(tactic| (k_here; (with_reducible show wpAny _ _ (subscriptTail _ _ (Value.ref _) (Value.int _ _)) _ _ _); k_dflt (refine' item_ints ?N ?m ?i ?a ?z ?_; (case N => k_asm); (case m => first | exact List.Mem.tail _ (List.Mem.tail _ (by assumption)) | k_mem); (case i => assumption); (case a => omega); (case z => omega); k_whole); intro t'))
local macro_rules | `(tactic| walk_at "subscriptTail") => `(tactic| (k_here; (with_reducible show wpAny _ _ (subscriptTail _ (PySem.Expr.Slice none _ none _) (Value.ref _) (Value.ref _)) _ _ _); k_dflt (refine' slice_to ?F ?N ?m ?x ?z ?_; (case F => k_asm); (case N => k_asm); (case m => k_mem); (case x => ((have hl9 := PyProof.Rows.IntsAre.length (by assumption)); omega)); (case z => ((have hl9 := PyProof.Rows.IntsAre.length (by assumption)); omega)); k_whole); intro D' h' F' N' l1; (try k_lt l1); (try k_sweep)))
local macro_rules | `(tactic| walk_at "call builtin:sum") => `(tactic| (k_here; k_dflt (refine' sumK rfl ?F ?N ⟨_, (News.get ?N2 ?m), rfl, _, rfl⟩ (PyProof.Rows.IntsAre.take ?i _) ?_; (case F => k_asm); (case N => k_asm); (case N2 => k_asm); (case m => k_mem); (case i => assumption); k_whole); intro h' tk' t' F' N'; (try k_sweep)))
local macro_rules | `(tactic| walk_at "call ref") => `(tactic| (k_here; (with_reducible show wpAny _ _ (call (Value.ref 621) _) _ _ _); refine StopP.intro ?_))
local macro_rules | `(tactic| walk_at "call ref") => `(tactic| (k_here; (with_reducible show wpAny _ _ (call (Value.ref 614) _) _ _ _); refine StopP.intro ?_))
theorem mod_gen {prog : Program} {w : World} {A : Around} {E : Value → Shared → Prop} {s : Shared} {b c : Int} {t u : Tok} {Q : Value → Shared → Prop} (hb : 0 < c) (h : ∀ r : Int, 0 ≤ r ∧ r < c → Q (.int r s.toks) { s with toks := s.toks + 1 }) : wpAny (model prog w) A (binaryOp .Mod (.int b t) (.int c u)) Q E s :=
  mod_pos hb (h _ ⟨Int.emod_nonneg _ (by omega), Int.emod_lt_of_pos _ hb⟩)
local macro_rules | `(tactic| walk_at "binaryOp Mod int int") => `(tactic| (k_here; (with_reducible show wpAny _ _ (binaryOp _ _ (Value.int (Nat.cast (List.length _)) _)) _ _ _); k_dflt (refine' mod_gen ?hb ?_; (case hb => omega)); intro M9 hM9))
theorem year_gen {prog : Program} {w : World} {A : Around} {h₀ h : Heap} {L : Addr} {m : Str → Option Value} {k Y : Int} {t u : Tok} {Q : Value → Shared → Prop} {E : Value → Shared → Prop} {s : Shared} (F : Fr h₀ L h (fun x => if x = Str.ofString "year" then some (.int Y u) else m x)) (hy : (-12000000 < Y ∧ Y < 12000000) ∧ (k ≠ 5 ∨ 1 ≤ Y) ∧ (k ≠ 6 ∨ 533 ≤ Y))
    (h : ∀ yy : Int, (-12000000 < yy ∧ yy < 12000000) ∧ (k ≠ 5 ∨ 1 ≤ yy) ∧ (k ≠ 6 ∨ 533 ≤ yy) → Fr h₀ L h (fun x => if x = Str.ofString "year" then some (.int yy u) else m x) → wpAny (model prog w) A (call (.ref 614) [.int k t, .int yy u]) Q E s) : StopP (wpAny (model prog w) A (call (.ref 614) [.int k t, .int Y u]) Q E s) := h Y hy F
local macro_rules | `(tactic| walk_at "call ref") => `(tactic| (k_here; (with_reducible show wpAny _ _ (call (Value.ref 628) _) _ _ _); refine StopP.intro ?_))
local macro_rules | `(tactic| walk_at "setItem ref int") => `(tactic| (k_here; refine StopP.intro ?_))
local macro_rules | `(tactic| walk_at "call builtin:list.append") => `(tactic| (k_here; refine StopP.intro ?_))
local macro_rules | `(tactic| walk_at "InvPostG") => `(tactic| (dsimp only [InvPostG]; refine StopP.intro ?_))
-- Mid
def KMid (x : Str) (P : Int → Prop) (h₀ : Heap) (L : Addr) (m : Str → Option Value) (news : List (Addr × Obj)) (s : Shared) (f : Flow) (s' : Shared) : Prop :=
  f = .next ∧ ∃ (r : Int) (t : Tok) (h : Heap) (tk : Nat), s' = { s with heap := h, toks := tk } ∧ P r ∧ Fr h₀ L h (fun y => if y = x then some (.int r t) else m y) ∧ News h₀ L h news
section
variable {M : Model} {A : Around} {E : Value → Shared → Prop} {s : Shared} {env : Env} {h₀ : Heap} {L : Addr} {m : Str → Option Value} {news : List (Addr × Obj)}
theorem if_mid {st : Stmt} {Q : Flow → Shared → Prop} (x : Str) (P : Int → Prop) (F : Fr h₀ L s.heap m) (N : News h₀ L s.heap news)
    (h1 : wpAny M A (exec st env) (KMid x P h₀ L m news s) E s)
    (h2 : ∀ (r : Int) (t : Tok) (h : Heap) (tk : Nat), P r → Fr h₀ L h (fun y => if y = x then some (.int r t) else m y) → News h₀ L h news → Q .next { s with heap := h, toks := tk }) : wpAny M A (exec st env) Q E s :=
  wpAny_mono h1 (fun f s' hm => by
    obtain ⟨hf, r, t, h, tk, e, p, F', N'⟩ := hm
    subst hf; subst e
    exact h2 r t h tk p F' N') fun _ _ e => e
theorem KMid.set {x : Str} {P : Int → Prop} {r : Int} {t : Tok} {h : Heap} {tk : Nat} (p : P r) (F : Fr h₀ L h (fun y => if y = x then some (.int r t) else m y)) (N : News h₀ L h news) : KMid x P h₀ L m news s .next { s with heap := h, toks := tk } := ⟨rfl, r, t, h, tk, rfl, p, F, N⟩
theorem KMid.keep {x : Str} {P : Int → Prop} {r : Int} {t : Tok} {h : Heap} {tk : Nat} (hold : m x = some (.int r t)) (p : P r) (F : Fr h₀ L h m) (N : News h₀ L h news) : KMid x P h₀ L m news s .next { s with heap := h, toks := tk } := by
  refine ⟨rfl, r, t, h, tk, rfl, p, ?_, N⟩
  have e : (fun y => if y = x then some (Value.int r t) else m y) = m := by
    funext y
    by_cases hy : y = x
    · rw [if_pos hy, hy, hold]
    · rw [if_neg hy]
  rw [e]; exact F
end
theorem not_in8 {z a b c d e f g h : Str} (hz : [a, b, c, d, e, f, g, h].contains z = false) : z ≠ a ∧ z ≠ b ∧ z ≠ c ∧ z ≠ d ∧ z ≠ e ∧ z ≠ f ∧ z ≠ g ∧ z ≠ h := by simpa using hz
theorem hn_of {rw ra rn : Addr} {l : List (Addr × Obj)} (h : rw < rn ∧ ra < rn ∧ AllLt rn l) : rw < rn ∧ ra < rn ∧ ∀ p ∈ l, p.1 < rn := ⟨h.1, h.2.1, all_lt _ h.2.2⟩
local macro_rules | `(tactic| walk_at "exec If") => `(tactic| (k_here; (with_reducible show wpAny _ _ (exec (.If _ [.Assign [.Name _ _] _ _] [] _) _) _ _ _); refine StopP.intro ?_))
local macro_rules | `(tactic| walk_at "InvPostN") => `(tactic| ((with_reducible show InvPostN _ _ _ _ _ _ _ Flow.next _); dsimp only [InvPostN]; refine StopP.intro ?_))
local macro_rules | `(tactic| walk_at "KMid") => `(tactic| (refine StopP.intro ?_))
-- T8
theorem t8 : PySem.Challenge.rw_ak5016_01.Holds := hd (by
  k_go0
  (all_goals try k_fold)
  have hret := True.intro
  k_steps
  unfold StopP
  have hI2 := (by assumption : PyProof.Rows.IntsAre _ (List.map _ (List.take 2 _) ++ [0, 0]))
  have hf := nums_facts (by assumption)
  generalize hns : (List.map _ (List.take 2 _) ++ [0, 0] : List Int) = ns2 at hI2 hf
  refine kst_range (σ := Unit) (n := 7) (fun _ => _) (fun _ => []) (fun _ => True) [Str.ofString "year", Str.ofString "number", Str.ofString "lengths", Str.ofString "month", Str.ofString "rows", Str.ofString "row", Str.ofString "day", Str.ofString "column"] (fun _ _ => True) () rfl (by assumption) (by decide) (by decide) (by k_asm) (by k_asm) trivial (fun _ h => nomatch h) trivial ?turn ?done
  case turn =>
    intro c pre kk t u h9 tk9 own hkk hlt hoff _ _ F9 N9
    have hk7 : 0 ≤ kk ∧ kk < 7 := by omega
    (try k_fold)
    k_steps
    unfold StopP
    refine' if_mid (Str.ofString "year") (fun r => (-10000001 < r ∧ r < 10000001) ∧ (kk ≠ 5 ∨ 1 ≤ r)) ?aF ?aN ?a1 ?a2
    case aF => k_asm
    case aN => k_asm
    case a1 =>
      refine wpAny_If ?_
      k_steps
      all_goals unfold StopP
      · refine KMid.set ?_ (by k_asm) (by k_asm); omega
      · refine KMid.keep rfl ?_ (by k_asm) (by k_asm); omega
    intro y5 t5 h' tk' hy5 F' N'
    (try k_sweep)
    (try k_fold)
    k_steps
    unfold StopP
    refine' if_mid (Str.ofString "year") (fun r => (-10001000 < r ∧ r < 10001000) ∧ (kk ≠ 5 ∨ 1 ≤ r) ∧ (kk ≠ 6 ∨ 533 ≤ r)) ?bF ?bN ?b1 ?b2
    case bF => k_asm
    case bN => k_asm
    case b1 =>
      refine wpAny_If ?_
      k_steps
      all_goals unfold StopP
      · refine KMid.set ?_ (by k_asm) (by k_asm); omega
      · refine KMid.keep rfl ?_ (by k_asm) (by k_asm); omega
    intro yy t6 h' tk' hyy F' N'
    (try k_sweep)
    (try k_fold)
    k_steps
    unfold StopP
    (k_dflt (refine' Ctr.use (c_year _ _ _ _ _ (by assumption) (by omega)) ?B ?F ?X ?N ?T ?hk ?h1 ?h2 ?_; (case B => k_asm); (case F => k_asm); (case X => k_asm); (case N => k_asm); (case T => k_asm); (case hk => first | exact rfl | assumption); (case h1 => ktr_room); (case h2 => ktr_units)))
    intro h' tk' nw v F' N' hp
    obtain ⟨t', l', vs', k', n1', n2', he, m1, m2, hI'⟩ := hp
    subst he
    replace N' := cb_drop N' (List.forall_mem_cons.mpr ⟨List.mem_append_left _ m1, List.forall_mem_cons.mpr ⟨List.mem_append_left _ m2, fun p h => List.mem_append_right _ h⟩⟩)
    clear m1 m2
    have hlen9 := lens_len yy hk7
    have hmb9 := months_bd kk
    have hme := months_eq kk
    (try k_sweep)
    (try k_fold)
    k_steps
    unfold StopP
    refine' if_mid (Str.ofString "month") (fun r => (0 ≤ r ∧ r < months kk) ∧ (kk ≠ 4 ∨ 1 ≤ r)) ?cF ?cN ?c1 ?c2
    case cF => k_asm
    case cN => k_asm
    case c1 =>
      refine wpAny_If ?_
      k_steps
      all_goals unfold StopP
      · refine KMid.set ?_ (by k_asm) (by k_asm); omega
      all_goals (refine KMid.keep rfl ?_ (by k_asm) (by k_asm); omega)
    intro mo t7 h' tk' hmo F' N'
    (try k_sweep)
    (try k_fold)
    k_steps
    unfold StopP
    (k_dflt (refine' Ctr.use (c_length2 _ _ _ _ _ _ _ (by unfold leafOk; omega) (by omega) (by omega)) ?B ?F ?X ?N ?T ?hk ?h1 ?h2 ?_; (case B => k_asm); (case F => k_asm); (case X => k_asm); (case N => k_asm); (case T => k_asm); (case hk => first | exact rfl | assumption); (case h1 => ktr_room); (case h2 => ktr_units)))
    intro h' tk' nw v F' N' hp
    obtain ⟨hok9, hJ9, hL9, hG9, tL, rfl⟩ := hp
    replace N' := cb_drop N' (fun p h => List.mem_append_right _ h)
    (try k_sweep)
    (try k_fold)
    k_steps
    unfold StopP
    refine' rows_range' hJ9 hL9 rfl ?rr rfl ?rF ?rN ?rm ?rd ?rturn ?rdone
    case rr => assumption
    case rF => k_asm
    case rN => k_asm
    case rm => rfl
    case rd => exact rd_of (by assumption) (by assumption)
    case rturn =>
      intro i9 t9 u9 rw9 vs9 ws9 k19 k29 tl9 h9' tk9' own9 hi9 hd9 hb9 D19 D29 hv9 hw9 hoff9 F9' N9'
      obtain ⟨hA9, hB9⟩ := rj_apart hd9 hoff9
      have hlm9 := List.mem_append_left own9 (hb9 (l', listOf vs'.toArray n2') (.tail _ (.tail _ (.head _))))
      (try k_sweep)
      (try k_fold)
      k_steps
      unfold StopP
      refine' set_U ?sF ?sN (Upd.head (hA9 _)) ?s0 ?sz ?sh
      case sF => k_asm
      case sN => k_asm
      case s0 => omega
      case sz => omega
      case sh =>
        intro h8 F8 N8
        (try k_sweep)
        (try k_fold)
        k_steps
        all_goals unfold StopP
        rotate_left 2
        · refine' rj_keep hd9 hb9 D19 D29 hoff9 ?kF ?kN ?kc ?k1 ?k2
          case kF => k_asm
          case kN => k_asm
          case kc => omega
          case k1 => rfl
          case k2 => (intro x e1 e2 e3; simp [e1, e2, e3])
        all_goals
          refine' app_U ?aF ?aN (Upd.tail ?ut (Upd.head ?ud)) ?az ?ah
          case aF => k_asm
          case aN => k_asm
          case ut => exact hd9.1
          case ud => exact hB9
          case az => omega
          case ah =>
            intro h7 F7 N7
            (try k_sweep)
            (try k_fold)
            k_steps
            unfold StopP
            refine' rj_app hd9 hb9 D19 D29 hoff9 ?gF ?gN ?gc ?gn ?g1 ?g2
            case gF => k_asm
            case gN => k_asm
            case gc => omega
            case gn => exact hn_of (by assumption)
            case g1 => rfl
            case g2 => (intro x e1 e2 e3; simp [e1, e2, e3])
    case rdone =>
      intro u9 rw9 vs9 ws9 k19 k29 tl9 h9' tk9' hb9 D19 F9' N9'
      (try dsimp only)
      (try k_sweep)
      (try k_fold)
      k_steps
      unfold StopP
      (k_dflt (refine' Ctr.use (c_leaf _ _ _ _ _ _ _ hok9) ?B ?F ?X ?N ?T ?hk ?h1 ?h2 ?_; (case B => k_asm); (case F => k_asm); (case X => k_asm); (case N => k_asm); (case T => k_asm); (case hk => first | exact rfl | assumption); (case h1 => ktr_room); (case h2 => ktr_units)))
      intro h' tk' nw v F' N' hp
      (try k_sweep)
      (try k_fold)
      k_steps
      refine' ne_same ?eN hp ?es1 (DatIn.list (news := (_, listOf vs9.toArray k19) :: tl9) (.head _) (DatAll.mono (fun p h => .tail _ h) D19)) ?es2 (grid_ok _ _) ?eu ?er
      case eN => k_asm
      case es1 => exact fun p h => List.mem_append_left _ h
      case es2 => exact fun p h => List.mem_append_right _ (.tail _ h)
      case eu => ktr_units
      case er =>
        (try dsimp only)
        (try k_fold)
        k_steps
        unfold StopP
        refine' kst_end () ?zF ?zN ?zn ?zo ?za ?zf ?zk ?zr ?zp
        case zF => k_asm
        case zN => k_asm
        case zn => exact fun p hp => List.mem_append_right _ (.tail _ (.tail _ (hb9 p (.tail _ (.tail _ (.tail _ (List.mem_append_left _ hp)))))))
        case zo => exact fun p hp => List.mem_append_right _ (.tail _ (.tail _ (hb9 p (.tail _ (.tail _ (.tail _ (List.mem_append_right _ hp)))))))
        case za => rfl
        case zf => trivial
        case zk => exact fun _ h => nomatch h
        case zr =>
          intro z h1 _ h3
          obtain ⟨e1, e2, e3, e4, e5, e6, e7, e8⟩ := not_in8 h3
          simp only [h1, e1, e2, e3, e4, e5, e6, e7, e8, if_false, kstB, h3, Bool.false_eq_true]
        case zp => trivial
  case done =>
    intro c u h9 tk9 _ _ F9 N9
    (try dsimp only)
    (try k_sweep)
    (try k_fold)
    k_steps)
end Mine
theorem PySem.Challenge.cw_ak5016_01_holds : PySem.Challenge.rw_ak5016_01.Holds := by
  exact Mine.t8
