import PyProof.Rows.All
import Wide.All
import OpenK.AllK
import Wide.FinOn
import PySem.Challenge.RW_ak5019_01
open PySem PySem.W PyProof.Rows
set_option Elab.async false
set_option rowWalk.seconds 0
set_option linter.unusedVariables false
section
open PySem PySem.W PyProof.Rows
set_option linter.unusedVariables false
namespace Mine
open PySem PySem.Float64

/-- the double whose value is n / 2 -/
def H (n : Int) : UInt64 := ofFrac (decide (n < 0)) n.natAbs 2

theorem rep {n j : Nat} (hn : n < 2 ^ 53) (h1 : 52 ≤ j) (h2 : j ≤ 1073) : ∃ t, t < infMag ∧ V t = n * 2 ^ j := by
  by_cases h0 : n = 0
  · subst h0
    exact ⟨0, by decide, by rw [V_zero, Nat.zero_mul]⟩
  · have ha : 2 ^ n.log2 ≤ n := Nat.log2_self_le h0
    have hb : n < 2 ^ (n.log2 + 1) := Nat.lt_log2_self
    have hl : n.log2 ≤ 52 := by
      have : n.log2 < 53 := (Nat.log2_lt h0).mpr hn
      omega
    have e1 : (2 : Nat) ^ 52 = 2 ^ n.log2 * 2 ^ (52 - n.log2) := by rw [← Nat.pow_add]; congr 1; omega
    have e2 : (2 : Nat) ^ 53 = 2 ^ (n.log2 + 1) * 2 ^ (52 - n.log2) := by rw [← Nat.pow_add]; congr 1; omega
    have hp : 0 < (2 : Nat) ^ (52 - n.log2) := Nat.two_pow_pos _
    have q1 : 2 ^ 52 ≤ n * 2 ^ (52 - n.log2) := by rw [e1]; exact Nat.mul_le_mul_right _ ha
    have q2 : n * 2 ^ (52 - n.log2) < 2 ^ 53 := by rw [e2]; exact Nat.mul_lt_mul_of_pos_right hb hp
    refine ⟨(j - (52 - n.log2)) * 2 ^ 52 + n * 2 ^ (52 - n.log2), ?_, ?_⟩
    · have : infMag = 2047 * 2 ^ 52 := rfl
      generalize n * 2 ^ (52 - n.log2) = q at *
      omega
    · rw [V_at (Nat.le_of_lt q2) (.inl q1), Nat.mul_assoc, ← Nat.pow_add]
      congr 2
      omega

theorem V_inj {t t' : Nat} (h : V t = V t') : t = t' := by
  rcases Nat.lt_trichotomy t t' with g | g | g
  · have := V_lt g; omega
  · exact g
  · have := V_lt g; omega

theorem big_lt {n D : Nat} (hD : 0 < D) (hn : n < 2 ^ 54) : ¬ D * ((2 ^ 54 - 1) * 2 ^ 2045) ≤ 2 * (D * (n * 2 ^ 1074)) := by
  intro h
  have e : (2 : Nat) ^ 2045 = 2 ^ 971 * 2 ^ 1074 := by rw [← Nat.pow_add]
  rw [e] at h
  have h2 : D * ((2 ^ 54 - 1) * (2 ^ 971 * 2 ^ 1074)) ≤ D * (2 * n * 2 ^ 1074) := by
    have : 2 * (D * (n * 2 ^ 1074)) = D * (2 * n * 2 ^ 1074) := by
      rw [Nat.mul_assoc, ← Nat.mul_assoc 2 D, Nat.mul_comm 2 D, Nat.mul_assoc]
    rw [this] at h; exact h
  have h3 := Nat.le_of_mul_le_mul_left h2 hD
  rw [← Nat.mul_assoc] at h3
  have h4 := Nat.le_of_mul_le_mul_right h3 (Nat.two_pow_pos 1074)
  have h5 : (2 ^ 54 - 1) * 2 ^ 2 ≤ (2 ^ 54 - 1) * 2 ^ 971 := Nat.mul_le_mul_left _ (Nat.pow_le_pow_right (by decide) (by decide))
  omega

theorem exact_of_right {r : UInt64} {neg : Bool} {D t0 n : Nat} (hD : 0 < D) (hv : V t0 = n * 2 ^ 1073) (hn : n < 2 ^ 54) (R : Right r neg (D * V t0) D) : r = pack neg t0 := by
  obtain ⟨t, hr, hle, hiff, hn'⟩ := R
  have hlt : t < infMag := by
    refine Nat.lt_of_le_of_ne hle fun e => ?_
    have := hiff.mp e
    rw [hv] at this
    refine big_lt (n := n) hD hn (Nat.le_trans this ?_)
    refine Nat.mul_le_mul_left _ (Nat.mul_le_mul_left _ (Nat.mul_le_mul_left _ ?_))
    exact Nat.pow_le_pow_right (by decide) (by decide)
  have h0 := (hn' hlt t0).1
  have e : D * V t0 = D * V t := by
    unfold dist at h0
    omega
  have := V_inj (Nat.eq_of_mul_eq_mul_left hD e)
  rw [hr, ← this]

theorem H_pack {n : Int} (h : n.natAbs < 2 ^ 53) : ∃ t, t < infMag ∧ H n = pack (decide (n < 0)) t ∧ V t = n.natAbs * 2 ^ 1073 := by
  obtain ⟨t, ht, hv⟩ := rep (j := 1073) h (by decide) (by decide)
  refine ⟨t, ht, ?_, hv⟩
  have R : Right (H n) (decide (n < 0)) (1 * V t) 1 := by
    unfold H
    refine ofFrac_right (by decide) ?_ (by decide)
    rw [hv, Nat.one_mul, Nat.mul_one]
    have : (2 : Nat) ^ 1074 = 2 ^ 1073 * 2 := by rw [← Nat.pow_succ]
    rw [this, Nat.mul_assoc]
  exact exact_of_right (by decide) hv (by omega) R

theorem sgn_int (n : Int) (k : Nat) : sgn (decide (n < 0)) (n.natAbs * k) = n * (k : Int) := by
  unfold sgn
  by_cases h : n < 0
  · rw [if_pos (by simpa using h), Int.natCast_mul]
    have : (n.natAbs : Int) = -n := by omega
    rw [this, Int.neg_mul, Int.neg_neg]
  · rw [if_neg (by simpa using h), Int.natCast_mul]
    have : (n.natAbs : Int) = n := by omega
    rw [this]

theorem H_dec {n : Int} (h : n.natAbs < 2 ^ 53) : ∃ m e, decode (H n) = .fin (decide (n < 0)) m e ∧ val (H n) = n * ((2 ^ 1073 : Nat) : Int) ∧ m * 2 ^ (e + 1074).toNat = n.natAbs * 2 ^ 1073 := by
  obtain ⟨t, ht, hp, hv⟩ := H_pack h
  obtain ⟨m, e, hd, hm⟩ := decode_pack (decide (n < 0)) ht
  refine ⟨m, e, by rw [hp]; exact hd, ?_, by rw [hm, hv]⟩
  rw [hp, val_pack _ ht, hv, sgn_int]

theorem H_of_right {n : Int} {r : UInt64} {c : Nat} (h : n.natAbs < 2 ^ 53) (hc : 0 < c) (R : Right r (decide (n < 0)) (c * (n.natAbs * 2 ^ 1073)) c) : r = H n := by
  obtain ⟨t, ht, hp, hv⟩ := H_pack h
  rw [hp]
  rw [← hv] at R
  exact exact_of_right hc hv (by omega) R

theorem ofInt_H {n : Int} (h : n.natAbs < 2 ^ 52) : ofInt n = H (2 * n) := by
  refine H_of_right (c := 1) (by omega) (by decide) ?_
  have R := ofInt_right n
  have e1 : decide (2 * n < 0) = decide (n < 0) := decide_eq_decide.mpr (by omega)
  have e2 : (2 * n).natAbs = n.natAbs * 2 := by omega
  have e3 : (2 : Nat) ^ 1074 = 2 * 2 ^ 1073 := by rw [Nat.mul_comm, ← Nat.pow_succ]
  rw [e1, e2, Nat.one_mul, Nat.mul_assoc, ← e3]
  exact R

theorem H0 : H 0 = zero false := by decide +kernel

theorem K_pos : (0 : Int) < ((2 ^ 1073 : Nat) : Int) := Int.ofNat_lt.mpr (Nat.two_pow_pos _)
theorem neg_mul_K (n : Int) : decide (n * ((2 ^ 1073 : Nat) : Int) < 0) = decide (n < 0) := by
  have := K_pos
  generalize ((2 ^ 1073 : Nat) : Int) = K at *
  apply decide_eq_decide.mpr
  constructor
  · intro h
    by_cases h2 : n < 0
    · exact h2
    · have := Int.mul_nonneg (show 0 ≤ n by omega) (Int.le_of_lt this)
      omega
  · intro h
    exact Int.mul_neg_of_neg_of_pos h this

theorem add_H {a b : Int} (ha : a.natAbs < 2 ^ 52) (hb : b.natAbs < 2 ^ 52) : Float64.add (H a) (H b) = H (a + b) := by
  obtain ⟨m, e, hd, hv, _⟩ := H_dec (n := a) (by omega)
  obtain ⟨k, f, hd', hv', _⟩ := H_dec (n := b) (by omega)
  have R := add_right hd hd'
  rw [hv, hv', ← Int.add_mul] at R
  by_cases h : a + b = 0
  · rw [h, Int.zero_mul] at R
    rw [R.1 rfl, h, H0]
    congr 1
    by_cases h1 : a < 0
    · have : ¬ b < 0 := by omega
      simp [this]
    · simp [h1]
  · have h1 : (a + b) * ((2 ^ 1073 : Nat) : Int) ≠ 0 := Int.mul_ne_zero h (Int.ne_of_gt K_pos)
    have R2 := R.2 h1
    rw [neg_mul_K, Int.natAbs_mul, Int.natAbs_natCast] at R2
    refine H_of_right (c := 1) (by omega) (by decide) ?_
    rw [Nat.one_mul]
    exact R2

theorem sub_H {a b : Int} (ha : a.natAbs < 2 ^ 52) (hb : b.natAbs < 2 ^ 52) : Float64.sub (H a) (H b) = H (a - b) := by
  obtain ⟨m, e, hd, hv, _⟩ := H_dec (n := a) (by omega)
  obtain ⟨k, f, hd', hv', _⟩ := H_dec (n := b) (by omega)
  have R := sub_right hd hd'
  rw [hv, hv', ← Int.sub_mul] at R
  by_cases h : a - b = 0
  · rw [h, Int.zero_mul] at R
    rw [R.1 rfl, h, H0]
    congr 1
    have : a = b := by omega
    subst this
    cases decide (a < 0) <;> rfl
  · have h1 : (a - b) * ((2 ^ 1073 : Nat) : Int) ≠ 0 := Int.mul_ne_zero h (Int.ne_of_gt K_pos)
    have R2 := R.2 h1
    rw [neg_mul_K, Int.natAbs_mul, Int.natAbs_natCast] at R2
    refine H_of_right (c := 1) (by omega) (by decide) ?_
    rw [Nat.one_mul]
    exact R2

theorem mul_H {a b : Int} (ha : a.natAbs < 2 ^ 32) (hb : b.natAbs < 2 ^ 20) (h0 : 0 < b) : Float64.mul (H a) (ofInt b) = H (a * b) := by
  rw [ofInt_H (by omega)]
  obtain ⟨m, e, hd, hv, _⟩ := H_dec (n := a) (by omega)
  obtain ⟨k, f, hd', hv', _⟩ := H_dec (n := 2 * b) (by omega)
  have R := mul_right hd hd'
  rw [hv, hv'] at R
  have s1 : (decide (a < 0) != decide (2 * b < 0)) = decide (a * b < 0) := by
    have : ¬ 2 * b < 0 := by omega
    rw [decide_eq_false this]
    have e : decide (a * b < 0) = decide (a < 0) := by
      apply decide_eq_decide.mpr
      constructor
      · intro h
        by_cases h2 : a < 0
        · exact h2
        · have := Int.mul_nonneg (show 0 ≤ a by omega) (Int.le_of_lt h0)
          omega
      · intro h
        exact Int.mul_neg_of_neg_of_pos h h0
    rw [e]
    cases decide (a < 0) <;> rfl
  have hab : (a * b).natAbs = a.natAbs * b.natAbs := Int.natAbs_mul ..
  have hlt : (a * b).natAbs < 2 ^ 53 := by
    rw [hab]
    have : a.natAbs * b.natAbs ≤ 2 ^ 32 * 2 ^ 20 := Nat.mul_le_mul (by omega) (by omega)
    omega
  refine H_of_right (c := 2 ^ 1074) hlt (Nat.two_pow_pos _) ?_
  rw [s1] at R
  rw [hab]
  have e2 : (2 * b).natAbs = 2 * b.natAbs := by omega
  rw [Int.natAbs_mul, Int.natAbs_mul, Int.natAbs_natCast, e2] at R
  have e3 : (2 : Nat) ^ 1074 = 2 * 2 ^ 1073 := by rw [Nat.mul_comm, ← Nat.pow_succ]
  have e4 : a.natAbs * 2 ^ 1073 * (2 * b.natAbs * 2 ^ 1073) = 2 ^ 1074 * (a.natAbs * b.natAbs * 2 ^ 1073) := by
    rw [e3]
    generalize (2 : Nat) ^ 1073 = K
    ac_rfl
  rw [e4] at R
  exact R

theorem cmpK (p q : Int) : compare (p * ((2 ^ 1073 : Nat) : Int)) (q * ((2 ^ 1073 : Nat) : Int)) = compare p q := by
  have hpos := K_pos
  generalize ((2 ^ 1073 : Nat) : Int) = K at *
  rcases Int.lt_trichotomy p q with h | h | h
  · rw [Int.compare_eq_lt.mpr h, Int.compare_eq_lt.mpr (Int.mul_lt_mul_of_pos_right h hpos)]
  · subst h; simp
  · rw [Int.compare_eq_gt.mpr h, Int.compare_eq_gt.mpr (Int.mul_lt_mul_of_pos_right h hpos)]

theorem cmp_H {a b : Int} (ha : a.natAbs < 2 ^ 53) (hb : b.natAbs < 2 ^ 53) : Float64.cmp (H a) (H b) = some (compare a b) := by
  obtain ⟨m, e, hd, hv, _⟩ := H_dec ha
  obtain ⟨k, f, hd', hv', _⟩ := H_dec hb
  rw [cmp_right hd hd', hv, hv', cmpK]

theorem cmpInt_H {a b : Int} (ha : a.natAbs < 2 ^ 53) : Float64.cmpInt (H a) b = some (compare a (2 * b)) := by
  obtain ⟨m, e, hd, hv, _⟩ := H_dec ha
  rw [cmpInt_right hd, hv, ← cmpK a (2 * b)]
  congr 2
  have e3 : (2 : Int) ^ 1074 = 2 * ((2 ^ 1073 : Nat) : Int) := by
    have : ((2 ^ 1073 : Nat) : Int) = (2 : Int) ^ 1073 := by simp
    rw [this, Int.mul_comm, ← Int.pow_succ]
  rw [e3]
  generalize ((2 ^ 1073 : Nat) : Int) = K
  rw [← Int.mul_assoc, Int.mul_comm b 2]

theorem isZero_H {a : Int} (ha : a.natAbs < 2 ^ 53) : Float64.isZero (H a) = decide (a = 0) := by
  obtain ⟨m, e, hd, _, hm⟩ := H_dec ha
  unfold Float64.isZero
  rw [hd]
  have hK : 0 < (2 : Nat) ^ 1073 := Nat.two_pow_pos _
  by_cases h : a = 0
  · subst h
    have : m = 0 := by
      rw [show (0 : Int).natAbs = 0 from rfl, Nat.zero_mul] at hm
      rcases Nat.mul_eq_zero.mp hm with h | h
      · exact h
      · exact absurd h (Nat.ne_of_gt (Nat.two_pow_pos _))
    subst this
    rfl
  · have : m ≠ 0 := by
      rintro rfl
      rw [Nat.zero_mul] at hm
      rcases Nat.mul_eq_zero.mp hm.symm with h' | h'
      · omega
      · omega
    cases m with
    | zero => exact absurd rfl this
    | succ k => simp [h]

theorem fin_H {a : Int} (ha : a.natAbs < 2 ^ 53) : Float64.isNaN (H a) = false ∧ Float64.isInf (H a) = false := by
  obtain ⟨m, e, hd, _, hm⟩ := H_dec ha
  unfold Float64.isNaN Float64.isInf
  rw [hd]
  exact ⟨rfl, rfl⟩

theorem floorOf_val {x : UInt64} {s : Bool} {m : Nat} {e : Int} (hd : decode x = .fin s m e) : floorOf s m e = val x / ((2 ^ 1074 : Nat) : Int) := by
  have he := decode_ge hd
  rw [val_eq hd, sgn_mul]
  unfold floorOf
  have hpos : ∀ n : Nat, (0 : Int) < ((2 ^ n : Nat) : Int) := fun n => Int.ofNat_lt.mpr (Nat.two_pow_pos _)
  have hpow : ∀ n : Nat, (2 : Int) ^ n = ((2 ^ n : Nat) : Int) := fun n => by simp
  split
  · rename_i h
    have e1 : (2 : Nat) ^ (e + 1074).toNat = 2 ^ e.toNat * 2 ^ 1074 := by rw [← Nat.pow_add]; congr 1; omega
    rw [e1, Int.natCast_mul, ← Int.mul_assoc, Int.mul_ediv_cancel _ (Int.ne_of_gt (hpos 1074)), hpow]
  · rename_i h
    have e1 : (2 : Nat) ^ 1074 = 2 ^ (-e).toNat * 2 ^ (e + 1074).toNat := by rw [← Nat.pow_add]; congr 1; omega
    rw [e1, Int.natCast_mul, Int.mul_ediv_mul_of_pos_left _ _ (hpos _), hpow, Int.fdiv_eq_ediv_of_nonneg _ (Int.le_of_lt (hpos _))]

theorem floor_H {a : Int} (ha : a.natAbs < 2 ^ 53) : Flt.toInt Float64.floorOf (H a) = a / 2 := by
  obtain ⟨m, e, hd, hv, _⟩ := H_dec ha
  rw [Flt.toInt_fin hd, floorOf_val hd, hv]
  have e1 : (2 : Nat) ^ 1074 = 2 * 2 ^ 1073 := by rw [Nat.mul_comm, ← Nat.pow_succ]
  rw [e1, Int.natCast_mul, Int.mul_ediv_mul_of_pos_left _ _ K_pos]
  rfl

theorem trunc_H {a : Int} (ha : a.natAbs < 2 ^ 53) (h0 : 0 ≤ a) : Flt.toInt Float64.truncOf (H a) = a / 2 := by
  obtain ⟨m, e, hd, hv, _⟩ := H_dec ha
  have := floor_H ha
  rw [Flt.toInt_fin hd] at this ⊢
  rw [← this]
  unfold truncOf
  have : ¬ a < 0 := by omega
  rw [decide_eq_false this]
  rfl
end Mine
end

section
open PySem PySem.W PyProof.Rows
set_option linter.unusedVariables false
namespace Mine
open PySem PySem.Float64

theorem near {W D x y : Nat} (h : dist W (D * x) ≤ dist W (D * y)) : (W ≤ D * y ∧ D * y < D * x → False) ∧ (D * x < D * y ∧ D * y ≤ W → False) := by
  unfold dist at h
  constructor
  · rintro ⟨h1, h2⟩
    omega
  · rintro ⟨h1, h2⟩
    omega

theorem quot_bounds {r : UInt64} {neg : Bool} {n d : Nat} (hd : 0 < d) (hd2 : d < 2 ^ 20) (hn : n < 2 ^ 32) (R : Right r neg (n * 2 ^ 1074) d) :
    ∃ t, t < infMag ∧ r = pack neg t ∧
      (∀ N, N < 2 ^ 33 → N * d ≤ n → N * 2 ^ 1074 ≤ V t) ∧ (∀ N, N < 2 ^ 33 → n + 1 ≤ N * d → V t < N * 2 ^ 1074) ∧
      (∀ N, N < 2 ^ 33 → n ≤ N * d → V t ≤ N * 2 ^ 1074) ∧ (∀ N, N < 2 ^ 33 → N * d + 1 ≤ n → N * 2 ^ 1074 < V t) := by
  obtain ⟨t, hr, hle, hiff, hn'⟩ := R
  have hlt : t < infMag := by
    refine Nat.lt_of_le_of_ne hle fun e => ?_
    have h := hiff.mp e
    refine big_lt (n := n) (D := d) hd (by omega) (Nat.le_trans h ?_)
    refine Nat.mul_le_mul_left _ ?_
    have := Nat.mul_le_mul_right (n * 2 ^ 1074) (show 1 ≤ d from hd)
    omega
  have near' := fun t' => near (hn' hlt t').1
  have eK : (2 : Nat) ^ 1074 = 2 ^ 20 * 2 ^ 1054 := by rw [← Nat.pow_add]
  have eJ : (2 : Nat) ^ 1074 = 2 * 2 ^ 1073 := by rw [Nat.mul_comm, ← Nat.pow_succ]
  have hK : 0 < (2 : Nat) ^ 1054 := Nat.two_pow_pos _
  refine ⟨t, hlt, hr, ?_, ?_, ?_, ?_⟩
  · intro N hN h
    obtain ⟨t1, _, hv1⟩ := rep (n := 2 * N) (j := 1073) (by omega) (by decide) (by decide)
    have hv : V t1 = N * 2 ^ 1074 := by rw [hv1, eJ, Nat.mul_comm 2 N, Nat.mul_assoc]
    rw [← hv]
    refine Nat.le_of_not_lt fun hc => (near' t1).2 ⟨Nat.mul_lt_mul_of_pos_left hc hd, ?_⟩
    rw [hv, ← Nat.mul_assoc, Nat.mul_comm d N]
    exact Nat.mul_le_mul_right _ h
  · intro N hN h
    obtain ⟨t1, _, hv1⟩ := rep (n := N * 2 ^ 20 - 1) (j := 1054) (by omega) (by decide) (by decide)
    have hN0 : 0 < N := by
      refine Nat.pos_of_ne_zero ?_
      rintro rfl
      omega
    refine Nat.lt_of_not_le fun hc => (near' t1).1 ⟨?_, ?_⟩
    · rw [hv1, eK, ← Nat.mul_assoc, ← Nat.mul_assoc]
      refine Nat.mul_le_mul_right _ ?_
      have e : d * (N * 2 ^ 20 - 1) = N * d * 2 ^ 20 - d := by
        rw [Nat.mul_sub, Nat.mul_one, ← Nat.mul_assoc, Nat.mul_comm d N]
      rw [e]
      generalize N * d = P at *
      omega
    · refine Nat.lt_of_lt_of_le ?_ (Nat.mul_le_mul_left d hc)
      refine Nat.mul_lt_mul_of_pos_left ?_ hd
      rw [hv1, eK, ← Nat.mul_assoc]
      exact Nat.mul_lt_mul_of_pos_right (by omega) hK
  · intro N hN h
    obtain ⟨t1, _, hv1⟩ := rep (n := 2 * N) (j := 1073) (by omega) (by decide) (by decide)
    have hv : V t1 = N * 2 ^ 1074 := by rw [hv1, eJ, Nat.mul_comm 2 N, Nat.mul_assoc]
    rw [← hv]
    refine Nat.le_of_not_lt fun hc => (near' t1).1 ⟨?_, Nat.mul_lt_mul_of_pos_left hc hd⟩
    rw [hv, ← Nat.mul_assoc, Nat.mul_comm d N]
    exact Nat.mul_le_mul_right _ h
  · intro N hN h
    obtain ⟨t1, _, hv1⟩ := rep (n := N * 2 ^ 20 + 1) (j := 1054) (by omega) (by decide) (by decide)
    refine Nat.lt_of_not_le fun hc => (near' t1).2 ⟨?_, ?_⟩
    · refine Nat.lt_of_le_of_lt (Nat.mul_le_mul_left d hc) ?_
      refine Nat.mul_lt_mul_of_pos_left ?_ hd
      rw [hv1, eK, ← Nat.mul_assoc]
      exact Nat.mul_lt_mul_of_pos_right (by omega) hK
    · rw [hv1, eK, ← Nat.mul_assoc, ← Nat.mul_assoc]
      refine Nat.mul_le_mul_right _ ?_
      have e : d * (N * 2 ^ 20 + 1) = N * d * 2 ^ 20 + d := by
        rw [Nat.mul_add, Nat.mul_one, ← Nat.mul_assoc, Nat.mul_comm d N]
      rw [e]
      generalize N * d = P at *
      omega

theorem floor_quot {r : UInt64} {a : Int} {d : Nat} (hd : 0 < d) (hd2 : d < 2 ^ 20) (hn : a.natAbs < 2 ^ 32) (R : Right r (decide (a < 0)) (a.natAbs * 2 ^ 1074) d) :
    Float64.isNaN r = false ∧ Float64.isInf r = false ∧ Flt.toInt Float64.floorOf r = a / (d : Int) := by
  obtain ⟨t, ht, hr, b1, b2, b3, b4⟩ := quot_bounds hd hd2 hn R
  obtain ⟨m, e, hdec, _⟩ := decode_pack (decide (a < 0)) ht
  have hv := val_pack (decide (a < 0)) ht
  rw [← hr] at hdec hv
  refine ⟨by unfold Float64.isNaN; rw [hdec], by unfold Float64.isInf; rw [hdec], ?_⟩
  rw [Flt.toInt_fin hdec, floorOf_val hdec, hv]
  have hKi : (0 : Int) < ((2 ^ 1074 : Nat) : Int) := Int.ofNat_lt.mpr (Nat.two_pow_pos _)
  by_cases h0 : a < 0
  · have hs : sgn (decide (a < 0)) (V t) = -(V t : Int) := by unfold sgn; rw [if_pos (by simpa using h0)]
    rw [hs]
    -- N = ceil (|a| / d)
    obtain ⟨N, hN1, hN2, hN3⟩ : ∃ N, N * d + 1 ≤ a.natAbs ∧ a.natAbs ≤ (N + 1) * d ∧ N < 2 ^ 32 := by
      refine ⟨(a.natAbs - 1) / d, ?_, ?_, ?_⟩
      · have := Nat.div_mul_le_self (a.natAbs - 1) d
        omega
      · have h := Nat.lt_div_mul_add (a := a.natAbs - 1) hd
        rw [Nat.add_mul, Nat.one_mul]
        omega
      · have := Nat.div_le_self (a.natAbs - 1) d
        omega
    have c1 := b4 N (by omega) hN1
    have c2 := b3 (N + 1) (by omega) hN2
    have eq : a / (d : Int) = -((N : Int) + 1) := by
      have hdI : (0 : Int) < (d : Int) := Int.ofNat_lt.mpr hd
      have x1 : ((N * d + 1 : Nat) : Int) ≤ a.natAbs := Int.ofNat_le.mpr hN1
      have x2 : (a.natAbs : Int) ≤ (((N + 1) * d : Nat) : Int) := Int.ofNat_le.mpr hN2
      have x3 : (a.natAbs : Int) = -a := by omega
      rw [x3] at x1 x2
      have l1 : -((N : Int) + 1) ≤ a / (d : Int) := by
        refine (Int.le_ediv_iff_mul_le hdI).mpr ?_
        simp only [Int.natCast_mul, Int.natCast_add, Int.natCast_one] at x2
        rw [Int.neg_mul]
        omega
      have l2 : a / (d : Int) < -(N : Int) := by
        refine (Int.ediv_lt_iff_lt_mul hdI).mpr ?_
        simp only [Int.natCast_mul, Int.natCast_add, Int.natCast_one] at x1
        rw [Int.neg_mul]
        omega
      omega
    rw [eq]
    have y1 : ((N * 2 ^ 1074 : Nat) : Int) < (V t : Int) := Int.ofNat_lt.mpr c1
    have y2 : (V t : Int) ≤ (((N + 1) * 2 ^ 1074 : Nat) : Int) := Int.ofNat_le.mpr c2
    rw [Int.natCast_mul] at y1 y2
    generalize ((2 ^ 1074 : Nat) : Int) = K at *
    have l1 : -((N : Int) + 1) ≤ -(V t : Int) / K := by
      refine (Int.le_ediv_iff_mul_le hKi).mpr ?_
      rw [Int.neg_mul]
      simp only [Int.natCast_add, Int.natCast_one] at y2
      omega
    have l2 : -(V t : Int) / K < -(N : Int) := by
      refine (Int.ediv_lt_iff_lt_mul hKi).mpr ?_
      rw [Int.neg_mul]
      omega
    omega
  · have hs : sgn (decide (a < 0)) (V t) = (V t : Int) := by unfold sgn; rw [if_neg (by simpa using h0)]
    rw [hs]
    have c1 := b1 (a.natAbs / d) (by have := Nat.div_le_self a.natAbs d; omega) (Nat.div_mul_le_self _ _)
    have c2 := b2 (a.natAbs / d + 1) (by have := Nat.div_le_self a.natAbs d; omega) (by
      have h := Nat.lt_div_mul_add (a := a.natAbs) hd
      rw [Nat.add_mul, Nat.one_mul]
      omega)
    have eq : a / (d : Int) = ((a.natAbs / d : Nat) : Int) := by
      have : a = (a.natAbs : Int) := by omega
      rw [this, Int.natAbs_natCast, Int.natCast_ediv]
    rw [eq]
    generalize a.natAbs / d = N at *
    have y1 : ((N * 2 ^ 1074 : Nat) : Int) ≤ (V t : Int) := Int.ofNat_le.mpr c1
    have y2 : (V t : Int) < (((N + 1) * 2 ^ 1074 : Nat) : Int) := Int.ofNat_lt.mpr c2
    rw [Int.natCast_mul] at y1 y2
    generalize ((2 ^ 1074 : Nat) : Int) = K at *
    have l1 : (N : Int) ≤ (V t : Int) / K := (Int.le_ediv_iff_mul_le hKi).mpr y1
    have l2 : (V t : Int) / K < (N : Int) + 1 := by
      refine (Int.ediv_lt_iff_lt_mul hKi).mpr ?_
      simp only [Int.natCast_add, Int.natCast_one] at y2
      exact y2
    omega

/-- a / b of two ints, as the model makes it -/
theorem floor_ii {a b : Int} (ha : a.natAbs < 2 ^ 32) (hb : 0 < b) (hb2 : b < 2 ^ 20) :
    Float64.isNaN (ofFrac (decide (a < 0) != decide (b < 0)) a.natAbs b.natAbs) = false ∧ Float64.isInf (ofFrac (decide (a < 0) != decide (b < 0)) a.natAbs b.natAbs) = false ∧
      Flt.toInt Float64.floorOf (ofFrac (decide (a < 0) != decide (b < 0)) a.natAbs b.natAbs) = a / b := by
  have s : (decide (a < 0) != decide (b < 0)) = decide (a < 0) := by
    rw [decide_eq_false (show ¬ b < 0 by omega)]
    cases decide (a < 0) <;> rfl
  have eb : b = (b.natAbs : Int) := by omega
  rw [s]
  have R : Right (ofFrac (decide (a < 0)) a.natAbs b.natAbs) (decide (a < 0)) (a.natAbs * 2 ^ 1074) b.natAbs := ofFrac_right (by omega) rfl (by omega)
  have := floor_quot (a := a) (d := b.natAbs) (by omega) (by omega) ha R
  rw [← eb] at this
  exact this

theorem Right.scale {r : UInt64} {neg : Bool} {W D c : Nat} (hc : 0 < c) (R : Right r neg (c * W) (c * D)) : Right r neg W D := by
  obtain ⟨t, hr, hle, hiff, hn⟩ := R
  refine ⟨t, hr, hle, ?_, fun hlt t' => ?_⟩
  · rw [hiff, Nat.mul_assoc, show 2 * (c * W) = c * (2 * W) by ac_rfl]
    exact ⟨fun h => Nat.le_of_mul_le_mul_left h hc, fun h => Nat.mul_le_mul_left _ h⟩
  · have h := hn hlt t'
    simp only [Nat.mul_assoc c D, dist_mul] at h
    exact ⟨Nat.le_of_mul_le_mul_left h.1 hc, fun h1 h2 => h.2 h1 (by rw [h2])⟩

/-- (n / 2) / b, floored -/
theorem floor_div {a b : Int} (ha : a.natAbs < 2 ^ 32) (hb : 0 < b) (hb2 : b < 2 ^ 19) :
    Float64.isNaN (Float64.div (H a) (ofInt b)) = false ∧ Float64.isInf (Float64.div (H a) (ofInt b)) = false ∧ Flt.toInt Float64.floorOf (Float64.div (H a) (ofInt b)) = a / (2 * b) := by
  rw [ofInt_H (by omega)]
  obtain ⟨m, e, hd, hv, _⟩ := H_dec (n := a) (by omega)
  obtain ⟨k, f, hd', hv', hm'⟩ := H_dec (n := 2 * b) (by omega)
  have hk : k ≠ 0 := by
    rintro rfl
    rw [Nat.zero_mul] at hm'
    have hp : 0 < (2 * b).natAbs * 2 ^ 1073 := Nat.mul_pos (by omega) (Nat.two_pow_pos _)
    rw [← hm'] at hp
    exact Nat.lt_irrefl _ hp
  have R := div_right hd hd' hk
  have s : (decide (a < 0) != decide (2 * b < 0)) = decide (a < 0) := by
    rw [decide_eq_false (show ¬ 2 * b < 0 by omega)]
    cases decide (a < 0) <;> rfl
  rw [s, hv, hv', Int.natAbs_mul, Int.natAbs_mul, Int.natAbs_natCast] at R
  have R2 : Right (Float64.div (H a) (H (2 * b))) (decide (a < 0)) (a.natAbs * 2 ^ 1074) (2 * b).natAbs := by
    refine Right.scale (c := 2 ^ 1073) (Nat.two_pow_pos _) ?_
    have e1 : ∀ x K J : Nat, K * (x * J) = x * K * J := fun x K J => by ac_rfl
    have e2 : ∀ x K : Nat, K * x = x * K := fun x K => Nat.mul_comm ..
    rw [e1, e2 (2 * b).natAbs]
    exact R
  have := floor_quot (a := a) (d := (2 * b).natAbs) (by omega) (by omega) ha R2
  have eb : (((2 * b).natAbs : Nat) : Int) = 2 * b := by omega
  rw [eb] at this
  exact this

theorem ofBin_right {neg : Bool} {M : Nat} {g : Int} (hg : -1074 ≤ g) : Right (ofBin neg M g) neg (M * 2 ^ (g + 1074).toNat) 1 := by
  unfold ofBin
  refine ofFrac_right (shift_pos _ _ _ (by decide)) ?_ (by decide)
  have := shift_one M g 1074 (by omega)
  rw [Nat.mul_one]
  exact this

theorem fmod_H {a b : Int} (ha : a.natAbs < 2 ^ 52) (hb : 0 < b) (hb2 : b < 2 ^ 52) :
    ∃ t, t < infMag ∧ Float64.fmod (H a) (H b) = pack (decide (a < 0)) t ∧ V t = (a.natAbs % b.natAbs) * 2 ^ 1073 := by
  obtain ⟨m, e, hd, hv, hm⟩ := H_dec (n := a) (by omega)
  obtain ⟨k, f, hd', hv', hm'⟩ := H_dec (n := b) (by omega)
  have hk : k ≠ 0 := by
    rintro rfl
    rw [Nat.zero_mul] at hm'
    have hp : 0 < b.natAbs * 2 ^ 1073 := Nat.mul_pos (by omega) (Nat.two_pow_pos _)
    rw [← hm'] at hp
    exact Nat.lt_irrefl _ hp
  have he := decode_ge hd
  have hf := decode_ge hd'
  have hfm : Float64.fmod (H a) (H b) = ofBin (decide (a < 0)) ((m * 2 ^ (e - min e f).toNat) % (k * 2 ^ (f - min e f).toNat)) (min e f) := by
    unfold Float64.fmod
    rw [hd, hd']
    simp only
    rw [if_neg (by simpa using hk)]
    rfl
  have R := ofBin_right (neg := decide (a < 0)) (M := (m * 2 ^ (e - min e f).toNat) % (k * 2 ^ (f - min e f).toNat)) (g := min e f) (by omega)
  rw [← hfm, ← Nat.mul_mod_mul_right, Nat.mul_assoc, Nat.mul_assoc, ← Nat.pow_add, ← Nat.pow_add] at R
  have e1 : (e - min e f).toNat + (min e f + 1074).toNat = (e + 1074).toNat := by omega
  have e2 : (f - min e f).toNat + (min e f + 1074).toNat = (f + 1074).toNat := by omega
  rw [e1, e2, hm, hm', Nat.mul_mod_mul_right] at R
  have hlt : a.natAbs % b.natAbs < 2 ^ 53 := Nat.lt_of_le_of_lt (Nat.mod_le _ _) (by omega)
  obtain ⟨t, ht, hvt⟩ := rep (n := a.natAbs % b.natAbs) (j := 1073) hlt (by decide) (by decide)
  refine ⟨t, ht, exact_of_right (D := 1) (by decide) hvt (by omega) ?_, hvt⟩
  rw [hvt, Nat.one_mul]
  exact R

theorem mod_HH {a b : Int} (ha : a.natAbs < 2 ^ 50) (hb : 0 < b) (hb2 : b < 2 ^ 50) : (Float64.divmod (H a) (H b)).2 = H (a % b) := by
  obtain ⟨t, ht, hfm, hvt⟩ := fmod_H (a := a) (b := b) (by omega) hb (by omega)
  have hmod : a.natAbs % b.natAbs < b.natAbs := Nat.mod_lt _ (by omega)
  obtain ⟨kb, eb, hdb, hvb, _⟩ := H_dec (n := b) (by omega)
  by_cases h0 : a.natAbs % b.natAbs = 0
  · rw [h0, Nat.zero_mul] at hvt
    have t0 : t = 0 := V_inj (by rw [hvt, V_zero])
    subst t0
    have hz : Float64.isZero (Float64.fmod (H a) (H b)) = true := by
      rw [hfm]
      cases decide (a < 0) <;> decide +kernel
    have hr : a % b = 0 := by
      have : b ∣ a := Int.natAbs_dvd_natAbs.mp (Nat.dvd_of_mod_eq_zero h0)
      exact Int.emod_eq_zero_of_dvd this
    unfold Float64.divmod
    simp only [hz, if_true]
    rw [hr, H0]
    have hc : copysign (zero false) (H b) = zero false := by
      have hs : signBit (H b) = false := by
        obtain ⟨t', ht', hp', _⟩ := H_pack (n := b) (by omega)
        rw [hp', decide_eq_false (show ¬ b < 0 by omega)]
        unfold signBit
        have hi : infMag = 2047 * 2 ^ 52 := rfl
        rw [pack_toNat false (by omega)]
        have : t' / 2 ^ 63 = 0 := by omega
        simp [this]
      unfold copysign
      rw [hs]
      decide +kernel
    rw [hc]
  · have hfm' : Float64.fmod (H a) (H b) = H (if a < 0 then -((a.natAbs % b.natAbs : Nat) : Int) else ((a.natAbs % b.natAbs : Nat) : Int)) := by
      have hnat : (if a < 0 then -((a.natAbs % b.natAbs : Nat) : Int) else ((a.natAbs % b.natAbs : Nat) : Int)).natAbs = a.natAbs % b.natAbs := by split <;> omega
      obtain ⟨t', ht', hp', hv'⟩ := H_pack (n := if a < 0 then -((a.natAbs % b.natAbs : Nat) : Int) else ((a.natAbs % b.natAbs : Nat) : Int)) (by rw [hnat]; omega)
      rw [hnat] at hv'
      have : t = t' := V_inj (by rw [hvt, hv'])
      subst this
      rw [hfm, hp']
      congr 1
      apply decide_eq_decide.mpr
      split <;> omega
    have hpos : 0 < a.natAbs % b.natAbs := Nat.pos_of_ne_zero h0
    generalize hr : a.natAbs % b.natAbs = r at *
    have hz : Float64.isZero (Float64.fmod (H a) (H b)) = false := by
      rw [hfm', isZero_H (by split <;> omega)]
      apply decide_eq_false
      split <;> omega
    have hlb : Float64.lt (H b) (zero false) = false := by
      unfold Float64.lt
      rw [← H0, cmp_H (by omega) (by decide)]
      have : compare b 0 = .gt := Int.compare_eq_gt.mpr hb
      rw [this]
      rfl
    have hlm : Float64.lt (Float64.fmod (H a) (H b)) (zero false) = decide (a < 0) := by
      unfold Float64.lt
      rw [hfm', ← H0, cmp_H (by split <;> omega) (by decide)]
      by_cases h : a < 0
      · rw [if_pos h, Int.compare_eq_lt.mpr (show -(r : Int) < 0 by omega), decide_eq_true h]
        rfl
      · rw [if_neg h, Int.compare_eq_gt.mpr (show (r : Int) > 0 by omega), decide_eq_false h]
        rfl
    unfold Float64.divmod
    simp only [hz, hlb, hlm, Bool.false_eq_true, if_false]
    by_cases h : a < 0
    · rw [decide_eq_true h]
      simp only [show (false != true) = true from rfl, if_true]
      rw [hfm', if_pos h, add_H (by omega) (by omega)]
      congr 1
      have h1 := Int.emod_add_mul_ediv a b
      have h2 : (a.natAbs : Int) = b.natAbs * ((a.natAbs / b.natAbs : Nat) : Int) + r := by
        rw [← hr]
        exact_mod_cast (Nat.div_add_mod a.natAbs b.natAbs).symm
      have h3 : (a.natAbs : Int) = -a := by omega
      have h4 : (b.natAbs : Int) = b := by omega
      rw [h3, h4] at h2
      generalize ((a.natAbs / b.natAbs : Nat) : Int) = q at *
      have h5 : a = (-(r : Int) + b) + b * (-(q + 1)) := by
        rw [Int.mul_neg, Int.mul_add, Int.mul_one]
        omega
      have hrb : (r : Int) < b := by omega
      have h6 : (-(r : Int) + b) % b = -(r : Int) + b := Int.emod_eq_of_lt (by omega) (by omega)
      rw [h5, Int.add_mul_emod_self_left, h6]
    · rw [decide_eq_false h]
      simp only [show (false != false) = false from rfl, Bool.false_eq_true, if_false]
      rw [hfm', if_neg h]
      congr 1
      have ea : a = (a.natAbs : Int) := by omega
      have eb' : b = (b.natAbs : Int) := by omega
      rw [ea, eb', ← hr]
      exact Int.natCast_emod ..
end Mine
end

section
open PySem PySem.W PyProof.Rows
set_option linter.unusedVariables false
namespace Mine
open PySem PySem.Calls PyProof.Rows

theorem litH : (4689722129631936512 : UInt64) = H 695991 := by decide +kernel
theorem litG : (4700144277945057280 : UInt64) = H 3442851 := by decide +kernel
theorem litHalf : (4602678819172646912 : UInt64) = H 1 := by decide +kernel

theorem Over_no {n : Int} (h : n.natAbs < 2 ^ 52) : ¬ Flt.Over n := by
  intro g
  unfold Flt.Over at g
  have h1 : (2 : Nat) ^ 52 ≤ 2 ^ 1024 - 2 ^ 970 := by
    have e : (2 : Nat) ^ 1024 = 2 ^ 54 * 2 ^ 970 := by rw [← Nat.pow_add]
    have h2 : 2 ^ 52 ≤ (2 : Nat) ^ 970 := Nat.pow_le_pow_right (by decide) (by decide)
    rw [e]
    generalize (2 : Nat) ^ 970 = K at *
    omega
  generalize (2 : Nat) ^ 1024 - 2 ^ 970 = J at *
  omega
theorem fitsH {n : Int} (h : n.natAbs < 2 ^ 52) : n.natAbs < 2 ^ 1023 :=
  Nat.lt_of_lt_of_le h (Nat.pow_le_pow_right (by decide) (by decide))

section
variable {prog : Program} {w : World} {A : Around} {E : Value → Shared → Prop} {s : Shared} {Q : Value → Shared → Prop} {x y : UInt64} {a b n : Int} {t u : Tok}

theorem r_add_fi (hx : x = H a) (hal : -1000000000000 ≤ a) (hau : a ≤ 1000000000000) (hnl : -1000000000000 ≤ n) (hnu : n ≤ 1000000000000) (h : Q (.float (H (a + 2 * n)) s.toks) { s with toks := s.toks + 1 }) :
    wpAny (model prog w) A (binaryOp .Add (.float x t) (.int n u)) Q E s := by
  subst hx
  refine add_fi_fits (fitsH (by omega)) ?_
  rw [ofInt_H (by omega), add_H (by omega) (by omega)]
  exact h
theorem r_iadd_fi (hA : A.handled = none) (hx : x = H a) (hal : -1000000000000 ≤ a) (hau : a ≤ 1000000000000) (hnl : -1000000000000 ≤ n) (hnu : n ≤ 1000000000000) (h : Q (.float (H (a + 2 * n)) s.toks) { s with toks := s.toks + 1 }) :
    wpAny (model prog w) A (inplaceOp .Add (.float x t) (.int n u)) Q E s := by
  subst hx
  refine Flt.iadd_fi hA (fun c => absurd c (Over_no (by omega))) fun _ => ?_
  rw [ofInt_H (by omega), add_H (by omega) (by omega)]
  exact h
theorem r_add_if (hx : x = H a) (hal : -1000000000000 ≤ a) (hau : a ≤ 1000000000000) (hnl : -1000000000000 ≤ n) (hnu : n ≤ 1000000000000) (h : Q (.float (H (2 * n + a)) s.toks) { s with toks := s.toks + 1 }) :
    wpAny (model prog w) A (binaryOp .Add (.int n u) (.float x t)) Q E s := by
  subst hx
  refine add_if_fits (fitsH (by omega)) ?_
  rw [ofInt_H (by omega), add_H (by omega) (by omega)]
  exact h
theorem r_sub_fi (hx : x = H a) (hal : -1000000000000 ≤ a) (hau : a ≤ 1000000000000) (hnl : -1000000000000 ≤ n) (hnu : n ≤ 1000000000000) (h : Q (.float (H (a - 2 * n)) s.toks) { s with toks := s.toks + 1 }) :
    wpAny (model prog w) A (binaryOp .Sub (.float x t) (.int n u)) Q E s := by
  subst hx
  refine sub_fi_fits (fitsH (by omega)) ?_
  rw [ofInt_H (by omega), sub_H (by omega) (by omega)]
  exact h
theorem r_sub_if (hx : x = H a) (hal : -1000000000000 ≤ a) (hau : a ≤ 1000000000000) (hnl : -1000000000000 ≤ n) (hnu : n ≤ 1000000000000) (h : Q (.float (H (2 * n - a)) s.toks) { s with toks := s.toks + 1 }) :
    wpAny (model prog w) A (binaryOp .Sub (.int n u) (.float x t)) Q E s := by
  subst hx
  refine sub_if_fits (fitsH (by omega)) ?_
  rw [ofInt_H (by omega), sub_H (by omega) (by omega)]
  exact h
theorem r_mul_fi (hx : x = H a) (hal : -4000000000 ≤ a) (hau : a ≤ 4000000000) (h0 : 0 < n) (hnl : -1000000 ≤ n) (hnu : n ≤ 1000000) (h : Q (.float (H (a * n)) s.toks) { s with toks := s.toks + 1 }) :
    wpAny (model prog w) A (binaryOp .Mult (.float x t) (.int n u)) Q E s := by
  subst hx
  refine mul_fi_fits (fitsH (by omega)) ?_
  rw [mul_H (by omega) (by omega) h0]
  exact h
theorem r_add_ff (hx : x = H a) (hy : y = H b) (hal : -1000000000000 ≤ a) (hau : a ≤ 1000000000000) (hbl : -1000000000000 ≤ b) (hbu : b ≤ 1000000000000) (h : Q (.float (H (a + b)) s.toks) { s with toks := s.toks + 1 }) :
    wpAny (model prog w) A (binaryOp .Add (.float x t) (.float y u)) Q E s := by
  subst hx
  subst hy
  refine add_float ?_
  rw [add_H (by omega) (by omega)]
  exact h
theorem r_sub_ff (hx : x = H a) (hy : y = H b) (hal : -1000000000000 ≤ a) (hau : a ≤ 1000000000000) (hbl : -1000000000000 ≤ b) (hbu : b ≤ 1000000000000) (h : Q (.float (H (a - b)) s.toks) { s with toks := s.toks + 1 }) :
    wpAny (model prog w) A (binaryOp .Sub (.float x t) (.float y u)) Q E s := by
  subst hx
  subst hy
  refine sub_float ?_
  rw [sub_H (by omega) (by omega)]
  exact h
theorem r_div_fi (hA : A.handled = none) (hx : x = H a) (h0 : n ≠ 0) (hnl : -1000000000000 ≤ n) (hnu : n ≤ 1000000000000) (h : Q (.float (Float64.div (H a) (Float64.ofInt n)) s.toks) { s with toks := s.toks + 1 }) :
    wpAny (model prog w) A (binaryOp .Div (.float x t) (.int n u)) Q E s := by
  subst hx
  exact Flt.truediv_fi hA (fun c => absurd c (Over_no (by omega))) (fun c => absurd c h0) fun _ _ => h
theorem r_div_ii (hA : A.handled = none) (h0 : b ≠ 0) (hnl : -1000000000000 ≤ a) (hnu : a ≤ 1000000000000)
    (h : Q (.float (Float64.ofFrac (decide (a < 0) != decide (b < 0)) a.natAbs b.natAbs) s.toks) { s with toks := s.toks + 1 }) :
    wpAny (model prog w) A (binaryOp .Div (.int a t) (.int b u)) Q E s :=
  Flt.div_ii_fits hA (fitsH (by omega)) (fun c => absurd c h0) fun _ _ => h
theorem r_mod_fi (hA : A.handled = none) (hx : x = H a) (hal : -1000000000000 ≤ a) (hau : a ≤ 1000000000000) (h0 : 0 < n) (hnl : -1000000000000 ≤ n) (hnu : n ≤ 1000000000000) (h : Q (.float (H (a % (2 * n))) s.toks) { s with toks := s.toks + 1 }) :
    wpAny (model prog w) A (binaryOp .Mod (.float x t) (.int n u)) Q E s := by
  subst hx
  refine Flt.mod_fi hA (fun c => absurd c (Over_no (by omega))) (fun c => absurd c (by omega)) fun _ _ => ?_
  rw [ofInt_H (by omega), mod_HH (by omega) (by omega) (by omega)]
  exact h
theorem r_floor_H (hA : A.handled = none) (hx : x = H a) (hal : -1000000000000 ≤ a) (hau : a ≤ 1000000000000) (h : Q (.int (a / 2) s.toks) { s with toks := s.toks + 1 }) :
    wpAny (model prog w) A (call (.builtin "math.floor") [.float x t]) Q E s := by
  subst hx
  have f := fin_H (a := a) (by omega)
  refine Flt.call_floor_float hA (fun c => absurd c (by rw [f.1]; decide)) (fun c => absurd c (by rw [f.2]; decide)) fun _ => ?_
  rw [floor_H (by omega)]
  exact h
theorem r_floor_div (hA : A.handled = none) (hal : -4000000000 ≤ a) (hau : a ≤ 4000000000) (h0 : 0 < n) (hn : n < 2 ^ 19) (h : Q (.int (a / (2 * n)) s.toks) { s with toks := s.toks + 1 }) :
    wpAny (model prog w) A (call (.builtin "math.floor") [.float (Float64.div (H a) (Float64.ofInt n)) t]) Q E s := by
  have f := floor_div (a := a) (by omega) h0 hn
  refine Flt.call_floor_float hA (fun c => absurd c (by rw [f.1]; decide)) (fun c => absurd c (by rw [f.2.1]; decide)) fun _ => ?_
  rw [f.2.2]
  exact h
theorem r_floor_ii (hA : A.handled = none) (hal : -4000000000 ≤ a) (hau : a ≤ 4000000000) (h0 : 0 < n) (hn : n < 2 ^ 19) (h : Q (.int (a / n) s.toks) { s with toks := s.toks + 1 }) :
    wpAny (model prog w) A (call (.builtin "math.floor") [.float (Float64.ofFrac (decide (a < 0) != decide (n < 0)) a.natAbs n.natAbs) t]) Q E s := by
  have f := floor_ii (a := a) (by omega) h0 (by omega)
  refine Flt.call_floor_float hA (fun c => absurd c (by rw [f.1]; decide)) (fun c => absurd c (by rw [f.2.1]; decide)) fun _ => ?_
  rw [f.2.2]
  exact h
theorem r_trunc_H (hA : A.handled = none) (hx : x = H a) (h0 : 0 ≤ a) (hal : -1000000000000 ≤ a) (hau : a ≤ 1000000000000) (h : Q (.int (a / 2) s.toks) { s with toks := s.toks + 1 }) :
    wpAny (model prog w) A (call (.builtin "math.trunc") [.float x t]) Q E s := by
  subst hx
  have f := fin_H (a := a) (by omega)
  refine Flt.call_trunc_float hA (fun c => absurd c (by rw [f.1]; decide)) (fun c => absurd c (by rw [f.2]; decide)) fun _ => ?_
  rw [trunc_H (by omega) h0]
  exact h
theorem r_int_H (hA : A.handled = none) (hx : x = H a) (h0 : 0 ≤ a) (hal : -1000000000000 ≤ a) (hau : a ≤ 1000000000000) (h : Q (.int (a / 2) s.toks) { s with toks := s.toks + 1 }) :
    wpAny (model prog w) A (call (.type "int") [.float x t]) Q E s := by
  subst hx
  have f := fin_H (a := a) (by omega)
  refine Flt.call_int_float3 hA (fun c => absurd c (by rw [f.1]; decide)) (fun c => absurd c (by rw [f.2]; decide)) fun _ => ?_
  rw [trunc_H (by omega) h0]
  exact h

theorem cmp_eq_dec (p q : Int) : (some (compare p q) == some Ordering.eq) = decide (p = q) := by
  by_cases h : p = q
  · subst h; simp
  · rw [decide_eq_false h]
    rcases Int.lt_or_gt_of_ne h with g | g
    · rw [Int.compare_eq_lt.mpr g]; rfl
    · rw [Int.compare_eq_gt.mpr g]; rfl
theorem cmp_lt_dec (p q : Int) : (some (compare p q) == some Ordering.lt) = decide (p < q) := by
  by_cases h : p < q
  · rw [Int.compare_eq_lt.mpr h, decide_eq_true h]; rfl
  · rw [decide_eq_false h]
    by_cases e : p = q
    · subst e; simp
    · rw [Int.compare_eq_gt.mpr (by omega)]; rfl
theorem r_lt_fi (hx : x = H a) (hal : -1000000000000 ≤ a) (hau : a ≤ 1000000000000) (h : Q (.bool (decide (a < 2 * n))) s) : wpAny (model prog w) A (compareOp .Lt (.float x t) (.int n u)) Q E s := by
  subst hx
  refine lt_fi ?_
  rw [cmpInt_H (by omega), cmp_lt_dec]
  exact h
theorem r_eq_fi (hx : x = H a) (hal : -1000000000000 ≤ a) (hau : a ≤ 1000000000000) (h : Q (.bool (decide (a = 2 * n))) s) : wpAny (model prog w) A (compareOp .Eq (.float x t) (.int n u)) Q E s := by
  subst hx
  refine eq_fi ?_
  rw [cmpInt_H (by omega), cmp_eq_dec]
  exact h
theorem r_ne_fi (hx : x = H a) (hal : -1000000000000 ≤ a) (hau : a ≤ 1000000000000) (h : Q (.bool (!decide (a = 2 * n))) s) : wpAny (model prog w) A (compareOp .NotEq (.float x t) (.int n u)) Q E s := by
  subst hx
  refine ne_fi ?_
  rw [cmpInt_H (by omega)]
  have : (some (compare a (2 * n)) != some Ordering.eq) = !decide (a = 2 * n) := by rw [← cmp_eq_dec]; rfl
  rw [this]
  exact h
theorem r_eq_ff (hx : x = H a) (hy : y = H b) (hal : -1000000000000 ≤ a) (hau : a ≤ 1000000000000) (hbl : -1000000000000 ≤ b) (hbu : b ≤ 1000000000000) (h : Q (.bool (decide (a = b))) s) : wpAny (model prog w) A (compareOp .Eq (.float x t) (.float y u)) Q E s := by
  subst hx
  subst hy
  refine AutoFloatOps.eq_0 ?_
  rw [cmp_H (by omega) (by omega), cmp_eq_dec]
  exact h
theorem r_ne_ff (hx : x = H a) (hy : y = H b) (hal : -1000000000000 ≤ a) (hau : a ≤ 1000000000000) (hbl : -1000000000000 ≤ b) (hbu : b ≤ 1000000000000) (h : Q (.bool (!decide (a = b))) s) : wpAny (model prog w) A (compareOp .NotEq (.float x t) (.float y u)) Q E s := by
  subst hx
  subst hy
  refine AutoFloatOps.ne_0 ?_
  rw [cmp_H (by omega) (by omega)]
  have : (some (compare a b) != some Ordering.eq) = !decide (a = b) := by rw [← cmp_eq_dec]; rfl
  rw [this]
  exact h
end
theorem r_truthy {prog : Program} {w : World} {A : Around} {E : Value → Shared → Prop} {s : Shared} {Q : Bool → Shared → Prop} {x : UInt64} {a : Int} {t : Tok}
    (hx : x = H a) (hal : -1000000000000 ≤ a) (hau : a ≤ 1000000000000) (h : Q (!decide (a = 0)) s) : wpAny (model prog w) A (truthy (.float x t)) Q E s := by
  subst hx
  refine truthy_float ?_
  rw [isZero_H (by omega)]
  exact h

section
variable {prog : Program} {w : World} {A : Around} {E : Value → Shared → Prop} {s : Shared} {Q : Value → Shared → Prop} {a b m j d : Int} {t u : Tok}
theorem r_mod_ii (hb : 0 < b) (h : Q (.int (a % b) s.toks) { s with toks := s.toks + 1 }) : wpAny (model prog w) A (binaryOp .Mod (.int a t) (.int b u)) Q E s := by
  refine mod_int' (by omega) ?_
  rw [Int.fmod_eq_emod_of_nonneg _ (by omega)]
  exact h
theorem r_fdiv_ii (hb : 0 < b) (hb2 : b < 2 ^ 29) (h : Q (.int (a / b) s.toks) { s with toks := s.toks + 1 }) : wpAny (model prog w) A (binaryOp .FloorDiv (.int a t) (.int b u)) Q E s := by
  refine floordiv_int (by omega) ?_ (.inl (PyProof.noPylong_small (by omega)))
  rw [Int.fdiv_eq_ediv_of_nonneg _ (by omega)]
  exact h

def monthFloat (m j d : Int) : UInt64 :=
  Float64.add (Float64.add (Float64.ofFrac (decide (367 * m - 362 < 0) != decide ((12 : Int) < 0)) (367 * m - 362).natAbs (12 : Int).natAbs) (Float64.ofInt j)) (Float64.ofInt d)
def monthOk (m j d : Int) : Bool := match Float64.decode (monthFloat m j d) with
  | .fin s n e => Float64.floorOf s n e == (367 * m - 362) / 12 + j + d
  | _ => false
theorem monthAll : ∀ m : Fin 12, ∀ j : Fin 3, ∀ d : Fin 31, monthOk (1 + m.val) (-(j.val : Int)) (1 + d.val) = true := by decide +kernel
theorem month_ok (m1 : 1 ≤ m) (m2 : m ≤ 12) (j1 : -2 ≤ j) (j2 : j ≤ 0) (d1 : 1 ≤ d) (d2 : d ≤ 31) : monthOk m j d = true := by
  have := monthAll ⟨(m - 1).toNat, by omega⟩ ⟨(-j).toNat, by omega⟩ ⟨(d - 1).toNat, by omega⟩
  have e1 : (1 + ((m - 1).toNat : Int)) = m := by omega
  have e2 : (-((-j).toNat : Int)) = j := by omega
  have e3 : (1 + ((d - 1).toNat : Int)) = d := by omega
  simp only [e1, e2, e3] at this
  exact this
theorem r_floor_m (hA : A.handled = none) (m1 : 1 ≤ m) (m2 : m ≤ 12) (j1 : -2 ≤ j) (j2 : j ≤ 0) (d1 : 1 ≤ d) (d2 : d ≤ 31) (h : Q (.int ((367 * m - 362) / 12 + j + d) s.toks) { s with toks := s.toks + 1 }) :
    wpAny (model prog w) A (call (.builtin "math.floor") [.float (Float64.add (Float64.add (Float64.ofFrac (decide (367 * m - 362 < 0) != decide ((12 : Int) < 0)) (367 * m - 362).natAbs (12 : Int).natAbs) (Float64.ofInt j)) (Float64.ofInt d)) t]) Q E s := by
  have k := month_ok m1 m2 j1 j2 d1 d2
  unfold monthOk at k
  show wpAny _ _ (call (.builtin "math.floor") [.float (monthFloat m j d) t]) Q E s
  generalize monthFloat m j d = x at *
  refine Flt.call_floor_float hA ?_ ?_ fun _ => ?_
  · intro c
    unfold Float64.isNaN at c
    split at c
    · rename_i c'; rw [c'] at k; cases k
    · cases c
  · intro c
    unfold Float64.isInf at c
    split at c
    · rename_i c'; rw [c'] at k; cases k
    · cases c
  · split at k
    · rename_i s n e hd
      rw [Flt.toInt_fin hd, beq_iff_eq.mp k]
      exact h
    · cases k
end

def anyP : List Int → Int → Prop
  | [], _ => False
  | n :: r, x => x = n ∨ anyP r x
theorem any_iff : ∀ (ns : List Int) (x : Int), ns.any (· == x) = true ↔ anyP ns x
  | [], x => by simp [anyP]
  | n :: r, x => by
    rw [List.any_cons, Bool.or_eq_true, any_iff r x, anyP, beq_iff_eq]
    exact or_congr ⟨Eq.symm, Eq.symm⟩ Iff.rfl
theorem bool_two {P : Prop} {b : Bool} {Q : Value → Shared → Prop} {s : Shared} (e : b = true ↔ P) (h1 : P → Q (.bool true) s) (h0 : ¬ P → Q (.bool false) s) : Q (.bool b) s := by
  cases b
  · exact h0 fun p => Bool.false_ne_true (e.mpr p)
  · exact h1 (e.mp rfl)
theorem bool_two_not {P : Prop} {b : Bool} {Q : Value → Shared → Prop} {s : Shared} (e : b = true ↔ P) (h1 : P → Q (.bool false) s) (h0 : ¬ P → Q (.bool true) s) : Q (.bool (!b)) s := by
  cases b
  · exact h0 fun p => Bool.false_ne_true (e.mpr p)
  · exact h1 (e.mp rfl)
section
variable {prog : Program} {w : World} {A : Around} {E : Value → Shared → Prop} {s : Shared} {Q : Value → Shared → Prop} {K : Frag} {h₀ : Heap} {L a : Addr} {m : Str → Option Value} {news : List (Addr × Obj)} {vs : List Value} {ns : List Int} {x : Int} {t : Tok} {n : Nat} {dd : Option Addr} {sl : Array (Option Value)}
theorem r_in_K (F : Fr h₀ L s.heap m) (X : K.In h₀) (hl : K.lookup a = some ⟨.type "tuple", dd, .seq vs.toArray n, sl⟩) (hi : IntsAre vs ns) (h1 : anyP ns x → Q (.bool true) s) (h0 : ¬ anyP ns x → Q (.bool false) s) :
    wpAny (model prog w) A (compareOp .In (.int x t) (.ref a)) Q E s :=
  in_tuple_ints (items := vs.toArray) ⟨_, X.keeps F.keep _ _ hl, rfl, n, rfl⟩ hi (bool_two (any_iff ns x) h1 h0)
theorem r_in_T (N : News h₀ L s.heap news) (hm : (a, (⟨.type "tuple", dd, .seq vs.toArray n, sl⟩ : Obj)) ∈ news) (hi : IntsAre vs ns) (h1 : anyP ns x → Q (.bool true) s) (h0 : ¬ anyP ns x → Q (.bool false) s) :
    wpAny (model prog w) A (compareOp .In (.int x t) (.ref a)) Q E s :=
  in_tuple_ints (items := vs.toArray) (N.isTup hm) hi (bool_two (any_iff ns x) h1 h0)
theorem r_in_L (N : News h₀ L s.heap news) (hm : (a, (⟨.type "list", dd, .seq vs.toArray n, sl⟩ : Obj)) ∈ news) (hi : IntsAre vs ns) (h1 : anyP ns x → Q (.bool true) s) (h0 : ¬ anyP ns x → Q (.bool false) s) :
    wpAny (model prog w) A (compareOp .In (.int x t) (.ref a)) Q E s :=
  in_list_ints (N.isList hm) hi (bool_two (any_iff ns x) h1 h0)
end

section
variable {M : Model} {A : Around} {E : Value → Shared → Prop} {s : Shared} {K : Frag} {h₀ : Heap} {L a : Addr} {m mg mb : Str → Option Value} {cn : Str} {cs : Scope} {ccd : Value} {p : Program} {loose : List Str} {mean : ExcName → Option Value}
  {x : Str} {pos : Pos} {v : Value} {Q : Value → Shared → Prop}
theorem q_glob (F : Fr h₀ L s.heap m) (X : K.In h₀) (T : Top p loose mean mg mb h₀) (e : nsIn K mainGlobals x = some (some v)) (h : Q v s)
    (hk : cs.kind = .function) (hx : (envOf cn cs L a ccd).kindOf x = some .globalImplicit) (hd : (x == ("__debug__" : Str)) = false) :
    wpAny M A (eval (.Name x pos) (envOf cn cs L a ccd)) Q E s := name_K F X (topRead_of T) e h hk hx hd
theorem q_loc (F : Fr h₀ L s.heap m) (hv : m x = some v) (h : Q v s)
    (hk : cs.kind = .function) (hx : (envOf cn cs L a ccd).kindOf x = some .local) (hd : (x == ("__debug__" : Str)) = false) :
    wpAny M A (eval (.Name x pos) (envOf cn cs L a ccd)) Q E s := nameX_L (cl := []) F hv h hk hx hd
theorem q_boot (F : Fr h₀ L s.heap m) (X : K.In h₀) (T : Top p loose mean mg mb h₀) (e : nsIn K mainGlobals x = some none) (hv : bootBuiltins x = some v) (hn : x ≠ "__name__") (h : Q v s)
    (hk : cs.kind = .function) (hx : (envOf cn cs L a ccd).kindOf x = some .globalImplicit) (hd : (x == ("__debug__" : Str)) = false) :
    wpAny M A (eval (.Name x pos) (envOf cn cs L a ccd)) Q E s := name_B F X (topRead_of T) e hv hn h hk hx hd
end
end Mine
end

section
open PySem PySem.W PyProof.Rows
set_option linter.unusedVariables false
namespace Mine
open PySem PySem.Calls PyProof.Rows
section
variable {prog : Program} {w : World} {A A₀ : Around} {s : Shared} {K : Frag} {L : Addr} {h₀ base : Heap} {m mg mb : Str → Option Value} {news : List (Addr × Obj)} {p : Program} {loose : List Str} {mean : ExcName → Option Value}
/-- a def is entered with an empty ledger of its own; what the caller's ledger names is told apart -/
theorem code_def0 {env : Env} {outer : List Env} {R : Result → Shared → Prop} {name qual : Str} {params : Arguments} {body : List Stmt} {scope : Scope} {dV kV doc pm cdv ct oc : Value} {an od : Option Addr} {osl : Array (Option Value)} {f : Addr} {args : Args} {binds : List (Str × Value)}
    (B : Below A₀ base outer h₀) (F : Fr h₀ L s.heap m) (X₀ : K.In h₀) (N : News h₀ L s.heap news) (T : Top p loose mean mg mb h₀) (hA : A.frames = some (env :: outer)) (hf : env.frame = some L) (hke : env.scope.kind = .function)
    (ho : K.lookup f = some ⟨oc, od, .func (fnOf name qual params body scope dV kV doc pm an cdv ct), osl⟩) (hcd : codeIn K cdv qual = true) (hroom : A.depth < recursionLimit)
    (hbind : BindsTo s (fnOf name qual params body scope dV kV doc pm an cdv ct) args binds) (hloc : ∀ y ∈ binds, scope.names.lookup y.1 = some .local)
    (h : ∀ g L' h₁, (∀ q ∈ news, g.get? q.1 = some q.2) → Fr h₀ L g m → Fr g L' h₁ (fun y => binds.reverse.lookup y) → News g L' h₁ [] → Below A base (env :: outer) g → K.In g → Top p loose mean mg mb g →
      wpAny (model prog w) (A.deeper (envOf qual scope L' f cdv)) (execs body (envOf qual scope L' f cdv))
        (fun fl s' => LeaveK h₀ L m g R (match fl with | .ret v => v | _ => .none) s')
        (fun e s' => wpAny (model prog w) (A.deeper (envOf qual scope L' f cdv)) (leaving (envOf qual scope L' f cdv) e) (fun _ s'' => R (.error e) s'') (fun e' s'' => R (.error e') s'') s')
        { s with heap := h₁, toks := s.toks + binds.length })
    (hco : scope.isCoroutine = false) (hgen : scope.isGenerator = false) (hk : scope.kind = .function)
    (hcell : ∀ x ∈ scope.names, x.2 ≠ .cell) : codeAny (model prog w) A (.call (.ref f) args) R s := by
  obtain ⟨FG, BG, st, lv⟩ := groundX (R := R) (news := []) B F News.nil hA hf hke
  have hg : hideAll s.heap (List.map (fun x : Addr × Obj => x.1) []) = s.heap := rfl
  rw [hg] at FG BG st lv
  have X₁ := X₀.keeps F.keep
  refine codeAny_call_def (fd := fnOf name qual params body scope dV kV doc pm an cdv ct) (body := body) (binds := binds) hroom (X₁ _ _ ho) rfl (T.nolimit.keeps F.keep) (codeRec_of X₁ hcd) rfl hbind hcell hloc (fun h₁ hns hk₁ => ?_) hco hgen hk
  exact wpAny_mono (h s.heap s.heap.objs.size h₁ (fun q hq => (N q hq).1) FG ⟨hns, hk₁, Nat.le_refl _⟩ News.nil BG X₁ (T.keeps F.keep)) (fun fl s' hl => lv _ _ hl) fun _ _ y => y
/-- and the caller's ledger stands when the def is left -/
theorem news_back {g h h' : Heap} {L' : Addr} {m' : Str → Option Value} (N : News h₀ L h news) (hG : ∀ q ∈ news, g.get? q.1 = some q.2) (F' : Fr g L' h' m') : News h₀ L h' news :=
  fun q hq => ⟨F'.keep _ _ (hG q hq), (N q hq).2.1, (N q hq).2.2⟩
theorem news_add {h' : Heap} {l r : List (Addr × Obj)} (N1 : News h₀ L h' l) (N2 : News h₀ L h' r) : News h₀ L h' (l ++ r) := fun q hq => (List.mem_append.mp hq).elim (N1 q) (N2 q)
end

/-- a turn's end of a loop over one sequence, the ledger's tail a letter -/
theorem unr_end1 {h₀ h' : Heap} {L I : Addr} {o : Obj} {s₁ : Shared} {tk : Nat} {m' : Str → Option Value} {all news' : List (Addr × Obj)} {rest : (Str → Option Value) → List (Addr × Obj) → Prop}
    (F : Fr h₀ L h' m') (N : News h₀ L h' all) (off : ∀ q ∈ news', q.1 < I) (hI : (I, o) ∈ all) (sub : ∀ q ∈ news', q ∈ all) (r : rest m' news') :
    UnrEndW h₀ L s₁ [(I, o)] rest { s₁ with heap := h', toks := tk } :=
  ⟨h', tk, m', news', rfl, F, fun q hq => by
    rcases List.mem_append.mp hq with hq | hq
    · cases List.mem_singleton.mp hq; exact N _ hI
    · exact N _ (sub q hq), fun q hq q' hq' => by
    cases List.mem_singleton.mp hq'
    exact Nat.ne_of_lt (off q hq), r⟩
end Mine
end

section
open PySem PySem.W PyProof.Rows
set_option linter.unusedVariables false
namespace Mine
open PySem PySem.Calls PyProof.Rows PySem.SeqAt
section
variable {prog : Program} {w : World} {A : Around} {E : Value → Shared → Prop} {s : Shared}
theorem eqBool_if {a n : Int} {t u : Tok} {Q : Bool → Shared → Prop} (hal : -1000000000000 ≤ a) (hau : a ≤ 1000000000000) (h : Q (decide (a = 2 * n)) s) :
    wpAny (model prog w) A (eqBool (.int n t) (.float (H a) u)) Q E s := by
  unfold eqBool
  have hne : (Value.int n t == Value.float (H a) u) = false := beq_eq_false_iff_ne.mpr (fun c => by cases c)
  refine wpAny_holding ?_
  rw [hne, if_neg Bool.false_ne_true]
  refine wpAny_bind (eq_if ?_)
  rw [cmpInt_H (by omega), cmp_eq_dec]
  exact wpAny_truthy_bool h
/-- is the float a / 2 among these ints -/
def anyF : List Int → Int → Prop
  | [], _ => False
  | n :: r, a => a = 2 * n ∨ anyF r a
def isHalf (a : Int) : Value → Bool
  | .int n _ => decide (a = 2 * n)
  | _ => false
theorem half_any {a : Int} : ∀ {vs : List Value} {ns : List Int}, IntsAre vs ns → (vs.any (isHalf a) = true ↔ anyF ns a)
  | _, _, .nil => by simp [anyF]
  | _, _, .cons n t h => by
    rw [List.any_cons, Bool.or_eq_true, half_any h]
    show decide (a = 2 * n) = true ∨ _ ↔ _
    rw [decide_eq_true_iff]
    exact Iff.rfl
theorem half_eq {a : Int} {u : Tok} (hal : -1000000000000 ≤ a) (hau : a ≤ 1000000000000) : ∀ {vs : List Value} {ns : List Int}, IntsAre vs ns → ∀ y, y ∈ vs → EqAt A.in1 s y (.float (H a) u) (isHalf a y)
  | _, _, .cons n t h, y, hy => by
    rcases List.mem_cons.mp hy with rfl | hy
    · exact fun prog w E Q hq => eqBool_if hal hau hq
    · exact half_eq hal hau h y hy
variable {Q : Value → Shared → Prop} {h₀ : Heap} {L l : Addr} {news : List (Addr × Obj)} {vs : List Value} {ns : List Int} {t : Tok} {n : Nat} {dd : Option Addr} {sl : Array (Option Value)} {x : UInt64} {a : Int}
theorem r_inF (hx : x = H a) (hal : -1000000000000 ≤ a) (hau : a ≤ 1000000000000) (N : News h₀ L s.heap news) (hm : (l, (⟨.type "tuple", dd, .seq vs.toArray n, sl⟩ : Obj)) ∈ news) (hi : IntsAre vs ns)
    (h1 : anyF ns a → Q (.bool true) s) (h0 : ¬ anyF ns a → Q (.bool false) s) : wpAny (model prog w) A (compareOp .In (.float x t) (.ref l)) Q E s := by
  subst hx
  refine in_tupleAt (items := vs.toArray) (isHalf a) ⟨_, N.get hm, rfl, n, rfl⟩ (fun y hy => half_eq hal hau hi y (by simpa using hy)) ?_
  have e : vs.toArray.any (isHalf a) = vs.any (isHalf a) := by simp
  rw [e]
  exact bool_two (half_any hi) h1 h0
theorem r_notinF (hx : x = H a) (hal : -1000000000000 ≤ a) (hau : a ≤ 1000000000000) (N : News h₀ L s.heap news) (hm : (l, (⟨.type "tuple", dd, .seq vs.toArray n, sl⟩ : Obj)) ∈ news) (hi : IntsAre vs ns)
    (h1 : anyF ns a → Q (.bool false) s) (h0 : ¬ anyF ns a → Q (.bool true) s) : wpAny (model prog w) A (compareOp .NotIn (.float x t) (.ref l)) Q E s := by
  subst hx
  refine notIn_tupleAt (items := vs.toArray) (isHalf a) ⟨_, N.get hm, rfl, n, rfl⟩ (fun y hy => half_eq hal hau hi y (by simpa using hy)) ?_
  have e : vs.toArray.any (isHalf a) = vs.any (isHalf a) := by simp
  rw [e]
  exact bool_two_not (half_any hi) h1 h0
/-- an item of a made list of ints at an open place -/
theorem ints_at : ∀ {vs : List Value} {ns : List Int}, IntsAre vs ns → ∀ k : Nat, k < ns.length → ∃ t, vs[k]? = some (.int (ns.getD k 0) t)
  | _, _, .cons n t h, 0, _ => ⟨t, rfl⟩
  | _, _, .cons n t h, k + 1, hk => by
    obtain ⟨u, hu⟩ := ints_at h k (by simpa using hk)
    exact ⟨u, by simpa using hu⟩
theorem r_item_L {value slice : Expr} {k : Int} {u : Tok} (N : News h₀ L s.heap news) (hm : (l, (⟨.type "list", dd, .seq vs.toArray n, sl⟩ : Obj)) ∈ news) (hi : IntsAre vs ns)
    (h0 : 0 ≤ k) (h1 : k < (ns.length : Int)) (h2 : k < 1000000) (h : ∀ t, Q (.int (ns.getD k.toNat 0) t) s)
    (hs : subscripted slice false (.ref l) (.int k u) = operate [.ref l, .int k u] (getItem (.ref l) (.int k u))) (hg : ∀ r, letTemporaryGo value (.ref l) r = pure ()) :
    wpAny (model prog w) A (subscriptTail value slice (.ref l) (.int k u)) Q E s := by
  obtain ⟨t, ht⟩ := ints_at hi k.toNat (by omega)
  exact item_listL (N.isList hm) h0 (by omega) ht (h t) hs hg
/-- one of two written ints, by a test: one way -/
theorem r_ifexp {M : Model} {env : Env} {test : Expr} {a b : Int} {k1 k2 : Nat} {p1 p2 pos : Pos}
    (h : wpAny M A (isTrue test env (eval test env)) (fun c s₁ => Q (.int (if c = true then a else b) s₁.toks) { s₁ with toks := s₁.toks + 1 }) E s) :
    wpAny M A (eval (.IfExp test (.Constant (.int a) k1 p1) (.Constant (.int b) k2 p2) pos) env) Q E s := by
  refine wpAny_IfExp (wpAny_mono h (fun c s₁ h₁ => ?_) fun _ _ z => z)
  cases c
  · exact wpAny_Constant_int h₁
  · exact wpAny_Constant_int h₁
theorem r_ifexpN {prog : Program} {w : World} {env : Env} {test : Expr} {a b : Int} {k1 k2 : Nat} {p1 p2 p3 p4 pos : Pos}
    (h : wpAny (model prog w) A (isTrue test env (eval test env)) (fun c s₁ => Q (.int (if c = true then -a else -b) (s₁.toks + 1)) { s₁ with toks := s₁.toks + 1 + 1 }) E s) :
    wpAny (model prog w) A (eval (.IfExp test (.UnaryOp .USub (.Constant (.int a) k1 p1) p2) (.UnaryOp .USub (.Constant (.int b) k2 p3) p4) pos) env) Q E s := by
  refine wpAny_IfExp (wpAny_mono h (fun c s₁ h₁ => ?_) fun _ _ z => z)
  cases c
  · exact wpAny_UnaryOp (wpAny_Constant_int (neg_int h₁))
  · exact wpAny_UnaryOp (wpAny_Constant_int (neg_int h₁))
end
end Mine
end

section
open PySem PySem.W PyProof.Rows
set_option linter.unusedVariables false
namespace Mine
open PySem PySem.Calls PyProof.Rows
/-- a frame's map where some names are no longer known -/
def forget (u m : Str → Option Value) : List Str → Str → Option Value
  | [] => m
  | x :: r => fun y => if y = x then u y else forget u m r y
theorem forget_eq {m₁ m : Str → Option Value} : ∀ {names : List Str}, (∀ z, z ∉ names → m₁ z = m z) → ∀ z, forget m₁ m names z = m₁ z
  | [], h, z => (h z (by simp)).symm
  | x :: r, h, z => by
    show (if z = x then m₁ z else forget m₁ m r z) = m₁ z
    by_cases e : z = x
    · rw [if_pos e]
    · rw [if_neg e]
      by_cases hr : z ∈ r
      · have : ∀ l : List Str, z ∈ l → forget m₁ m l z = m₁ z := by
          intro l
          induction l with
          | nil => intro h; cases h
          | cons y t ih =>
            intro h
            show (if z = y then m₁ z else forget m₁ m t z) = m₁ z
            by_cases e2 : z = y
            · rw [if_pos e2]
            · rw [if_neg e2]
              exact ih ((List.mem_cons.mp h).resolve_left e2)
        exact this r hr
      · have : ∀ l : List Str, z ∉ l → forget m₁ m l z = m z := by
          intro l
          induction l with
          | nil => intro _; rfl
          | cons y t ih =>
            intro h
            show (if z = y then m₁ z else forget m₁ m t z) = m z
            have ne : ¬ z = y := fun e => h (by rw [e]; exact List.mem_cons_self ..)
            rw [if_neg ne]
            exact ih (fun c => h (List.mem_cons_of_mem _ c))
        rw [this r hr, h z (by simp [e, hr])]
section
variable {prog : Program} {w : World} {A : Around} {E : Value → Shared → Prop} {s : Shared} {env : Env} {h₀ : Heap} {x : Str} {body : List Stmt} {Q : Flow → Shared → Prop}
def KeepEnd (h₀ : Heap) (L : Addr) (names : List Str) (m₀ : Str → Option Value) (need : List (Addr × Obj)) (s₁ s₂ : Shared) : Prop :=
  ∃ h' tk m' news', s₂ = { s₁ with heap := h', toks := tk } ∧ Fr h₀ L h' m' ∧ News h₀ L h' news' ∧ (∀ p ∈ need, p ∈ news') ∧ ∀ z, z ∉ names → m' z = m₀ z
def KeepPost (h₀ : Heap) (L : Addr) (names : List Str) (m₀ : Str → Option Value) (need : List (Addr × Obj)) (s₁ : Shared) (Q : Flow → Shared → Prop) (f : Flow) (s₂ : Shared) : Prop :=
  match f with
  | .ret v => Q (.ret v) s₂
  | .brk => Q .next s₂
  | _ => KeepEnd h₀ L names m₀ need s₁ s₂
/-- a turn's end -/
theorem keep_end {L : Addr} {names : List Str} {m₀ m' : Str → Option Value} {need news' : List (Addr × Obj)} {s₁ : Shared} {h' : Heap} {tk : Nat} (F : Fr h₀ L h' m') (N : News h₀ L h' news') (hn : ∀ p ∈ need, p ∈ news') (hm : ∀ z, z ∉ names → m' z = m₀ z) :
    KeepEnd h₀ L names m₀ need s₁ { s₁ with heap := h', toks := tk } := ⟨h', tk, m', news', rfl, F, N, hn, hm⟩
/-- a loop whose turn keeps all but some names: one turn is walked -/
theorem keep_loop {I : Addr} {fp wr : List Addr} {n : Nat} {P : Nat → Value → Prop} {St : Nat → Heap → Prop} {m₀ : Str → Option Value} {news : List (Addr × Obj)} (names : List Str)
    (W : Walks prog w A I fp wr n P St) (hfw : ∀ a ∈ fp, a ∈ wr ∨ ∃ o, (a, o) ∈ news) (hLf : env.locals ∉ fp) (hwr : ∀ b ∈ wr, h₀.get? b = none) (hnw : ∀ p ∈ news, p.1 ∉ wr) (hst : St 0 s.heap)
    (F : Fr h₀ env.locals s.heap m₀) (N : News h₀ env.locals s.heap news)
    (turn : ∀ i v u h tk own, i < n → P i v → Fr h₀ env.locals h (fun y => if y = x then some v else forget u m₀ names y) → News h₀ env.locals h (news ++ own) →
      wpAny (model prog w) A (execs body env) (KeepPost h₀ env.locals (x :: names) m₀ (news ++ own) { s with heap := h, toks := tk } Q) E { s with heap := h, toks := tk })
    (done : ∀ u h tk, Fr h₀ env.locals h (forget u m₀ (x :: names)) → News h₀ env.locals h news → Q .next { s with heap := h, toks := tk }) :
    LoopAtV prog w A h₀ env x body Q E (.ref I) s := by
  refine ⟨I, fp, wr, n, P, St, m₀, news, fun i m nx => nx = news ∧ ∀ z, z ∉ x :: names → m z = m₀ z, rfl, W, hLf, hwr, hnw, hst, F, N, ⟨rfl, fun _ _ => rfl⟩, ?_, ?_⟩
  · rintro i v m₁ news₁ s₁ own ⟨hh', tk', rfl⟩ hin hP ⟨rfl, hJ⟩ hoff hown hget hmem hst' F₁ N₁
    have N₂ : News h₀ env.locals hh' (news₁ ++ own) := fun p hp => N₁ p ((List.mem_append.mp hp).elim (fun h => List.mem_append.mpr (.inr h)) fun h => List.mem_append.mpr (.inl h))
    have e : (fun y => if y = x then some v else m₁ y) = fun y => if y = x then some v else forget m₁ m₀ names y := by
      funext y
      by_cases h : y = x
      · rw [if_pos h, if_pos h]
      · rw [if_neg h, if_neg h]
        have h2 : ∀ z, forget m₁ m₀ (x :: names) z = m₁ z := forget_eq hJ
        have h3 := h2 y
        have h4 : forget m₁ m₀ (x :: names) y = forget m₁ m₀ names y := by
          show (if y = x then m₁ y else forget m₁ m₀ names y) = _
          rw [if_neg h]
        rw [← h4, h3]
    rw [e] at F₁
    refine wpAny_mono (turn i v m₁ hh' tk' own hin hP F₁ N₂) (fun f s₂ p => ?_) fun _ _ e => e
    have fin : KeepEnd h₀ env.locals (x :: names) m₀ (news₁ ++ own) { s with heap := hh', toks := tk' } s₂ → LoopStepU h₀ env.locals wr own (fun m nx => nx = news₁ ∧ ∀ z, z ∉ x :: names → m z = m₀ z) { s with heap := hh', toks := tk' } .next s₂ := by
      rintro ⟨h', tk, m', news', e, F', N', hn, hm⟩
      refine ⟨rfl, h', tk, m', news₁, e, F', fun p hp => N' p (hn p ?_), hoff, rfl, hm⟩
      exact (List.mem_append.mp hp).elim (fun h => List.mem_append.mpr (.inr h)) fun h => List.mem_append.mpr (.inl h)
    cases f with
    | ret v => exact .ret p
    | brk => exact .brk p
    | next => exact .next (fin p)
    | cont => exact .cont (fin p)
  · rintro h' tk m' news' F' N' _ ⟨rfl, hJ⟩
    refine done m' h' tk ?_ N'
    have e : forget m' m₀ (x :: names) = m' := funext (forget_eq hJ)
    rw [e]
    exact F'
theorem keep_range {L r : Addr} {a₀ b₀ : Int} {t₀ u₀ v₀ : Tok} {n : Nat} {m₀ : Str → Option Value} {news : List (Addr × Obj)} (names : List Str)
    (hL : env.locals = L) (hh : A.handled = none) (hr : IsRange s.heap r a₀ b₀ 1 t₀ u₀ v₀) (hsmall : Builtin.Range.small a₀ b₀ 1 = true) (hn : Builtin.Range.rangeSize a₀ b₀ 1 = (n : Int)) (F : Fr h₀ L s.heap m₀) (N : News h₀ L s.heap news)
    (turn : ∀ k t u h tk own, a₀ ≤ k → k < a₀ + n → Fr h₀ L h (fun y => if y = x then some (.int k t) else forget u m₀ names y) → News h₀ L h (news ++ own) →
      wpAny (model prog w) A (execs body env) (KeepPost h₀ L (x :: names) m₀ (news ++ own) { s with heap := h, toks := tk } Q) E { s with heap := h, toks := tk })
    (done : ∀ u h tk, Fr h₀ L h (forget u m₀ (x :: names)) → News h₀ L h news → Q .next { s with heap := h, toks := tk }) :
    wpAny (model prog w) A (pyIter (.ref r)) (fun it s₂ => LoopAtV prog w A h₀ env x body Q E it s₂) E s := by
  subst hL
  refine wpAny_pyIter_range hr hsmall ?_
  have W : Walks prog w A s.heap.objs.size [s.heap.objs.size] [s.heap.objs.size] n (fun i v => i < n ∧ ∃ t, v = .int (a₀ + i * 1) t)
      (fun i h => IsRangeIter h s.heap.objs.size (a₀ + (i : Nat) * 1) ((n : Int) - (i : Nat)) 1) := (Walks.range hh _ a₀ 1 n).bound
  refine keep_loop names W (fun a ha => .inl ha) ?_ ?_ ?_ (by show IsRangeIter _ _ _ _ _; rw [hn]; simpa using Heap.get?_push_size _ rfl) (F.push _) (fun p hp => ⟨Heap.get?_push_of_some _ (N p hp).1, (N p hp).2⟩) ?_ ?_
  · intro hm
    exact absurd F.ns.lt ((List.mem_singleton.mp hm) ▸ Nat.lt_irrefl _)
  · intro b hb
    rw [List.mem_singleton.mp hb]
    exact next_is_new F
  · intro p hp hI
    exact absurd (Heap.lt_size (N p hp).1) ((List.mem_singleton.mp hI) ▸ Nat.lt_irrefl _)
  · rintro i v u h tk own hi ⟨_, t, rfl⟩ F₁ N₁
    exact turn _ t u h tk own (by omega) (by omega) F₁ N₁
  · exact fun u h tk F₁ N₁ => done u h tk F₁ N₁
/-- over a made tuple -/
theorem keep_tup {L ax : Addr} {lo : Obj} {vs : List Value} {n : Nat} {m₀ : Str → Option Value} {news : List (Addr × Obj)} (names : List Str)
    (hL : env.locals = L) (hh : A.handled = none) (hm : (ax, lo) ∈ news) (hc : lo.cls = .type "tuple") (hd : lo.data = .seq vs.toArray n) (F : Fr h₀ L s.heap m₀) (N : News h₀ L s.heap news)
    (turn : ∀ v u h tk own, v ∈ vs → Fr h₀ L h (fun y => if y = x then some v else forget u m₀ names y) → News h₀ L h (news ++ own) →
      wpAny (model prog w) A (execs body env) (KeepPost h₀ L (x :: names) m₀ (news ++ own) { s with heap := h, toks := tk } Q) E { s with heap := h, toks := tk })
    (done : ∀ u h tk, Fr h₀ L h (forget u m₀ (x :: names)) → News h₀ L h news → Q .next { s with heap := h, toks := tk }) :
    wpAny (model prog w) A (pyIter (.ref ax)) (fun it s₂ => LoopAtV prog w A h₀ env x body Q E it s₂) E s := by
  subst hL
  have hax := N _ hm
  have hl : s.heap.IsTuple ax vs.toArray := ⟨lo, hax.1, hc, n, hd⟩
  have hlt : ax < s.heap.objs.size := Heap.lt_size hax.1
  have hne : ax ≠ s.heap.objs.size := Nat.ne_of_lt hlt
  refine wpAny_pyIter_tuple hl ?_
  refine keep_loop names (Walks.tuple hh s.heap.objs.size ax hne vs.toArray) ?_ ?_ ?_ ?_ ?_ (F.push _) (fun p hp => ⟨Heap.get?_push_of_some _ (N p hp).1, (N p hp).2⟩) ?_ ?_
  · intro a ha
    rcases List.mem_cons.mp ha with e | ha
    · exact .inl (by simp [e])
    · exact .inr ⟨lo, by rw [List.mem_singleton.mp ha]; exact hm⟩
  · intro hI
    rcases List.mem_cons.mp hI with e | hI
    · exact absurd F.ns.lt (e ▸ Nat.lt_irrefl _)
    · exact hax.2.1 (List.mem_singleton.mp hI).symm
  · intro b hb
    rw [List.mem_singleton.mp hb]
    exact next_is_new F
  · intro p hp hI
    exact absurd (Heap.lt_size (N p hp).1) ((List.mem_singleton.mp hI) ▸ Nat.lt_irrefl _)
  · exact ⟨⟨_, Heap.get?_push_size _ rfl, rfl, rfl⟩, hl.at fun o e => Heap.get?_push_of_some _ e⟩
  · rintro i v u h tk own hi hP F₁ N₁
    have hP' : vs.toArray[i]? = some v := hP
    exact turn v u h tk own (by simpa using List.mem_of_getElem? (by simpa using hP')) F₁ N₁
  · exact fun u h tk F₁ N₁ => done u h tk F₁ N₁
theorem news_head {h₀ h : Heap} {L : Addr} {a : Addr × Obj} {r : List (Addr × Obj)} (N : News h₀ L h (a :: r)) : News h₀ L h [a] := fun p hp => N p (by rw [List.mem_singleton.mp hp]; exact List.mem_cons_self ..)
end
end Mine
end

section
open PySem PySem.W PyProof.Rows
set_option linter.unusedVariables false
namespace Mine
open PySem PySem.Calls PyProof.Rows
/-- f a + f (a + 1) + .. , i of them -/
def psum (f : Int → Int) (a : Int) : Nat → Int
  | 0 => 0
  | i + 1 => psum f a i + f (a + i)
theorem psum_rng {f : Int → Int} {a : Int} (hf : ∀ k, 0 ≤ f k ∧ f k ≤ 30) : ∀ i : Nat, 0 ≤ psum f a i ∧ psum f a i ≤ 30 * i
  | 0 => by simp [psum]
  | i + 1 => by
    have h := psum_rng (a := a) hf i
    have h2 := hf (a + i)
    show 0 ≤ psum f a i + f (a + i) ∧ psum f a i + f (a + i) ≤ 30 * ((i + 1 : Nat) : Int)
    omega
section
variable {prog : Program} {w : World} {A : Around} {E : Value → Shared → Prop} {s : Shared} {env : Env} {h₀ : Heap} {x : Str} {body : List Stmt} {Q : Flow → Shared → Prop}
def AccEnd (h₀ : Heap) (L : Addr) (x y : Str) (v : Int) (m₀ : Str → Option Value) (need : List (Addr × Obj)) (s₁ s₂ : Shared) : Prop :=
  ∃ h' tk m' news' tv, s₂ = { s₁ with heap := h', toks := tk } ∧ Fr h₀ L h' m' ∧ News h₀ L h' news' ∧ (∀ p ∈ need, p ∈ news') ∧ m' y = some (.float (H v) tv) ∧ ∀ z, z ∉ [y, x] → m' z = m₀ z
def AccPost (h₀ : Heap) (L : Addr) (x y : Str) (v : Int) (m₀ : Str → Option Value) (need : List (Addr × Obj)) (s₁ : Shared) (Q : Flow → Shared → Prop) (f : Flow) (s₂ : Shared) : Prop :=
  match f with
  | .ret v => Q (.ret v) s₂
  | .brk => False
  | _ => AccEnd h₀ L x y v m₀ need s₁ s₂
theorem acc_end {L : Addr} {y : Str} {v v' : Int} {tv : Tok} {m₀ m' : Str → Option Value} {need news' : List (Addr × Obj)} {s₁ : Shared} {h' : Heap} {tk : Nat} (F : Fr h₀ L h' m') (N : News h₀ L h' news') (hn : ∀ p ∈ need, p ∈ news')
    (hy : m' y = some (.float (H v') tv)) (hv : v' = v) (hm : ∀ z, z ∉ [y, x] → m' z = m₀ z) : AccEnd h₀ L x y v m₀ need s₁ { s₁ with heap := h', toks := tk } := ⟨h', tk, m', news', tv, rfl, F, N, hn, hv ▸ hy, hm⟩
theorem accf_map {m₁ m₀ : Str → Option Value} {y : Str} {v : Int} {tv : Tok} (hv : m₁ y = some (.float (H v) tv)) (hm : ∀ z, z ∉ [y, x] → m₁ z = m₀ z) : m₁ = fun z => if z = y then some (.float (H v) tv) else if z = x then m₁ z else m₀ z := by
  funext z
  by_cases e : z = y
  · rw [if_pos e, e, hv]
  · rw [if_neg e]
    by_cases e2 : z = x
    · rw [if_pos e2]
    · rw [if_neg e2]
      exact hm z (by simp [e, e2])
theorem acc_range {L r : Addr} {a b : Int} {t₀ u₀ v₀ : Tok} {n : Nat} {m₀ : Str → Option Value} {news : List (Addr × Obj)} (y : Str) (f : Int → Int) {v0 : Int} {tv0 : Tok} (hf : ∀ k, 0 ≤ f k ∧ f k ≤ 30)
    (hL : env.locals = L) (hh : A.handled = none) (hr : IsRange s.heap r a b 1 t₀ u₀ v₀) (hsmall : Builtin.Range.small a b 1 = true) (hn : Builtin.Range.rangeSize a b 1 = (n : Int)) (F : Fr h₀ L s.heap m₀) (N : News h₀ L s.heap news) (hy : m₀ y = some (.float (H v0) tv0))
    (turn : ∀ (k v : Int) (t tv : Tok) (u : Str → Option Value) (h : Heap) (tk : Nat) (own : List (Addr × Obj)), a ≤ k → k < a + n → v0 ≤ v → v ≤ v0 + 60 * n → Fr h₀ L h (fun z => if z = x then some (.int k t) else if z = y then some (.float (H v) tv) else if z = x then u z else m₀ z) → News h₀ L h (news ++ own) →
      wpAny (model prog w) A (execs body env) (AccPost h₀ L x y (v + 2 * f k) m₀ (news ++ own) { s with heap := h, toks := tk } Q) E { s with heap := h, toks := tk })
    (done : ∀ (u : Str → Option Value) (tv : Tok) (h : Heap) (tk : Nat), Fr h₀ L h (fun z => if z = y then some (.float (H (v0 + 2 * psum f a n)) tv) else if z = x then u z else m₀ z) → News h₀ L h news → Q .next { s with heap := h, toks := tk }) :
    wpAny (model prog w) A (pyIter (.ref r)) (fun it s₂ => LoopAtV prog w A h₀ env x body Q E it s₂) E s := by
  subst hL
  refine wpAny_pyIter_range hr hsmall ?_
  have W : Walks prog w A s.heap.objs.size [s.heap.objs.size] [s.heap.objs.size] n (fun i v => i < n ∧ ∃ t, v = .int (a + i * 1) t)
      (fun i h => IsRangeIter h s.heap.objs.size (a + (i : Nat) * 1) ((n : Int) - (i : Nat)) 1) := (Walks.range hh _ a 1 n).bound
  refine ⟨_, _, _, n, _, _, m₀, news, fun i m nx => nx = news ∧ ∃ tv, m y = some (.float (H (v0 + 2 * psum f a i)) tv) ∧ ∀ z, z ∉ [y, x] → m z = m₀ z, rfl, W, ?_, ?_, ?_, (by show IsRangeIter _ _ _ _ _; rw [hn]; simpa using Heap.get?_push_size _ rfl), F.push _, (fun p hp => ⟨Heap.get?_push_of_some _ (N p hp).1, (N p hp).2⟩), ⟨rfl, tv0, by simpa [psum] using hy, fun _ _ => rfl⟩, ?_, ?_⟩
  · intro hm
    exact absurd F.ns.lt ((List.mem_singleton.mp hm) ▸ Nat.lt_irrefl _)
  · intro b hb
    rw [List.mem_singleton.mp hb]
    exact next_is_new F
  · intro p hp hI
    exact absurd (Heap.lt_size (N p hp).1) ((List.mem_singleton.mp hI) ▸ Nat.lt_irrefl _)
  · rintro i v m₁ news₁ s₁ own ⟨hh', tk', rfl⟩ hin ⟨hi, t, rfl⟩ ⟨rfl, tv, hv, hk⟩ hoff hown hget hmem hst' F₁ N₁
    have N₂ : News h₀ env.locals hh' (news₁ ++ own) := fun p hp => N₁ p ((List.mem_append.mp hp).elim (fun h => List.mem_append.mpr (.inr h)) fun h => List.mem_append.mpr (.inl h))
    have e1 : a + (i : Int) * 1 = a + i := by omega
    rw [e1, accf_map hv hk] at F₁
    have b := psum_rng (a := a) hf i
    refine wpAny_mono (turn (a + i) (v0 + 2 * psum f a i) t tv m₁ hh' tk' own (by omega) (by omega) (by omega) (by omega) F₁ N₂) (fun fl s₂ p => ?_) fun _ _ e => e
    have fin : AccEnd h₀ env.locals x y (v0 + 2 * psum f a i + 2 * f (a + i)) m₀ (news₁ ++ own) { s with heap := hh', toks := tk' } s₂ → LoopStepU h₀ env.locals [s.heap.objs.size] own (fun m nx => nx = news₁ ∧ ∃ tv, m y = some (.float (H (v0 + 2 * psum f a (i + 1))) tv) ∧ ∀ z, z ∉ [y, x] → m z = m₀ z) { s with heap := hh', toks := tk' } .next s₂ := by
      rintro ⟨h', tk, m', news', tv', e, F', N', hn', hv', hk'⟩
      refine ⟨rfl, h', tk, m', news₁, e, F', fun p hp => N' p (hn' p ?_), hoff, rfl, tv', ?_, hk'⟩
      · exact (List.mem_append.mp hp).elim (fun h => List.mem_append.mpr (.inr h)) fun h => List.mem_append.mpr (.inl h)
      · have e2 : v0 + 2 * psum f a (i + 1) = v0 + 2 * psum f a i + 2 * f (a + i) := by
          show v0 + 2 * (psum f a i + f (a + i)) = _
          omega
        rw [e2]
        exact hv'
    cases fl with
    | ret v => exact .ret p
    | brk => exact p.elim
    | next => exact .next (fin p)
    | cont => exact .cont (fin p)
  · rintro h' tk m' news' F' N' _ ⟨rfl, tv, hv, hk⟩
    rw [accf_map hv hk] at F'
    exact done m' tv h' tk F' N'
end
end Mine
end

section
open PySem PySem.W PyProof.Rows
set_option linter.unusedVariables false
namespace Mine
open PySem PySem.Calls PyProof.Rows
/-- the lengths in front of the first pair that bears m -/
def pref : List (Int × Int) → Int → Int
  | [], _ => 0
  | (a, b) :: r, m => if a = m then 0 else b + pref r m
abbrev pairObj (a b : Int) (t u : Tok) : Obj := { cls := .type "tuple", data := .seq #[.int a t, .int b u] }
inductive PairsIn (news : List (Addr × Obj)) : List Value → List (Int × Int) → Prop
  | nil : PairsIn news [] []
  | cons {T : Addr} {a b : Int} {t u : Tok} {vs : List Value} {ps : List (Int × Int)} : (T, pairObj a b t u) ∈ news → PairsIn news vs ps → PairsIn news (.ref T :: vs) ((a, b) :: ps)
theorem PairsIn.length {news : List (Addr × Obj)} : ∀ {vs : List Value} {ps : List (Int × Int)}, PairsIn news vs ps → vs.length = ps.length
  | _, _, .nil => rfl
  | _, _, .cons _ h => congrArg (· + 1) h.length
theorem PairsIn.get {news : List (Addr × Obj)} : ∀ {vs : List Value} {ps : List (Int × Int)}, PairsIn news vs ps → ∀ {i : Nat} {v : Value}, vs[i]? = some v →
    ∃ T a b t u, v = .ref T ∧ (T, pairObj a b t u) ∈ news ∧ ps.drop i = (a, b) :: ps.drop (i + 1)
  | _, _, .nil, i, v, h => by simp at h
  | _, _, .cons (T := T) (a := a) (b := b) (t := t) (u := u) hm hr, 0, v, h => by
    have e : v = .ref T := by simpa using h.symm
    exact ⟨T, a, b, t, u, e, hm, rfl⟩
  | _, _, .cons hm hr, i + 1, v, h => by
    obtain ⟨T, a, b, t, u, e, hm', hd⟩ := hr.get (i := i) (v := v) (by simpa using h)
    exact ⟨T, a, b, t, u, e, hm', by simpa using hd⟩
section
variable {prog : Program} {w : World} {A : Around} {E : Value → Shared → Prop} {s : Shared} {env : Env} {h₀ : Heap} {target : Expr} {body : List Stmt} {Q : Flow → Shared → Prop}
def PairEnd (h₀ : Heap) (L : Addr) (y : Str) (val : Int) (names : List Str) (m₀ : Str → Option Value) (need : List (Addr × Obj)) (P : Prop) (s₁ s₂ : Shared) : Prop :=
  P ∧ ∃ h' tk m' news' tv, s₂ = { s₁ with heap := h', toks := tk } ∧ Fr h₀ L h' m' ∧ News h₀ L h' news' ∧ (∀ p ∈ need, p ∈ news') ∧ m' y = some (.int val tv) ∧ ∀ z, z ∉ y :: names → m' z = m₀ z
def PairPost (h₀ : Heap) (L : Addr) (y : Str) (acc a b month : Int) (names : List Str) (m₀ : Str → Option Value) (need : List (Addr × Obj)) (s₁ : Shared) (Q : Flow → Shared → Prop) (f : Flow) (s₂ : Shared) : Prop :=
  match f with
  | .ret v => Q (.ret v) s₂
  | .brk => PairEnd h₀ L y acc names m₀ need (a = month) s₁ s₂
  | _ => PairEnd h₀ L y (acc + b) names m₀ need (a ≠ month) s₁ s₂
theorem pair_end {L : Addr} {y : Str} {val : Int} {tv : Tok} {names : List Str} {m₀ m' : Str → Option Value} {need news' : List (Addr × Obj)} {P : Prop} {s₁ : Shared} {h' : Heap} {tk : Nat} (F : Fr h₀ L h' m') (N : News h₀ L h' news') (hP : P) (hn : ∀ p ∈ need, p ∈ news')
    (hv : m' y = some (.int val tv)) (hm : ∀ z, z ∉ y :: names → m' z = m₀ z) : PairEnd h₀ L y val names m₀ need P s₁ { s₁ with heap := h', toks := tk } := ⟨hP, h', tk, m', news', tv, rfl, F, N, hn, hv, hm⟩
theorem acc_map {m₁ m₀ : Str → Option Value} {y : Str} {val : Int} {tv : Tok} {names : List Str} (hv : m₁ y = some (.int val tv)) (hm : ∀ z, z ∉ y :: names → m₁ z = m₀ z) : m₁ = fun z => if z = y then some (.int val tv) else forget m₁ m₀ names z := by
  funext z
  have h3 : forget m₁ m₀ (y :: names) z = m₁ z := forget_eq hm z
  have h4 : forget m₁ m₀ (y :: names) z = if z = y then m₁ z else forget m₁ m₀ names z := rfl
  rw [h4] at h3
  by_cases e : z = y
  · rw [if_pos e, e, hv]
  · rw [if_neg e] at h3
    rw [if_neg e, h3]
theorem pairs_loop {L ax : Addr} {lo : Obj} {vs : List Value} {n : Nat} {m₀ : Str → Option Value} {news : List (Addr × Obj)} {base : Int} {t₀ : Tok} (y : Str) (names : List Str) (ps : List (Int × Int)) (month : Int)
    (hL : env.locals = L) (hh : A.handled = none) (hm : (ax, lo) ∈ news) (hc : lo.cls = .type "list") (hd : lo.data = .seq vs.toArray n) (F : Fr h₀ L s.heap m₀) (N : News h₀ L s.heap news) (hy : m₀ y = some (.int base t₀))
    (hmo : 1 ≤ month ∧ month ≤ 13) (hps : PairsIn news vs ps) (hin : month ∈ ps.map (·.1))
    (turn : ∀ a b acc T t1 t2 ta u h tk nd, Fr h₀ L h (fun z => if z = y then some (.int acc ta) else forget u m₀ names z) → News h₀ L h ((T, pairObj a b t1 t2) :: nd) →
      wpAny (model prog w) A (assign target env (.ref T)) (fun _ s₃ => wpAny (model prog w) A (execs body env) (PairPost h₀ L y acc a b month names m₀ nd { s with heap := h, toks := tk } Q) E s₃) E { s with heap := h, toks := tk })
    (done : ∀ u acc ta h tk, acc = base + pref ps month → Fr h₀ L h (fun z => if z = y then some (.int acc ta) else forget u m₀ names z) → News h₀ L h news → Q .next { s with heap := h, toks := tk }) :
    wpAny (model prog w) A (pyIter (.ref ax)) (fun it s₂ => TurnsAt prog w A h₀ env target body Q E it s₂) E s := by
  subst hL
  have hax := N _ hm
  have hl : s.heap.IsList ax vs.toArray := ⟨lo, hax.1, hc, n, hd⟩
  have hlt : ax < s.heap.objs.size := Heap.lt_size hax.1
  have hne : ax ≠ s.heap.objs.size := Nat.ne_of_lt hlt
  refine wpAny_pyIter_list hl ?_
  have hlen : vs.toArray.size = ps.length := by rw [List.size_toArray, hps.length]
  let J : Nat → (Str → Option Value) → List (Addr × Obj) → Prop := fun i m nx => nx = news ∧ ∃ acc tv, m y = some (.int acc tv) ∧ acc + pref (ps.drop i) month = base + pref ps month ∧ month ∈ (ps.drop i).map (·.1) ∧ ∀ z, z ∉ y :: names → m z = m₀ z
  refine ⟨_, _, _, _, _, _, _, m₀, news, J, rfl, KTurns.ofWalks (Walks.list hh s.heap.objs.size ax hne vs.toArray) (fun i v s Q E st q => letGo_listiter st.1 q), ?_, ?_, ?_, ?_, F.push _, (fun p hp => ⟨Heap.get?_push_of_some _ (N p hp).1, (N p hp).2⟩), ⟨rfl, base, t₀, hy, rfl, hin, fun _ _ => rfl⟩, ?_, ?_⟩
  · intro hI
    rcases List.mem_cons.mp hI with e | hI
    · exact absurd F.ns.lt (e ▸ Nat.lt_irrefl _)
    · exact hax.2.1 (List.mem_singleton.mp hI).symm
  · intro b hb
    rw [List.mem_singleton.mp hb]
    exact next_is_new F
  · intro p hp hI
    exact absurd (Heap.lt_size (N p hp).1) ((List.mem_singleton.mp hI) ▸ Nat.lt_irrefl _)
  · exact ⟨⟨_, Heap.get?_push_size _ rfl, rfl, rfl⟩, hl.at fun o e => Heap.get?_push_of_some _ e⟩
  · rintro i v m₁ news₁ hh' tk' own hi hP ⟨rfl, acc, tv, hv, hsum, hmem, hkeep⟩ hoff hown hget hown2 hst F₁ N₁
    obtain ⟨T, a, b, t, u, rfl, hT, hdrop⟩ := hps.get (i := i) (v := v) (by have hP' : vs.toArray[i]? = some v := hP; simpa using hP')
    rw [acc_map hv hkeep] at F₁
    have N₂ : News h₀ env.locals hh' ((T, pairObj a b t u) :: (news₁ ++ own)) := by
      intro p hp
      rcases List.mem_cons.mp hp with rfl | hp
      · exact N₁ _ (List.mem_append.mpr (.inr hT))
      · exact N₁ p ((List.mem_append.mp hp).elim (fun h => List.mem_append.mpr (.inr h)) fun h => List.mem_append.mpr (.inl h))
    rw [hdrop] at hsum hmem
    refine wpAny_mono (turn a b acc T t u tv m₁ hh' tk' (news₁ ++ own) F₁ N₂) (fun _ s₃ h₃ => wpAny_mono h₃ (fun f s₂ p => ?_) fun _ _ e => e) fun _ _ e => e
    have fin : PairEnd h₀ env.locals y (acc + b) names m₀ (news₁ ++ own) (a ≠ month) { s with heap := hh', toks := tk' } s₂ → LoopStepU h₀ env.locals [s.heap.objs.size] own (J (i + 1)) { s with heap := hh', toks := tk' } .next s₂ := by
      rintro ⟨hne', h', tk, m', news', tv', e, F', N', hn, hv', hk'⟩
      refine ⟨rfl, h', tk, m', news₁, e, F', fun p hp => N' p (hn p ?_), hoff, rfl, acc + b, tv', hv', ?_, ?_, hk'⟩
      · exact (List.mem_append.mp hp).elim (fun h => List.mem_append.mpr (.inr h)) fun h => List.mem_append.mpr (.inl h)
      · rw [← hsum]
        show acc + b + pref (ps.drop (i + 1)) month = acc + (if a = month then 0 else b + pref (ps.drop (i + 1)) month)
        rw [if_neg hne']
        omega
      · rcases List.mem_cons.mp (show month ∈ a :: (ps.drop (i + 1)).map (·.1) from hmem) with e | e
        · exact absurd e.symm hne'
        · exact e
    cases f with
    | ret v => exact .ret p
    | brk =>
      refine .brk ?_
      obtain ⟨he, h', tk, m', news', tv', rfl, F', N', hn, hv', hk'⟩ := p
      rw [acc_map hv' hk'] at F'
      refine done m' acc tv' h' tk ?_ F' (fun p hp => N' p (hn p (List.mem_append.mpr (.inl hp))))
      rw [← hsum]
      show acc = acc + (if a = month then 0 else b + pref (ps.drop (i + 1)) month)
      rw [if_pos he]
      omega
    | next => exact .next (fin p)
    | cont => exact .cont (fin p)
  · rintro h' tk m' news' F' N' _ ⟨rfl, acc, tv, hv, hsum, hmem, hkeep⟩
    rw [hlen, List.drop_length] at hmem
    cases hmem
end
end Mine
end

section
open PySem PySem.W PyProof.Rows
set_option linter.unusedVariables false
namespace Mine
open PySem PySem.Calls PyProof.Rows
section
variable {prog : Program} {w : World} {A : Around} {E : Value → Shared → Prop} {Q : Flow → Shared → Prop} {s : Shared} {env : Env} {h₀ : Heap} {L : Addr}
/-- a turn's end of a while that turns two ints -/
def TwoEnd (h₀ : Heap) (L : Addr) (x y : Str) (m : Str → Option Value) (news : List (Addr × Obj)) (P : Int → Int → Prop) (μ : Int → Int → Nat) (a b : Int) (s : Shared) (f : Flow) (s₃ : Shared) : Prop :=
  f = .next ∧ ∃ h' tk m' news' a' ta b' tb, s₃ = { s with heap := h', toks := tk } ∧ Fr h₀ L h' m' ∧ News h₀ L h' news' ∧ (∀ p ∈ news, p ∈ news') ∧ m' x = some (.int a' ta) ∧ m' y = some (.int b' tb) ∧ (∀ z, z ∉ [x, y] → m' z = m z) ∧ P a' b' ∧ μ a' b' < μ a b
theorem two_end {x y : Str} {m m' : Str → Option Value} {news news' : List (Addr × Obj)} {P : Int → Int → Prop} {μ : Int → Int → Nat} {a b a' b' : Int} {ta tb : Tok} {h' : Heap} {tk : Nat} (F : Fr h₀ L h' m') (N : News h₀ L h' news') (hn : ∀ p ∈ news, p ∈ news')
    (hx : m' x = some (.int a' ta)) (hy : m' y = some (.int b' tb)) (hm : ∀ z, z ∉ [x, y] → m' z = m z) (hP : P a' b') (hμ : μ a' b' < μ a b) : TwoEnd h₀ L x y m news P μ a b s .next { s with heap := h', toks := tk } :=
  ⟨rfl, h', tk, m', news', a', ta, b', tb, rfl, F, N, hn, hx, hy, hm, hP, hμ⟩
theorem two_map {m₁ m : Str → Option Value} {x y : Str} {a b : Int} {ta tb : Tok} (hx : m₁ x = some (.int a ta)) (hy : m₁ y = some (.int b tb)) (hm : ∀ z, z ∉ [x, y] → m₁ z = m z) : m₁ = fun z => if z = x then some (.int a ta) else if z = y then some (.int b tb) else m z := by
  funext z
  by_cases e : z = x
  · rw [if_pos e, e, hx]
  · rw [if_neg e]
    by_cases e2 : z = y
    · rw [if_pos e2, e2, hy]
    · rw [if_neg e2]
      exact hm z (by simp [e, e2])
theorem while2 {test : Expr} {body : List Stmt} {pos : Pos} {m : Str → Option Value} {news : List (Addr × Obj)} (x y : Str) (P : Int → Int → Prop) (μ : Int → Int → Nat) {a₀ b₀ : Int} {ta₀ tb₀ : Tok}
    (F : Fr h₀ L s.heap m) (N : News h₀ L s.heap news) (hx : m x = some (.int a₀ ta₀)) (hy : m y = some (.int b₀ tb₀)) (hP : P a₀ b₀)
    (turn : ∀ a b ta tb h tk, P a b → Fr h₀ L h (fun z => if z = x then some (.int a ta) else if z = y then some (.int b tb) else m z) → News h₀ L h news →
      wpAny (model prog w) A (isTrue test env (eval test env)) (fun c s₂ =>
        if c = true then wpAny (model prog w) A (execs body env) (TwoEnd h₀ L x y m news P μ a b s) E s₂ else Q .next s₂) E { s with heap := h, toks := tk })
    (hE : PassesOwn (model prog w) A env E := by passes_own) :
    wpAny (model prog w) A (exec (.While test body [] pos) env) Q E s := by
  refine While_inv (n₀ := μ a₀ b₀) (fun n m₁ nx => nx = news ∧ ∃ a ta b tb, m₁ x = some (.int a ta) ∧ m₁ y = some (.int b tb) ∧ (∀ z, z ∉ [x, y] → m₁ z = m z) ∧ P a b ∧ n = μ a b) F N ⟨rfl, a₀, ta₀, b₀, tb₀, hx, hy, fun _ _ => rfl, hP, rfl⟩ ?_ hE
  rintro n m₁ nx h₁ tk₁ F₁ N₁ ⟨rfl, a, ta, b, tb, hx₁, hy₁, hm₁, hP₁, rfl⟩
  rw [two_map hx₁ hy₁ hm₁] at F₁
  refine wpAny_mono (turn a b ta tb h₁ tk₁ hP₁ F₁ N₁) (fun c s₂ h₂ => ?_) fun _ _ e => e
  cases c with
  | false => simpa using h₂
  | true =>
    simp only [if_true] at h₂ ⊢
    refine wpAny_mono h₂ (fun f s₃ h₃ => ?_) fun _ _ e => e
    obtain ⟨rfl, h', tk, m', news', a', ta', b', tb', rfl, F', N', hn, hx', hy', hm', hP', hμ⟩ := h₃
    exact WhileStep.intro F' (fun p hp => N' p (hn p hp)) hμ ⟨rfl, a', ta', b', tb', hx', hy', hm', hP', rfl⟩
/-- a while that turns one int -/
def OneEnd (h₀ : Heap) (L : Addr) (x : Str) (m : Str → Option Value) (news : List (Addr × Obj)) (P : Int → Prop) (μ : Int → Nat) (a : Int) (s : Shared) (f : Flow) (s₃ : Shared) : Prop :=
  f = .next ∧ ∃ h' tk m' news' a' ta, s₃ = { s with heap := h', toks := tk } ∧ Fr h₀ L h' m' ∧ News h₀ L h' news' ∧ (∀ p ∈ news, p ∈ news') ∧ m' x = some (.int a' ta) ∧ (∀ z, z ∉ [x] → m' z = m z) ∧ P a' ∧ μ a' < μ a
theorem one_end {x : Str} {m m' : Str → Option Value} {news news' : List (Addr × Obj)} {P : Int → Prop} {μ : Int → Nat} {a a' : Int} {ta : Tok} {h' : Heap} {tk : Nat} (F : Fr h₀ L h' m') (N : News h₀ L h' news') (hn : ∀ p ∈ news, p ∈ news')
    (hx : m' x = some (.int a' ta)) (hm : ∀ z, z ∉ [x] → m' z = m z) (hP : P a') (hμ : μ a' < μ a) : OneEnd h₀ L x m news P μ a s .next { s with heap := h', toks := tk } :=
  ⟨rfl, h', tk, m', news', a', ta, rfl, F, N, hn, hx, hm, hP, hμ⟩
theorem one_map {m₁ m : Str → Option Value} {x : Str} {a : Int} {ta : Tok} (hx : m₁ x = some (.int a ta)) (hm : ∀ z, z ∉ [x] → m₁ z = m z) : m₁ = fun z => if z = x then some (.int a ta) else m z := by
  funext z
  by_cases e : z = x
  · rw [if_pos e, e, hx]
  · rw [if_neg e]
    exact hm z (by simp [e])
theorem while1 {test : Expr} {body : List Stmt} {pos : Pos} {m : Str → Option Value} {news : List (Addr × Obj)} (x : Str) (P : Int → Prop) (μ : Int → Nat) {a₀ : Int} {ta₀ : Tok}
    (F : Fr h₀ L s.heap m) (N : News h₀ L s.heap news) (hx : m x = some (.int a₀ ta₀)) (hP : P a₀)
    (turn : ∀ a ta h tk, P a → Fr h₀ L h (fun z => if z = x then some (.int a ta) else m z) → News h₀ L h news →
      wpAny (model prog w) A (isTrue test env (eval test env)) (fun c s₂ =>
        if c = true then wpAny (model prog w) A (execs body env) (OneEnd h₀ L x m news P μ a s) E s₂ else Q .next s₂) E { s with heap := h, toks := tk })
    (hE : PassesOwn (model prog w) A env E := by passes_own) :
    wpAny (model prog w) A (exec (.While test body [] pos) env) Q E s := by
  refine While_inv (n₀ := μ a₀) (fun n m₁ nx => nx = news ∧ ∃ a ta, m₁ x = some (.int a ta) ∧ (∀ z, z ∉ [x] → m₁ z = m z) ∧ P a ∧ n = μ a) F N ⟨rfl, a₀, ta₀, hx, fun _ _ => rfl, hP, rfl⟩ ?_ hE
  rintro n m₁ nx h₁ tk₁ F₁ N₁ ⟨rfl, a, ta, hx₁, hm₁, hP₁, rfl⟩
  rw [one_map hx₁ hm₁] at F₁
  refine wpAny_mono (turn a ta h₁ tk₁ hP₁ F₁ N₁) (fun c s₂ h₂ => ?_) fun _ _ e => e
  cases c with
  | false => simpa using h₂
  | true =>
    simp only [if_true] at h₂ ⊢
    refine wpAny_mono h₂ (fun f s₃ h₃ => ?_) fun _ _ e => e
    obtain ⟨rfl, h', tk, m', news', a', ta', rfl, F', N', hn, hx', hm', hP', hμ⟩ := h₃
    exact WhileStep.intro F' (fun p hp => N' p (hn p hp)) hμ ⟨rfl, a', ta', hx', hm', hP', rfl⟩
end
end Mine
end

section
open PySem PySem.W PyProof.Rows
set_option linter.unusedVariables false
namespace Mine
open PySem PySem.Calls PyProof.Rows
section
variable {prog : Program} {w : World} {A : Around} {E : Value → Shared → Prop} {s : Shared} {h₀ : Heap} {L : Addr} {m : Str → Option Value} {env : Env}
/-- the source of «[one for one in SOURCE if one <= past]» -/
def LeSrc (h₀ : Heap) (L : Addr) (m : Str → Option Value) (c : Addr) (past : Int) (ns : List Int) (news : List (Addr × Obj)) (Q : Value → Shared → Prop) (xv : Value) (s₁ : Shared) : Prop :=
  ∃ ax vs o tp, xv = .ref ax ∧ s₁.heap.IsList ax vs.toArray ∧ IntsAre vs ns ∧ o.data = .cell (some (.int past tp)) ∧ Fr h₀ L s₁.heap m ∧ News h₀ L s₁.heap ((c, o) :: news) ∧
    ∀ D (ys : List Value) h' tk, Fr h₀ L h' m → News h₀ L h' ((c, o) :: news) → h'.IsList D ys.toArray → ys.length = (ns.filter fun n => decide (n ≤ past)).length → Q (.ref D) { s₁ with heap := h', toks := tk }
theorem carried_length : ∀ {ys : List Value} {ds : List PyData}, CarriedAll ys ds → ys.length = ds.length
  | _, _, .nil => rfl
  | _, _, .cons _ h => congrArg (· + 1) (carried_length h)
theorem comp_le {x y : Str} {px p1 p2 p3 p4 pos : Pos} {iter : Expr} {scope : Scope} {cl : List (Str × Addr)} {c : Addr} {past : Int} {Q : Value → Shared → Prop} {news : List (Addr × Obj)}
    (ns : List Int) {o₀ : Obj} {tp₀ : Tok} (F₀ : Fr h₀ L s.heap m) (N₀ : News h₀ L s.heap ((c, o₀) :: news)) (ho₀ : o₀.data = .cell (some (.int past tp₀)))
    (hh : A.handled = none) (hclos : closureFor scope env = pure cl) (hcell : ∀ z ∈ scope.names, z.2 ≠ .cell) (hkind : scope.kind = .function)
    (hnames : ∀ z ∈ scope.names, z.2 = .local → scope.names.lookup z.1 = some .local) (hx : scope.names.lookup x = some .local)
    (hkx : ∀ C, (compEnvC scope cl C env).kindOf x = some .local) (hky : ∀ C, (compEnvC scope cl C env).kindOf y = some .cell) (hsk : ∀ C, (compEnvC scope cl C env).scope.kind = .function)
    (hc : cl.lookup y = some c) (hdx : (x == ("__debug__" : Str)) = false) (hdy : (y == ("__debug__" : Str)) = false) (hm : behindInMarks .LtE (.Name y p3) = false) (hsz : ns.length ≤ 1000)
    (hs : ∀ x, foldedSetIterable iter env x = pure x)
    (h : wpAny (model prog w) A (eval iter env) (LeSrc h₀ L m c past ns news Q) E s) :
    wpAny (model prog w) A (eval (.ListComp (.Name x p1) [⟨.Name x px, iter, [.Compare (.Name x p2) [.LtE] [.Name y p3] p4], 0⟩] scope pos) env) Q E s := by
  refine ListComp_DCn (h₀ := h₀) (L := L) (m := m) (K := ItemKind.int) (pz := fun n => decide (n ≤ past)) (d := PyData.int) hh hclos hcell hkind hnames hx (wpAny_mono h (fun xv s₁ h₁ => ?_) fun _ _ e => e) hs
  obtain ⟨ax, vs, o, tp, rfl, hl, hi, ho, F, N, hQ⟩ := h₁
  refine ⟨(c, o) :: news, ax, vs, ns, rfl, hl, hi.areOf, Nat.le_trans hsz (by rw [sizeLine_eq]; decide), F, N, ?_, ?_, ?_⟩
  · intro C a v s₂ m₂ E' _ _ hv hn hmx hk
    obtain ⟨t, rfl⟩ := hv
    simp only [List.forIn_cons, List.forIn_nil, if_true, bind_assoc, pure_bind]
    refine wpAny_bind (wpAny_isTrue_Compare1 (wpAny_Name (wpAny_loadName_local (hsk C) (hkx C) hn hmx (wpAny_Name (wpAny_loadName_cell (hsk C) (hky C) hc ⟨o, hk _ _ (N _ (List.mem_cons_self ..)).1, ho⟩ (PyProof.Rows.le_int (wpAny_truthy_bool ?_))) hdy)) hdx) hm)
    exact wpAny_pure ⟨rfl, _, _, rfl, fun _ _ e => e⟩
  · intro C a v s₂ m₂ E' _ _ hv _ hn hmx hk
    obtain ⟨t, rfl⟩ := hv
    exact wpAny_Name (wpAny_loadName_local (hsk C) (hkx C) hn hmx ⟨.int _ _, _, _, rfl, fun _ _ e => e⟩) hdx
  · intro D ys h' tk F' N' _ hlD _ hca
    refine hQ D ys h' tk F' N' hlD ?_
    rw [carried_length hca, List.length_map]
end
end Mine
end

section
open PySem PySem.W PyProof.Rows
set_option maxRecDepth 100000
set_option maxHeartbeats 8000000
namespace Mine
open_top hd for PySem.Challenge.rw_ak5019_01
end Mine
end

section
open PySem PySem.W PyProof.Rows
set_option maxRecDepth 100000
set_option maxHeartbeats 8000000
set_option linter.unusedVariables false
set_option pp.maxSteps 3000
namespace Mine
theorem top_off_G1 : True := by
  w_top off
  trivial
open PySem PySem.Calls PyProof.Rows
/-- what a call within the law's frames asks: the frames, the heap, the room; and what it hands back -/
abbrev Cl (w : World) (f : Addr) (news : List (Addr × Obj)) (vs : List Value) (dd uu : Nat) (post : Heap → Addr → (Str → Option Value) → Shared → (Value → Shared → Prop) → (Value → Shared → Prop) → Prop) : Prop :=
  ∀ (p : Program) (loose : List Str) (mean : ExcName → Option Value) (mg mb : Str → Option Value) (dp un : Nat) (gd : Option (List Code)) (cn : Str) (cs : Scope) (a : Addr) (ccd : Value) (cl : List (Str × Addr)) (outer : List Env) (A₀ : Around) (base h₀ : Heap) (L : Addr) (m : Str → Option Value) (s : Shared) (Q E : Value → Shared → Prop),
    Below A₀ base outer h₀ → Fr h₀ L s.heap m → (hd.heap_39 w.params).In h₀ → News h₀ L s.heap news → Top p loose mean mg mb h₀ → cs.kind = .function → dp + dd < recursionLimit → un + uu < cLine →
    post h₀ L m s Q E →
      wpAny (model PySem.Challenge.rw_ak5019_01.row.prog w) (ktrTop dp un gd cn cs L a ccd cl outer) (call (.ref f) vs) Q E s

abbrev Ret (news : List (Addr × Obj)) (R : Tok → Value) (h₀ : Heap) (L : Addr) (m : Str → Option Value) (s : Shared) (Q E : Value → Shared → Prop) : Prop :=
  ∀ (t : Tok) (h' : Heap) (tk' : Nat), Fr h₀ L h' m → News h₀ L h' news → Q (R t) { s with heap := h', toks := tk' }

/-- an int handed back, by a word of it -/
abbrev RetI (news : List (Addr × Obj)) (P : Int → Prop) (h₀ : Heap) (L : Addr) (m : Str → Option Value) (s : Shared) (Q E : Value → Shared → Prop) : Prop :=
  ∀ (t : Tok) (h' : Heap) (tk' : Nat) (v : Int), P v → Fr h₀ L h' m → News h₀ L h' news → Q (.int v t) { s with heap := h', toks := tk' }
/-- the float v / 2 handed back, by a word of v -/
abbrev RetH (news : List (Addr × Obj)) (P : Int → Prop) (h₀ : Heap) (L : Addr) (m : Str → Option Value) (s : Shared) (Q E : Value → Shared → Prop) : Prop :=
  ∀ (t : Tok) (h' : Heap) (tk' : Nat) (v : Int), P v → Fr h₀ L h' m → News h₀ L h' news → Q (.float (H v) t) { s with heap := h', toks := tk' }
abbrev RetB (news : List (Addr × Obj)) (P : Prop) (h₀ : Heap) (L : Addr) (m : Str → Option Value) (s : Shared) (Q E : Value → Shared → Prop) : Prop :=
  ∀ (h' : Heap) (tk' : Nat), Fr h₀ L h' m → News h₀ L h' news → (P → Q (.bool true) { s with heap := h', toks := tk' }) ∧ (¬ P → Q (.bool false) { s with heap := h', toks := tk' })

section
variable {news : List (Addr × Obj)} {h₀ h' : Heap} {L : Addr} {m : Str → Option Value} {s : Shared} {Q E : Value → Shared → Prop} {t : Tok} {tk' : Nat}
theorem endI {P : Int → Prop} {v : Int} (hret : RetI news P h₀ L m s Q E) (F : Fr h₀ L h' m) (N : News h₀ L h' news) (hP : P v) : Q (.int v t) { s with heap := h', toks := tk' } := hret t h' tk' v hP F N
theorem endH {P : Int → Prop} {v : Int} (hret : RetH news P h₀ L m s Q E) (F : Fr h₀ L h' m) (N : News h₀ L h' news) (hP : P v) : Q (.float (H v) t) { s with heap := h', toks := tk' } := hret t h' tk' v hP F N
theorem endB {P : Prop} {b : Bool} (hret : RetB news P h₀ L m s Q E) (F : Fr h₀ L h' m) (N : News h₀ L h' news) (hP : b = true ↔ P) : Q (.bool b) { s with heap := h', toks := tk' } := bool_two (s := { s with heap := h', toks := tk' }) hP (hret h' tk' F N).1 (hret h' tk' F N).2
end

theorem use_cl {w : World} {f : Addr} {news : List (Addr × Obj)} {vs : List Value} {dd uu : Nat} {post : Heap → Addr → (Str → Option Value) → Shared → (Value → Shared → Prop) → (Value → Shared → Prop) → Prop}
    {p : Program} {loose : List Str} {mean : ExcName → Option Value} {mg mb : Str → Option Value} {dp un : Nat} {gd : Option (List Code)} {cn : Str} {cs : Scope} {a : Addr} {ccd : Value} {cl : List (Str × Addr)} {outer : List Env} {A₀ : Around} {base h₀ : Heap} {L : Addr} {m : Str → Option Value} {s : Shared} {Q E : Value → Shared → Prop}
    (C : Cl w f news vs dd uu post) (B : Below A₀ base outer h₀) (F : Fr h₀ L s.heap m) (X : (hd.heap_39 w.params).In h₀) (N : News h₀ L s.heap news) (T : Top p loose mean mg mb h₀) (hk : cs.kind = .function) (hd' : dp + dd < recursionLimit) (hu : un + uu < cLine)
    (hp : post h₀ L m s Q E) : wpAny (model PySem.Challenge.rw_ak5019_01.row.prog w) (ktrTop dp un gd cn cs L a ccd cl outer) (call (.ref f) vs) Q E s :=
  C p loose mean mg mb dp un gd cn cs a ccd cl outer A₀ base h₀ L m s Q E B F X N T hk hd' hu hp



-- small words of ours, as lines of walk_at
local macro_rules | `(tactic| walk_at "m.bools") => `(tactic| (simp only [decide_eq_true_eq, decide_eq_false_iff_not, Bool.not_eq_true, Bool.not_eq_false, Bool.and_eq_true, Bool.or_eq_true, Bool.not_eq_true', Bool.not_eq_false', beq_iff_eq, bne_iff_ne, beq_eq_false_iff_ne, bne_eq_false_iff_eq, Bool.and_eq_false_iff, Bool.or_eq_false_iff, ne_eq, Decidable.not_not] at *))
local macro_rules | `(tactic| walk_at "m.bnd") => `(tactic| first | omega | decide | ((try walk_at "m.bools"); omega) | (exfalso; (try walk_at "m.bools"); simp_all; omega))
local macro_rules | `(tactic| walk_at "m.hx") => `(tactic| first | with_reducible exact rfl | exact litH | exact litG | exact litHalf)
local macro_rules | `(tactic| walk_at "m.news") => `(tactic| first | k_asm | (refine' cb_drop ?cbN ?cbS; (case cbN => assumption); (case cbS => (intro qN hN; repeat (first | exact hN | refine List.mem_cons_of_mem _ ?_)))))
-- use a claim at a call
local macro_rules | `(tactic| walk_at "m.prem") => `(tactic| (
  (case k1 => k_asm); (case k2 => k_asm); (case k3 => k_asm); (case k4 => k_asm); (case k5 => k_asm);
  (case kK => first | exact rfl | assumption); (case kd => ktr_room); (case ku => ktr_units)))

-- floats
local macro_rules | `(tactic| walk_at "binaryOp Add float int") => `(tactic| first
  | (with_reducible refine' r_add_fi ?x ?al ?au ?nl ?nu ?_; (case x => walk_at "m.hx"); (case al => walk_at "m.bnd"); (case au => walk_at "m.bnd"); (case nl => walk_at "m.bnd"); (case nu => walk_at "m.bnd"); k_whole; (try dsimp only))
  | (with_reducible refine' add_fi_fits ?n ?_; (case n => exact fitsH (by walk_at "m.bnd")); k_whole; (try dsimp only)))
local macro_rules | `(tactic| walk_at "inplaceOp Add float int") => `(tactic| (with_reducible refine' r_iadd_fi rfl ?x ?al ?au ?nl ?nu ?_; (case x => walk_at "m.hx"); (case al => walk_at "m.bnd"); (case au => walk_at "m.bnd"); (case nl => walk_at "m.bnd"); (case nu => walk_at "m.bnd"); k_whole; (try dsimp only)))
local macro_rules | `(tactic| walk_at "binaryOp Add int float") => `(tactic| (with_reducible refine' r_add_if ?x ?al ?au ?nl ?nu ?_; (case x => walk_at "m.hx"); (case al => walk_at "m.bnd"); (case au => walk_at "m.bnd"); (case nl => walk_at "m.bnd"); (case nu => walk_at "m.bnd"); k_whole; (try dsimp only)))
local macro_rules | `(tactic| walk_at "binaryOp Sub float int") => `(tactic| (with_reducible refine' r_sub_fi ?x ?al ?au ?nl ?nu ?_; (case x => walk_at "m.hx"); (case al => walk_at "m.bnd"); (case au => walk_at "m.bnd"); (case nl => walk_at "m.bnd"); (case nu => walk_at "m.bnd"); k_whole; (try dsimp only)))
local macro_rules | `(tactic| walk_at "binaryOp Sub int float") => `(tactic| (with_reducible refine' r_sub_if ?x ?al ?au ?nl ?nu ?_; (case x => walk_at "m.hx"); (case al => walk_at "m.bnd"); (case au => walk_at "m.bnd"); (case nl => walk_at "m.bnd"); (case nu => walk_at "m.bnd"); k_whole; (try dsimp only)))
local macro_rules | `(tactic| walk_at "binaryOp Mult float int") => `(tactic| (with_reducible refine' r_mul_fi ?x ?al ?au ?z ?nl ?nu ?_; (case x => walk_at "m.hx"); (case al => walk_at "m.bnd"); (case au => walk_at "m.bnd"); (case z => walk_at "m.bnd"); (case nl => walk_at "m.bnd"); (case nu => walk_at "m.bnd"); k_whole; (try dsimp only)))
local macro_rules | `(tactic| walk_at "binaryOp Add float float") => `(tactic| (with_reducible refine' r_add_ff ?x ?y ?al ?au ?bl ?bu ?_; (case x => walk_at "m.hx"); (case y => walk_at "m.hx"); (case al => walk_at "m.bnd"); (case au => walk_at "m.bnd"); (case bl => walk_at "m.bnd"); (case bu => walk_at "m.bnd"); k_whole; (try dsimp only)))
local macro_rules | `(tactic| walk_at "binaryOp Sub float float") => `(tactic| (with_reducible refine' r_sub_ff ?x ?y ?al ?au ?bl ?bu ?_; (case x => walk_at "m.hx"); (case y => walk_at "m.hx"); (case al => walk_at "m.bnd"); (case au => walk_at "m.bnd"); (case bl => walk_at "m.bnd"); (case bu => walk_at "m.bnd"); k_whole; (try dsimp only)))
local macro_rules | `(tactic| walk_at "binaryOp Div float int") => `(tactic| (with_reducible refine' r_div_fi rfl ?x ?z ?nl ?nu ?_; (case x => walk_at "m.hx"); (case z => walk_at "m.bnd"); (case nl => walk_at "m.bnd"); (case nu => walk_at "m.bnd"); k_whole; (try dsimp only)))
local macro_rules | `(tactic| walk_at "binaryOp Div int int") => `(tactic| (with_reducible refine' r_div_ii rfl ?z ?nl ?nu ?_; (case z => walk_at "m.bnd"); (case nl => walk_at "m.bnd"); (case nu => walk_at "m.bnd"); k_whole; (try dsimp only)))
local macro_rules | `(tactic| walk_at "binaryOp Mod float int") => `(tactic| (with_reducible refine' r_mod_fi rfl ?x ?al ?au ?z ?nl ?nu ?_; (case x => walk_at "m.hx"); (case al => walk_at "m.bnd"); (case au => walk_at "m.bnd"); (case z => walk_at "m.bnd"); (case nl => walk_at "m.bnd"); (case nu => walk_at "m.bnd"); k_whole; (try dsimp only)))
local macro_rules | `(tactic| walk_at "call builtin:math.floor") => `(tactic| first
  | (with_reducible refine' r_floor_div rfl ?al ?au ?z ?n ?_; (case al => walk_at "m.bnd"); (case au => walk_at "m.bnd"); (case z => walk_at "m.bnd"); (case n => walk_at "m.bnd"); k_whole; (try dsimp only))
  | (with_reducible refine' r_floor_ii rfl ?al ?au ?z ?n ?_; (case al => walk_at "m.bnd"); (case au => walk_at "m.bnd"); (case z => walk_at "m.bnd"); (case n => walk_at "m.bnd"); k_whole; (try dsimp only))
  | (with_reducible refine' r_floor_m rfl ?m1 ?m2 ?j1 ?j2 ?d1 ?d2 ?_; (case m1 => walk_at "m.bnd"); (case m2 => walk_at "m.bnd"); (case j1 => walk_at "m.bnd"); (case j2 => walk_at "m.bnd"); (case d1 => walk_at "m.bnd"); (case d2 => walk_at "m.bnd"); k_whole; (try dsimp only))
  | (with_reducible refine' r_floor_H rfl ?x ?al ?au ?_; (case x => walk_at "m.hx"); (case al => walk_at "m.bnd"); (case au => walk_at "m.bnd"); k_whole; (try dsimp only)))
local macro_rules | `(tactic| walk_at "call builtin:math.trunc") => `(tactic| (with_reducible refine' r_trunc_H rfl ?x ?z ?al ?au ?_; (case x => walk_at "m.hx"); (case z => walk_at "m.bnd"); (case al => walk_at "m.bnd"); (case au => walk_at "m.bnd"); k_whole; (try dsimp only)))
local macro_rules | `(tactic| walk_at "call type:int") => `(tactic| (with_reducible refine' r_int_H rfl ?x ?z ?al ?au ?_; (case x => walk_at "m.hx"); (case z => walk_at "m.bnd"); (case al => walk_at "m.bnd"); (case au => walk_at "m.bnd"); k_whole; (try dsimp only)))
local macro_rules | `(tactic| walk_at "compareOp Lt float int") => `(tactic| (with_reducible refine' r_lt_fi ?x ?al ?au ?_; (case x => walk_at "m.hx"); (case al => walk_at "m.bnd"); (case au => walk_at "m.bnd"); k_whole; (try dsimp only)))
local macro_rules | `(tactic| walk_at "compareOp Eq float int") => `(tactic| (with_reducible refine' r_eq_fi ?x ?al ?au ?_; (case x => walk_at "m.hx"); (case al => walk_at "m.bnd"); (case au => walk_at "m.bnd"); k_whole; (try dsimp only)))
local macro_rules | `(tactic| walk_at "compareOp NotEq float int") => `(tactic| (with_reducible refine' r_ne_fi ?x ?al ?au ?_; (case x => walk_at "m.hx"); (case al => walk_at "m.bnd"); (case au => walk_at "m.bnd"); k_whole; (try dsimp only)))
local macro_rules | `(tactic| walk_at "compareOp Eq float float") => `(tactic| (with_reducible refine' r_eq_ff ?x ?y ?al ?au ?bl ?bu ?_; (case x => walk_at "m.hx"); (case y => walk_at "m.hx"); (case al => walk_at "m.bnd"); (case au => walk_at "m.bnd"); (case bl => walk_at "m.bnd"); (case bu => walk_at "m.bnd"); k_whole; (try dsimp only)))
local macro_rules | `(tactic| walk_at "compareOp NotEq float float") => `(tactic| (with_reducible refine' r_ne_ff ?x ?y ?al ?au ?bl ?bu ?_; (case x => walk_at "m.hx"); (case y => walk_at "m.hx"); (case al => walk_at "m.bnd"); (case au => walk_at "m.bnd"); (case bl => walk_at "m.bnd"); (case bu => walk_at "m.bnd"); k_whole; (try dsimp only)))
local macro_rules | `(tactic| walk_at "truthy float") => `(tactic| (with_reducible refine' r_truthy ?x ?al ?au ?_; (case x => walk_at "m.hx"); (case al => walk_at "m.bnd"); (case au => walk_at "m.bnd"); k_whole; (try dsimp only)))
-- // and % by a positive divisor: / and % of Int
local macro_rules | `(tactic| walk_at "binaryOp Mod int int") => `(tactic| (with_reducible refine' r_mod_ii ?z ?_; (case z => first | decide | walk_at "m.bnd"); k_whole; (try dsimp only)))
local macro_rules | `(tactic| walk_at "binaryOp FloorDiv int int") => `(tactic| (with_reducible refine' r_fdiv_ii ?z ?y ?_; (case z => first | decide | walk_at "m.bnd"); (case y => first | decide | walk_at "m.bnd"); k_whole; (try dsimp only)))

local macro_rules | `(tactic| walk_at "m.ints") => `(tactic| first | exact IntsAre.nil | (apply IntsAre.cons; walk_at "m.ints"))
local macro_rules | `(tactic| walk_at "m.any") => `(tactic| (all_goals (intro hP9; (simp only [anyP, or_false] at hP9); (try dsimp only))))
local macro_rules | `(tactic| walk_at "compareOp In int ref") => `(tactic| (k_dflt first
  | (refine' r_in_T ?N ?m ?i ?_ ?_; (case N => k_asm); (case m => k_mem); (case i => walk_at "m.ints"))
  | (refine' r_in_L ?N ?m ?i ?_ ?_; (case N => k_asm); (case m => k_mem); (case i => walk_at "m.ints"))
  | (refine' r_in_K ?F ?X ?l ?i ?_ ?_; (case F => k_asm); (case X => k_asm); (case l => k_is); (case i => walk_at "m.ints"))); walk_at "m.any")
-- no joining of a call's ways: our claims do
local macro_rules | `(tactic| walk_at "eval Call") => `(tactic| (k_dflt (refine Call_ ?_)))
-- a name: the module's (but for «leap», a local of from_jd too), else a local's value
local macro_rules | `(tactic| walk_at "m.glob") => `(tactic| (
  (fail_if_success (with_reducible show wpAny _ _ (eval (Expr.Name (Str.ofString "leap") _) _) _ _ _));
  refine' q_glob ?F ?X ?T ?e ?_ ?a ?b ?d; (case F => k_asm); (case X => k_asm); (case T => k_asm); (case e => k_is); (case a => kernel_rfl); (case b => kernel_rfl); (case d => kernel_rfl); k_whole))
local macro_rules | `(tactic| walk_at "m.boot") => `(tactic| (
  refine' q_boot ?F ?X ?T ?e ?v ?n ?_ ?a ?b ?d; (case F => k_asm); (case X => k_asm); (case T => k_asm); (case e => k_is); (case v => k_dflt boot_fast); (case n => decide); (case a => kernel_rfl); (case b => kernel_rfl); (case d => kernel_rfl); k_whole))
local macro_rules | `(tactic| walk_at "m.loc") => `(tactic| (
  refine' q_loc ?F ?v ?_ ?a ?b ?d; (case F => k_dflt k_asm); (case v => k_dflt rfl); (case a => kernel_rfl); (case b => kernel_rfl); (case d => kernel_rfl); k_whole))
local macro_rules | `(tactic| walk_at "eval Name") => `(tactic| (k_here; first
  | (with_reducible walk_at "m.glob")
  | (with_reducible walk_at "m.loc")
  | (with_reducible walk_at "m.boot")))

abbrev LeapG (y : Int) : Prop := y % 4 = 0 ∧ (y % 100 ≠ 0 ∨ y % 400 = 0)
/-- twice the Julian day of a Gregorian date's midnight, as the project reckons it -/
def gjd (y m d : Int) : Int :=
  3442849 + 2 * (365 * (y - 1) + (y - 1) / 4 - (y - 1) / 100 + (y - 1) / 400 + (367 * m - 362) / 12 + (if m ≤ 2 then 0 else if LeapG y then -1 else -2) + d)
/-- a day that its month has -/
def DayOk (y m d : Int) : Prop := 1 ≤ d ∧ d ≤ 31 ∧ (m = 2 → d ≤ 29) ∧ (m = 2 → ¬ (y % 4 = 0 ∧ (y % 100 ≠ 0 ∨ y % 400 = 0)) → d ≤ 28) ∧ (m = 4 ∨ m = 6 ∨ m = 9 ∨ m = 11 → d ≤ 30)

theorem isleap_ok (w : World) (news : List (Addr × Obj)) (y : Int) (t : Tok) :
    Cl w 57 news [.int y t] 1 8 (RetB news (y % 4 = 0 ∧ (y % 100 ≠ 0 ∨ y % 400 = 0))) := by
  unfold Cl RetB
  k_fill
  intro p loose mean mg mb dp un gd cn cs a ccd cl outer A₀ base h₀ L m s Q E B F X N T hk hd' hu hret
  refine wpAny_call ?_
  k_dflt cell_enter
  k_steps
  all_goals refine endB (E := E) hret (by k_asm) (by walk_at "m.news") ?_
  all_goals ((try walk_at "m.bools"); first | omega | (simp_all; done) | (simp_all; omega))

local macro_rules | `(tactic| walk_at "m.useB") => `(tactic| (intro h9 tk9 F9 N9; refine ⟨fun hP9 => ?_, fun hP9 => ?_⟩ <;> (try dsimp only) <;> (try k_fold)))
local macro_rules | `(tactic| walk_at "m.useV") => `(tactic| (intro t9 h9 tk9 v9 hv9 F9 N9; (try dsimp only); (try k_fold)))
local macro_rules | `(tactic| walk_at "call ref") => `(tactic| (k_here; (with_reducible show wpAny _ _ (call (Value.ref 57) [Value.int _ _]) _ _ _); k_dflt (refine' use_cl (isleap_ok _ _ _ _) ?k1 ?k2 ?k3 ?k4 ?k5 ?kK ?kd ?ku ?_; walk_at "m.prem"; walk_at "m.useB")))


theorem legal_ok (w : World) (news : List (Addr × Obj)) (y mo d : Int) (t t2 t3 : Tok) (hd1 : DayOk y mo d) :
    Cl w 64 news [.int y t, .int mo t2, .int d t3] 2 16 (Ret news fun _ => .bool true) := by
  unfold Cl Ret
  unfold DayOk at hd1
  k_fill
  intro p loose mean mg mb dp un gd cn cs a ccd cl outer A₀ base h₀ L m s Q E B F X N T hk hd' hu hret
  refine wpAny_call ?_
  k_dflt cell_enter
  k_steps
  all_goals exact hret 0 _ _ (by k_asm) (by walk_at "m.news")

end Mine
end

section
open PySem PySem.W PyProof.Rows
set_option maxRecDepth 100000
set_option maxHeartbeats 8000000
set_option linter.unusedVariables false
set_option pp.maxSteps 3000
namespace Mine
theorem top_off_G3 : True := by
  w_top off
  trivial
open PySem PySem.Calls PyProof.Rows
-- small words of ours, as lines of walk_at
local macro_rules | `(tactic| walk_at "m.bools") => `(tactic| (simp only [decide_eq_true_eq, decide_eq_false_iff_not, Bool.not_eq_true, Bool.not_eq_false, Bool.and_eq_true, Bool.or_eq_true, Bool.not_eq_true', Bool.not_eq_false', beq_iff_eq, bne_iff_ne, beq_eq_false_iff_ne, bne_eq_false_iff_eq, Bool.and_eq_false_iff, Bool.or_eq_false_iff, ne_eq, Decidable.not_not] at *))
local macro_rules | `(tactic| walk_at "m.bnd") => `(tactic| first | omega | decide | ((try walk_at "m.bools"); omega) | (exfalso; (try walk_at "m.bools"); simp_all; omega))
local macro_rules | `(tactic| walk_at "m.hx") => `(tactic| first | with_reducible exact rfl | exact litH | exact litG | exact litHalf)
local macro_rules | `(tactic| walk_at "m.news") => `(tactic| first | k_asm | (refine' cb_drop ?cbN ?cbS; (case cbN => assumption); (case cbS => (intro qN hN; repeat (first | exact hN | refine List.mem_cons_of_mem _ ?_)))))
-- use a claim at a call
local macro_rules | `(tactic| walk_at "m.prem") => `(tactic| (
  (case k1 => k_asm); (case k2 => k_asm); (case k3 => k_asm); (case k4 => k_asm); (case k5 => k_asm);
  (case kK => first | exact rfl | assumption); (case kd => ktr_room); (case ku => ktr_units)))

-- floats
local macro_rules | `(tactic| walk_at "binaryOp Add float int") => `(tactic| first
  | (with_reducible refine' r_add_fi ?x ?al ?au ?nl ?nu ?_; (case x => walk_at "m.hx"); (case al => walk_at "m.bnd"); (case au => walk_at "m.bnd"); (case nl => walk_at "m.bnd"); (case nu => walk_at "m.bnd"); k_whole; (try dsimp only))
  | (with_reducible refine' add_fi_fits ?n ?_; (case n => exact fitsH (by walk_at "m.bnd")); k_whole; (try dsimp only)))
local macro_rules | `(tactic| walk_at "inplaceOp Add float int") => `(tactic| (with_reducible refine' r_iadd_fi rfl ?x ?al ?au ?nl ?nu ?_; (case x => walk_at "m.hx"); (case al => walk_at "m.bnd"); (case au => walk_at "m.bnd"); (case nl => walk_at "m.bnd"); (case nu => walk_at "m.bnd"); k_whole; (try dsimp only)))
local macro_rules | `(tactic| walk_at "binaryOp Add int float") => `(tactic| (with_reducible refine' r_add_if ?x ?al ?au ?nl ?nu ?_; (case x => walk_at "m.hx"); (case al => walk_at "m.bnd"); (case au => walk_at "m.bnd"); (case nl => walk_at "m.bnd"); (case nu => walk_at "m.bnd"); k_whole; (try dsimp only)))
local macro_rules | `(tactic| walk_at "binaryOp Sub float int") => `(tactic| (with_reducible refine' r_sub_fi ?x ?al ?au ?nl ?nu ?_; (case x => walk_at "m.hx"); (case al => walk_at "m.bnd"); (case au => walk_at "m.bnd"); (case nl => walk_at "m.bnd"); (case nu => walk_at "m.bnd"); k_whole; (try dsimp only)))
local macro_rules | `(tactic| walk_at "binaryOp Sub int float") => `(tactic| (with_reducible refine' r_sub_if ?x ?al ?au ?nl ?nu ?_; (case x => walk_at "m.hx"); (case al => walk_at "m.bnd"); (case au => walk_at "m.bnd"); (case nl => walk_at "m.bnd"); (case nu => walk_at "m.bnd"); k_whole; (try dsimp only)))
local macro_rules | `(tactic| walk_at "binaryOp Mult float int") => `(tactic| (with_reducible refine' r_mul_fi ?x ?al ?au ?z ?nl ?nu ?_; (case x => walk_at "m.hx"); (case al => walk_at "m.bnd"); (case au => walk_at "m.bnd"); (case z => walk_at "m.bnd"); (case nl => walk_at "m.bnd"); (case nu => walk_at "m.bnd"); k_whole; (try dsimp only)))
local macro_rules | `(tactic| walk_at "binaryOp Add float float") => `(tactic| (with_reducible refine' r_add_ff ?x ?y ?al ?au ?bl ?bu ?_; (case x => walk_at "m.hx"); (case y => walk_at "m.hx"); (case al => walk_at "m.bnd"); (case au => walk_at "m.bnd"); (case bl => walk_at "m.bnd"); (case bu => walk_at "m.bnd"); k_whole; (try dsimp only)))
local macro_rules | `(tactic| walk_at "binaryOp Sub float float") => `(tactic| (with_reducible refine' r_sub_ff ?x ?y ?al ?au ?bl ?bu ?_; (case x => walk_at "m.hx"); (case y => walk_at "m.hx"); (case al => walk_at "m.bnd"); (case au => walk_at "m.bnd"); (case bl => walk_at "m.bnd"); (case bu => walk_at "m.bnd"); k_whole; (try dsimp only)))
local macro_rules | `(tactic| walk_at "binaryOp Div float int") => `(tactic| (with_reducible refine' r_div_fi rfl ?x ?z ?nl ?nu ?_; (case x => walk_at "m.hx"); (case z => walk_at "m.bnd"); (case nl => walk_at "m.bnd"); (case nu => walk_at "m.bnd"); k_whole; (try dsimp only)))
local macro_rules | `(tactic| walk_at "binaryOp Div int int") => `(tactic| (with_reducible refine' r_div_ii rfl ?z ?nl ?nu ?_; (case z => walk_at "m.bnd"); (case nl => walk_at "m.bnd"); (case nu => walk_at "m.bnd"); k_whole; (try dsimp only)))
local macro_rules | `(tactic| walk_at "binaryOp Mod float int") => `(tactic| (with_reducible refine' r_mod_fi rfl ?x ?al ?au ?z ?nl ?nu ?_; (case x => walk_at "m.hx"); (case al => walk_at "m.bnd"); (case au => walk_at "m.bnd"); (case z => walk_at "m.bnd"); (case nl => walk_at "m.bnd"); (case nu => walk_at "m.bnd"); k_whole; (try dsimp only)))
local macro_rules | `(tactic| walk_at "call builtin:math.floor") => `(tactic| first
  | (with_reducible refine' r_floor_div rfl ?al ?au ?z ?n ?_; (case al => walk_at "m.bnd"); (case au => walk_at "m.bnd"); (case z => walk_at "m.bnd"); (case n => walk_at "m.bnd"); k_whole; (try dsimp only))
  | (with_reducible refine' r_floor_ii rfl ?al ?au ?z ?n ?_; (case al => walk_at "m.bnd"); (case au => walk_at "m.bnd"); (case z => walk_at "m.bnd"); (case n => walk_at "m.bnd"); k_whole; (try dsimp only))
  | (with_reducible refine' r_floor_m rfl ?m1 ?m2 ?j1 ?j2 ?d1 ?d2 ?_; (case m1 => walk_at "m.bnd"); (case m2 => walk_at "m.bnd"); (case j1 => walk_at "m.bnd"); (case j2 => walk_at "m.bnd"); (case d1 => walk_at "m.bnd"); (case d2 => walk_at "m.bnd"); k_whole; (try dsimp only))
  | (with_reducible refine' r_floor_H rfl ?x ?al ?au ?_; (case x => walk_at "m.hx"); (case al => walk_at "m.bnd"); (case au => walk_at "m.bnd"); k_whole; (try dsimp only)))
local macro_rules | `(tactic| walk_at "call builtin:math.trunc") => `(tactic| (with_reducible refine' r_trunc_H rfl ?x ?z ?al ?au ?_; (case x => walk_at "m.hx"); (case z => walk_at "m.bnd"); (case al => walk_at "m.bnd"); (case au => walk_at "m.bnd"); k_whole; (try dsimp only)))
local macro_rules | `(tactic| walk_at "call type:int") => `(tactic| (with_reducible refine' r_int_H rfl ?x ?z ?al ?au ?_; (case x => walk_at "m.hx"); (case z => walk_at "m.bnd"); (case al => walk_at "m.bnd"); (case au => walk_at "m.bnd"); k_whole; (try dsimp only)))
local macro_rules | `(tactic| walk_at "compareOp Lt float int") => `(tactic| (with_reducible refine' r_lt_fi ?x ?al ?au ?_; (case x => walk_at "m.hx"); (case al => walk_at "m.bnd"); (case au => walk_at "m.bnd"); k_whole; (try dsimp only)))
local macro_rules | `(tactic| walk_at "compareOp Eq float int") => `(tactic| (with_reducible refine' r_eq_fi ?x ?al ?au ?_; (case x => walk_at "m.hx"); (case al => walk_at "m.bnd"); (case au => walk_at "m.bnd"); k_whole; (try dsimp only)))
local macro_rules | `(tactic| walk_at "compareOp NotEq float int") => `(tactic| (with_reducible refine' r_ne_fi ?x ?al ?au ?_; (case x => walk_at "m.hx"); (case al => walk_at "m.bnd"); (case au => walk_at "m.bnd"); k_whole; (try dsimp only)))
local macro_rules | `(tactic| walk_at "compareOp Eq float float") => `(tactic| (with_reducible refine' r_eq_ff ?x ?y ?al ?au ?bl ?bu ?_; (case x => walk_at "m.hx"); (case y => walk_at "m.hx"); (case al => walk_at "m.bnd"); (case au => walk_at "m.bnd"); (case bl => walk_at "m.bnd"); (case bu => walk_at "m.bnd"); k_whole; (try dsimp only)))
local macro_rules | `(tactic| walk_at "compareOp NotEq float float") => `(tactic| (with_reducible refine' r_ne_ff ?x ?y ?al ?au ?bl ?bu ?_; (case x => walk_at "m.hx"); (case y => walk_at "m.hx"); (case al => walk_at "m.bnd"); (case au => walk_at "m.bnd"); (case bl => walk_at "m.bnd"); (case bu => walk_at "m.bnd"); k_whole; (try dsimp only)))
local macro_rules | `(tactic| walk_at "truthy float") => `(tactic| (with_reducible refine' r_truthy ?x ?al ?au ?_; (case x => walk_at "m.hx"); (case al => walk_at "m.bnd"); (case au => walk_at "m.bnd"); k_whole; (try dsimp only)))
-- // and % by a positive divisor: / and % of Int
local macro_rules | `(tactic| walk_at "binaryOp Mod int int") => `(tactic| (with_reducible refine' r_mod_ii ?z ?_; (case z => first | decide | walk_at "m.bnd"); k_whole; (try dsimp only)))
local macro_rules | `(tactic| walk_at "binaryOp FloorDiv int int") => `(tactic| (with_reducible refine' r_fdiv_ii ?z ?y ?_; (case z => first | decide | walk_at "m.bnd"); (case y => first | decide | walk_at "m.bnd"); k_whole; (try dsimp only)))

local macro_rules | `(tactic| walk_at "m.ints") => `(tactic| first | exact IntsAre.nil | (apply IntsAre.cons; walk_at "m.ints"))
local macro_rules | `(tactic| walk_at "m.any") => `(tactic| (all_goals (intro hP9; (simp only [anyP, or_false] at hP9); (try dsimp only))))
local macro_rules | `(tactic| walk_at "compareOp In int ref") => `(tactic| (k_dflt first
  | (refine' r_in_T ?N ?m ?i ?_ ?_; (case N => k_asm); (case m => k_mem); (case i => walk_at "m.ints"))
  | (refine' r_in_L ?N ?m ?i ?_ ?_; (case N => k_asm); (case m => k_mem); (case i => walk_at "m.ints"))
  | (refine' r_in_K ?F ?X ?l ?i ?_ ?_; (case F => k_asm); (case X => k_asm); (case l => k_is); (case i => walk_at "m.ints"))); walk_at "m.any")
-- no joining of a call's ways: our claims do
local macro_rules | `(tactic| walk_at "eval Call") => `(tactic| (k_dflt (refine Call_ ?_)))
-- a name: the module's (but for «leap», a local of from_jd too), else a local's value
local macro_rules | `(tactic| walk_at "m.glob") => `(tactic| (
  (fail_if_success (with_reducible show wpAny _ _ (eval (Expr.Name (Str.ofString "leap") _) _) _ _ _));
  refine' q_glob ?F ?X ?T ?e ?_ ?a ?b ?d; (case F => k_asm); (case X => k_asm); (case T => k_asm); (case e => k_is); (case a => kernel_rfl); (case b => kernel_rfl); (case d => kernel_rfl); k_whole))
local macro_rules | `(tactic| walk_at "m.boot") => `(tactic| (
  refine' q_boot ?F ?X ?T ?e ?v ?n ?_ ?a ?b ?d; (case F => k_asm); (case X => k_asm); (case T => k_asm); (case e => k_is); (case v => k_dflt boot_fast); (case n => decide); (case a => kernel_rfl); (case b => kernel_rfl); (case d => kernel_rfl); k_whole))
local macro_rules | `(tactic| walk_at "m.loc") => `(tactic| (
  refine' q_loc ?F ?v ?_ ?a ?b ?d; (case F => k_dflt k_asm); (case v => k_dflt rfl); (case a => kernel_rfl); (case b => kernel_rfl); (case d => kernel_rfl); k_whole))
local macro_rules | `(tactic| walk_at "eval Name") => `(tactic| (k_here; first
  | (with_reducible walk_at "m.glob")
  | (with_reducible walk_at "m.loc")
  | (with_reducible walk_at "m.boot")))

local macro_rules | `(tactic| walk_at "m.useB") => `(tactic| (intro h9 tk9 F9 N9; refine ⟨fun hP9 => ?_, fun hP9 => ?_⟩ <;> (try dsimp only) <;> (try k_fold)))
local macro_rules | `(tactic| walk_at "m.useV") => `(tactic| (intro t9 h9 tk9 v9 hv9 F9 N9; (try dsimp only); (try k_fold)))
local macro_rules | `(tactic| walk_at "call ref") => `(tactic| (k_here; (with_reducible show wpAny _ _ (call (Value.ref 57) [Value.int _ _]) _ _ _); k_dflt (refine' use_cl (isleap_ok _ _ _ _) ?k1 ?k2 ?k3 ?k4 ?k5 ?kK ?kd ?ku ?_; walk_at "m.prem"; walk_at "m.useB")))


local macro_rules | `(tactic| walk_at "call ref") => `(tactic| (k_here; (with_reducible show wpAny _ _ (call (Value.ref 64) [Value.int _ _, Value.int _ _, Value.int _ _]) _ _ _); k_dflt (refine' use_cl (legal_ok _ _ _ _ _ _ _ _ ?dom) ?k1 ?k2 ?k3 ?k4 ?k5 ?kK ?kd ?ku ?_; (case dom => first | assumption | (unfold DayOk; omega)); walk_at "m.prem"; (intro t9 h9 tk9 F9 N9; (try dsimp only); (try k_fold)))))


theorem gtojd_ok (w : World) (news : List (Addr × Obj)) (y mo d : Int) (t t2 t3 : Tok) (hy : -2000 ≤ y ∧ y ≤ 20000) (hm : 1 ≤ mo ∧ mo ≤ 12) (hd1 : DayOk y mo d) :
    Cl w 71 news [.int y t, .int mo t2, .int d t3] 3 24 (RetH news (fun v => v = gjd y mo d ∧ -100000000 < v ∧ v < 100000000)) := by
  unfold Cl RetH
  have hd2 : 1 ≤ d ∧ d ≤ 31 := ⟨by unfold DayOk at hd1; omega, by unfold DayOk at hd1; omega⟩
  k_fill
  intro p loose mean mg mb dp un gd cn cs a ccd cl outer A₀ base h₀ L m s Q E B F X N T hk hd' hu hret
  refine wpAny_call ?_
  k_dflt cell_enter
  k_steps
  all_goals refine endH (E := E) hret (by k_asm) (by walk_at "m.news") ?_
  all_goals ((try walk_at "m.bools"); unfold gjd; (repeat' split); (try simp only [LeapG] at *))
  all_goals omega

/-! the Gregorian count, in plain ints -/
theorem year_lem {a Y v : Int} (hodd : a % 2 = 1) (hv : v = gjd Y 1 1)
    (hY : (Y = (a - 3442851) / 292194 * 400 + (a - 3442851) % 292194 / 73048 * 100 + (a - 3442851) % 292194 % 73048 / 2922 * 4 + (a - 3442851) % 292194 % 73048 % 2922 / 730 + 1 ∧
        (a - 3442851) % 292194 / 73048 ≠ 4 ∧ (a - 3442851) % 292194 % 73048 % 2922 / 730 ≠ 4) ∨
      (Y = (a - 3442851) / 292194 * 400 + (a - 3442851) % 292194 / 73048 * 100 + (a - 3442851) % 292194 % 73048 / 2922 * 4 + (a - 3442851) % 292194 % 73048 % 2922 / 730 ∧
        ((a - 3442851) % 292194 / 73048 = 4 ∨ (a - 3442851) % 292194 % 73048 % 2922 / 730 = 4))) :
    0 ≤ a - v ∧ a - v ≤ 730 ∧ (a - v = 730 → LeapG Y) ∧ (a - v) % 2 = 0 := by
  have hg : v = 3442851 + 2 * (365 * (Y - 1) + (Y - 1) / 4 - (Y - 1) / 100 + (Y - 1) / 400) := by
    rw [hv]
    unfold gjd
    rw [if_pos (by decide)]
    omega
  clear hv
  obtain ⟨D, hD⟩ : ∃ D, a - 3442851 = 2 * D := ⟨(a - 3442851) / 2, by omega⟩
  rw [hD] at hY
  obtain ⟨q, c, f, g, e, e1, e2, e3, e4, e5, b⟩ : ∃ q c f g e : Int, 2 * D / 292194 = q ∧ 2 * D % 292194 / 73048 = c ∧ 2 * D % 292194 % 73048 / 2922 = f ∧ 2 * D % 292194 % 73048 % 2922 / 730 = g ∧
      D = 146097 * q + 36524 * c + 1461 * f + 365 * g + e ∧ 0 ≤ e ∧ e < 365 ∧ 0 ≤ g ∧ g ≤ 4 ∧ 0 ≤ f ∧ f ≤ 24 ∧ 0 ≤ c ∧ c ≤ 4 ∧ (c = 4 → f = 0 ∧ g = 0 ∧ e = 0) ∧ (g = 4 → e = 0 ∧ f ≤ 23) := by
    refine ⟨_, _, _, _, 2 * D % 292194 % 73048 % 2922 % 730 / 2, rfl, rfl, rfl, rfl, ?_, ?_, ?_, ?_, ?_, ?_, ?_, ?_, ?_, ?_, ?_⟩ <;> omega
  rw [e1, e2, e3, e4] at hY
  clear e1 e2 e3 e4
  obtain ⟨b1, b2, b3, b4, b5, b6, b7, b8, b9, b10⟩ := b
  rcases hY with ⟨hY, h1, h2⟩ | ⟨hY, h1⟩
  · have y1 : (Y - 1) / 4 = 100 * q + 25 * c + f := by omega
    have y2 : (Y - 1) / 100 = 4 * q + c := by omega
    have y3 : (Y - 1) / 400 = q := by omega
    rw [y1, y2, y3] at hg
    refine ⟨by omega, by omega, fun h => ?_, by omega⟩
    omega
  · by_cases h4 : c = 4
    · obtain ⟨rfl, rfl, rfl⟩ := b9 h4
      have y1 : (Y - 1) / 4 = 100 * q + 99 := by omega
      have y2 : (Y - 1) / 100 = 4 * q + 3 := by omega
      have y3 : (Y - 1) / 400 = q := by omega
      rw [y1, y2, y3] at hg
      refine ⟨by omega, by omega, fun h => ?_, by omega⟩
      exact ⟨by omega, .inr (by omega)⟩
    · obtain rfl : g = 4 := by omega
      obtain ⟨rfl, hf⟩ := b10 rfl
      have y1 : (Y - 1) / 4 = 100 * q + 25 * c + f := by omega
      have y2 : (Y - 1) / 100 = 4 * q + c := by omega
      have y3 : (Y - 1) / 400 = q := by omega
      rw [y1, y2, y3] at hg
      refine ⟨by omega, by omega, fun h => ?_, by omega⟩
      exact ⟨by omega, .inl (by omega)⟩

def monthChk (yd : Int) (lp : Bool) : Bool :=
  let adj : Int := if yd < 58 + (if lp then 1 else 0) then 0 else if lp then 1 else 2
  let M := (12 * (yd + adj) + 373) / 367
  let off := (367 * M - 362) / 12 + (if M ≤ 2 then 0 else if lp then -1 else -2)
  decide (1 ≤ M) && decide (M ≤ 12) && decide (0 ≤ yd - off) && decide (yd - off ≤ 30) && (M != 2 || decide (yd - off ≤ (if lp then 28 else 27))) &&
    (!(M == 4 || M == 6 || M == 9 || M == 11) || decide (yd - off ≤ 29))
theorem monthChk_all : ∀ yd : Fin 366, ∀ lp : Bool, (decide (yd.val = 365) && !lp || monthChk yd.val lp) = true := by decide +kernel

theorem month_lem {a Y v j M : Int} (hv : v = gjd Y 1 1) (h0 : 0 ≤ a - v) (h1 : a - v ≤ 730) (h2 : a - v = 730 → LeapG Y) (h3 : (a - v) % 2 = 0)
    (hj : (LeapG Y ∧ a - v < 118 ∧ j = 0) ∨ (LeapG Y ∧ 118 ≤ a - v ∧ j = 1) ∨ (¬ LeapG Y ∧ a - v < 116 ∧ j = 0) ∨ (¬ LeapG Y ∧ 116 ≤ a - v ∧ j = 2))
    (hM : M = ((a - v + 2 * j) * 12 + 2 * 373) / (2 * 367)) :
    1 ≤ M ∧ M ≤ 12 ∧ 0 ≤ a - gjd Y M 1 ∧ DayOk Y M ((a - gjd Y M 1) / 2 + 1) ∧ gjd Y M ((a - gjd Y M 1) / 2 + 1) = a := by
  obtain ⟨yd, hyd⟩ : ∃ yd, a - v = 2 * yd := ⟨(a - v) / 2, by omega⟩
  have key : ∀ lp : Bool, (lp = true ↔ LeapG Y) → 1 ≤ M ∧ M ≤ 12 ∧ 0 ≤ a - gjd Y M 1 ∧ DayOk Y M ((a - gjd Y M 1) / 2 + 1) ∧ gjd Y M ((a - gjd Y M 1) / 2 + 1) = a := by
    intro lp hlp
    have chk := monthChk_all ⟨yd.toNat, by omega⟩ lp
    have e0 : ((yd.toNat : Nat) : Int) = yd := by omega
    simp only [e0] at chk
    have c2 : monthChk yd lp = true := by
      rcases Bool.or_eq_true_iff.mp chk with c | c
      · have c' := Bool.and_eq_true_iff.mp c
        have : yd = 365 := by have := of_decide_eq_true c'.1; omega
        have hl := h2 (by omega)
        rw [hlp.mpr hl] at c'
        cases c'.2
      · exact c
    have hadj : (if yd < 58 + (if lp = true then 1 else 0) then (0 : Int) else if lp = true then 1 else 2) = j := by
      cases lp
      · have hn : ¬ LeapG Y := fun c => Bool.false_ne_true (hlp.mpr c)
        simp only [Bool.false_eq_true, if_false]
        split <;> omega
      · have hn : LeapG Y := hlp.mp rfl
        simp only [if_true]
        split <;> omega
    have hM' : (12 * (yd + j) + 373) / 367 = M := by omega
    have hoff : a - gjd Y M 1 = 2 * (yd - ((367 * M - 362) / 12 + (if M ≤ 2 then 0 else if lp = true then -1 else -2))) := by
      have ha : a = v + 2 * yd := by omega
      rw [ha, hv]
      unfold gjd
      rw [if_pos (show (1 : Int) ≤ 2 by decide)]
      by_cases hm : M ≤ 2
      · simp only [if_pos hm]
        omega
      · simp only [if_neg hm]
        cases lp
        · have hn : ¬ LeapG Y := fun c => Bool.false_ne_true (hlp.mpr c)
          simp only [if_neg hn, Bool.false_eq_true, if_false]
          omega
        · have hn : LeapG Y := hlp.mp rfl
          simp only [if_pos hn, if_true]
          omega
    unfold monthChk at c2
    simp only [hadj, hM'] at c2
    have hg : gjd Y M ((a - gjd Y M 1) / 2 + 1) = gjd Y M 1 + 2 * ((a - gjd Y M 1) / 2) := by
      generalize (a - gjd Y M 1) / 2 = z
      unfold gjd
      omega
    generalize hz : (367 * M - 362) / 12 + (if M ≤ 2 then 0 else if lp = true then -1 else -2) = off at *
    simp only [Bool.and_eq_true, Bool.or_eq_true, decide_eq_true_eq, Bool.not_eq_true', bne_iff_ne, ne_eq, Bool.or_eq_false_iff, beq_eq_false_iff_ne, beq_iff_eq] at c2
    have e5 : (a - gjd Y M 1) / 2 = yd - off := by omega
    refine ⟨by omega, by omega, by omega, ?_, ?_⟩
    · rw [e5]
      unfold DayOk
      refine ⟨by omega, by omega, ?_, ?_, ?_⟩
      · intro h
        cases lp
        · simp only [Bool.false_eq_true, if_false] at c2; omega
        · simp only [if_true] at c2; omega
      · intro h hl
        cases lp
        · simp only [Bool.false_eq_true, if_false] at c2; omega
        · exact absurd (hlp.mp rfl) hl
      · intro h
        omega
    · rw [hg]; omega
  by_cases hl : LeapG Y
  · exact key true ⟨fun _ => hl, fun _ => rfl⟩
  · exact key false ⟨fun c => absurd c Bool.false_ne_true, fun c => absurd c hl⟩
theorem year_rng {a Y : Int} (h1 : 2000000 < a) (h2 : a < 12000000)
    (hY : Y = (a - 3442851) / 292194 * 400 + (a - 3442851) % 292194 / 73048 * 100 + (a - 3442851) % 292194 % 73048 / 2922 * 4 + (a - 3442851) % 292194 % 73048 % 2922 / 730 + 1 ∨
      Y = (a - 3442851) / 292194 * 400 + (a - 3442851) % 292194 / 73048 * 100 + (a - 3442851) % 292194 % 73048 / 2922 * 4 + (a - 3442851) % 292194 % 73048 % 2922 / 730) : -2000 ≤ Y ∧ Y ≤ 20000 := by
  have q1 : -5 ≤ (a - 3442851) / 292194 ∧ (a - 3442851) / 292194 ≤ 30 := by omega
  have c1 : 0 ≤ (a - 3442851) % 292194 / 73048 ∧ (a - 3442851) % 292194 / 73048 ≤ 4 := by omega
  have f1 : 0 ≤ (a - 3442851) % 292194 % 73048 / 2922 ∧ (a - 3442851) % 292194 % 73048 / 2922 ≤ 25 := by omega
  have g1 : 0 ≤ (a - 3442851) % 292194 % 73048 % 2922 / 730 ∧ (a - 3442851) % 292194 % 73048 % 2922 / 730 ≤ 4 := by omega
  generalize (a - 3442851) / 292194 = q at *
  generalize (a - 3442851) % 292194 / 73048 = c at *
  generalize (a - 3442851) % 292194 % 73048 / 2922 = f at *
  generalize (a - 3442851) % 292194 % 73048 % 2922 / 730 = g at *
  omega

theorem year_all {a Y v : Int} (hodd : a % 2 = 1) (h1 : 2000000 < a) (h2 : a < 12000000) (hv : v = gjd Y 1 1)
    (hY : (Y = (a - 3442851) / 292194 * 400 + (a - 3442851) % 292194 / 73048 * 100 + (a - 3442851) % 292194 % 73048 / 2922 * 4 + (a - 3442851) % 292194 % 73048 % 2922 / 730 + 1 ∧
        (a - 3442851) % 292194 / 73048 ≠ 4 ∧ (a - 3442851) % 292194 % 73048 % 2922 / 730 ≠ 4) ∨
      (Y = (a - 3442851) / 292194 * 400 + (a - 3442851) % 292194 / 73048 * 100 + (a - 3442851) % 292194 % 73048 / 2922 * 4 + (a - 3442851) % 292194 % 73048 % 2922 / 730 ∧
        ((a - 3442851) % 292194 / 73048 = 4 ∨ (a - 3442851) % 292194 % 73048 % 2922 / 730 = 4))) :
    (-2000 ≤ Y ∧ Y ≤ 20000) ∧ 0 ≤ a - v ∧ a - v ≤ 730 ∧ (a - v = 730 → LeapG Y) ∧ (a - v) % 2 = 0 :=
  ⟨year_rng h1 h2 (hY.elim (fun h => .inl h.1) fun h => .inr h.1), year_lem hodd hv hY⟩

end Mine
end

section
open PySem PySem.W PyProof.Rows
set_option maxRecDepth 100000
set_option maxHeartbeats 8000000
set_option linter.unusedVariables false
set_option pp.maxSteps 3000
namespace Mine
theorem top_off_G4 : True := by
  w_top off
  trivial
open PySem PySem.Calls PyProof.Rows
-- small words of ours, as lines of walk_at
local macro_rules | `(tactic| walk_at "m.bools") => `(tactic| (simp only [decide_eq_true_eq, decide_eq_false_iff_not, Bool.not_eq_true, Bool.not_eq_false, Bool.and_eq_true, Bool.or_eq_true, Bool.not_eq_true', Bool.not_eq_false', beq_iff_eq, bne_iff_ne, beq_eq_false_iff_ne, bne_eq_false_iff_eq, Bool.and_eq_false_iff, Bool.or_eq_false_iff, ne_eq, Decidable.not_not] at *))
local macro_rules | `(tactic| walk_at "m.bnd") => `(tactic| first | omega | decide | ((try walk_at "m.bools"); omega) | (exfalso; (try walk_at "m.bools"); simp_all; omega))
local macro_rules | `(tactic| walk_at "m.hx") => `(tactic| first | with_reducible exact rfl | exact litH | exact litG | exact litHalf)
local macro_rules | `(tactic| walk_at "m.news") => `(tactic| first | k_asm | (refine' cb_drop ?cbN ?cbS; (case cbN => assumption); (case cbS => (intro qN hN; repeat (first | exact hN | refine List.mem_cons_of_mem _ ?_)))))
-- use a claim at a call
local macro_rules | `(tactic| walk_at "m.prem") => `(tactic| (
  (case k1 => k_asm); (case k2 => k_asm); (case k3 => k_asm); (case k4 => k_asm); (case k5 => k_asm);
  (case kK => first | exact rfl | assumption); (case kd => ktr_room); (case ku => ktr_units)))

-- floats
local macro_rules | `(tactic| walk_at "binaryOp Add float int") => `(tactic| first
  | (with_reducible refine' r_add_fi ?x ?al ?au ?nl ?nu ?_; (case x => walk_at "m.hx"); (case al => walk_at "m.bnd"); (case au => walk_at "m.bnd"); (case nl => walk_at "m.bnd"); (case nu => walk_at "m.bnd"); k_whole; (try dsimp only))
  | (with_reducible refine' add_fi_fits ?n ?_; (case n => exact fitsH (by walk_at "m.bnd")); k_whole; (try dsimp only)))
local macro_rules | `(tactic| walk_at "inplaceOp Add float int") => `(tactic| (with_reducible refine' r_iadd_fi rfl ?x ?al ?au ?nl ?nu ?_; (case x => walk_at "m.hx"); (case al => walk_at "m.bnd"); (case au => walk_at "m.bnd"); (case nl => walk_at "m.bnd"); (case nu => walk_at "m.bnd"); k_whole; (try dsimp only)))
local macro_rules | `(tactic| walk_at "binaryOp Add int float") => `(tactic| (with_reducible refine' r_add_if ?x ?al ?au ?nl ?nu ?_; (case x => walk_at "m.hx"); (case al => walk_at "m.bnd"); (case au => walk_at "m.bnd"); (case nl => walk_at "m.bnd"); (case nu => walk_at "m.bnd"); k_whole; (try dsimp only)))
local macro_rules | `(tactic| walk_at "binaryOp Sub float int") => `(tactic| (with_reducible refine' r_sub_fi ?x ?al ?au ?nl ?nu ?_; (case x => walk_at "m.hx"); (case al => walk_at "m.bnd"); (case au => walk_at "m.bnd"); (case nl => walk_at "m.bnd"); (case nu => walk_at "m.bnd"); k_whole; (try dsimp only)))
local macro_rules | `(tactic| walk_at "binaryOp Sub int float") => `(tactic| (with_reducible refine' r_sub_if ?x ?al ?au ?nl ?nu ?_; (case x => walk_at "m.hx"); (case al => walk_at "m.bnd"); (case au => walk_at "m.bnd"); (case nl => walk_at "m.bnd"); (case nu => walk_at "m.bnd"); k_whole; (try dsimp only)))
local macro_rules | `(tactic| walk_at "binaryOp Mult float int") => `(tactic| (with_reducible refine' r_mul_fi ?x ?al ?au ?z ?nl ?nu ?_; (case x => walk_at "m.hx"); (case al => walk_at "m.bnd"); (case au => walk_at "m.bnd"); (case z => walk_at "m.bnd"); (case nl => walk_at "m.bnd"); (case nu => walk_at "m.bnd"); k_whole; (try dsimp only)))
local macro_rules | `(tactic| walk_at "binaryOp Add float float") => `(tactic| (with_reducible refine' r_add_ff ?x ?y ?al ?au ?bl ?bu ?_; (case x => walk_at "m.hx"); (case y => walk_at "m.hx"); (case al => walk_at "m.bnd"); (case au => walk_at "m.bnd"); (case bl => walk_at "m.bnd"); (case bu => walk_at "m.bnd"); k_whole; (try dsimp only)))
local macro_rules | `(tactic| walk_at "binaryOp Sub float float") => `(tactic| (with_reducible refine' r_sub_ff ?x ?y ?al ?au ?bl ?bu ?_; (case x => walk_at "m.hx"); (case y => walk_at "m.hx"); (case al => walk_at "m.bnd"); (case au => walk_at "m.bnd"); (case bl => walk_at "m.bnd"); (case bu => walk_at "m.bnd"); k_whole; (try dsimp only)))
local macro_rules | `(tactic| walk_at "binaryOp Div float int") => `(tactic| (with_reducible refine' r_div_fi rfl ?x ?z ?nl ?nu ?_; (case x => walk_at "m.hx"); (case z => walk_at "m.bnd"); (case nl => walk_at "m.bnd"); (case nu => walk_at "m.bnd"); k_whole; (try dsimp only)))
local macro_rules | `(tactic| walk_at "binaryOp Div int int") => `(tactic| (with_reducible refine' r_div_ii rfl ?z ?nl ?nu ?_; (case z => walk_at "m.bnd"); (case nl => walk_at "m.bnd"); (case nu => walk_at "m.bnd"); k_whole; (try dsimp only)))
local macro_rules | `(tactic| walk_at "binaryOp Mod float int") => `(tactic| (with_reducible refine' r_mod_fi rfl ?x ?al ?au ?z ?nl ?nu ?_; (case x => walk_at "m.hx"); (case al => walk_at "m.bnd"); (case au => walk_at "m.bnd"); (case z => walk_at "m.bnd"); (case nl => walk_at "m.bnd"); (case nu => walk_at "m.bnd"); k_whole; (try dsimp only)))
local macro_rules | `(tactic| walk_at "call builtin:math.floor") => `(tactic| first
  | (with_reducible refine' r_floor_div rfl ?al ?au ?z ?n ?_; (case al => walk_at "m.bnd"); (case au => walk_at "m.bnd"); (case z => walk_at "m.bnd"); (case n => walk_at "m.bnd"); k_whole; (try dsimp only))
  | (with_reducible refine' r_floor_ii rfl ?al ?au ?z ?n ?_; (case al => walk_at "m.bnd"); (case au => walk_at "m.bnd"); (case z => walk_at "m.bnd"); (case n => walk_at "m.bnd"); k_whole; (try dsimp only))
  | (with_reducible refine' r_floor_m rfl ?m1 ?m2 ?j1 ?j2 ?d1 ?d2 ?_; (case m1 => walk_at "m.bnd"); (case m2 => walk_at "m.bnd"); (case j1 => walk_at "m.bnd"); (case j2 => walk_at "m.bnd"); (case d1 => walk_at "m.bnd"); (case d2 => walk_at "m.bnd"); k_whole; (try dsimp only))
  | (with_reducible refine' r_floor_H rfl ?x ?al ?au ?_; (case x => walk_at "m.hx"); (case al => walk_at "m.bnd"); (case au => walk_at "m.bnd"); k_whole; (try dsimp only)))
local macro_rules | `(tactic| walk_at "call builtin:math.trunc") => `(tactic| (with_reducible refine' r_trunc_H rfl ?x ?z ?al ?au ?_; (case x => walk_at "m.hx"); (case z => walk_at "m.bnd"); (case al => walk_at "m.bnd"); (case au => walk_at "m.bnd"); k_whole; (try dsimp only)))
local macro_rules | `(tactic| walk_at "call type:int") => `(tactic| (with_reducible refine' r_int_H rfl ?x ?z ?al ?au ?_; (case x => walk_at "m.hx"); (case z => walk_at "m.bnd"); (case al => walk_at "m.bnd"); (case au => walk_at "m.bnd"); k_whole; (try dsimp only)))
local macro_rules | `(tactic| walk_at "compareOp Lt float int") => `(tactic| (with_reducible refine' r_lt_fi ?x ?al ?au ?_; (case x => walk_at "m.hx"); (case al => walk_at "m.bnd"); (case au => walk_at "m.bnd"); k_whole; (try dsimp only)))
local macro_rules | `(tactic| walk_at "compareOp Eq float int") => `(tactic| (with_reducible refine' r_eq_fi ?x ?al ?au ?_; (case x => walk_at "m.hx"); (case al => walk_at "m.bnd"); (case au => walk_at "m.bnd"); k_whole; (try dsimp only)))
local macro_rules | `(tactic| walk_at "compareOp NotEq float int") => `(tactic| (with_reducible refine' r_ne_fi ?x ?al ?au ?_; (case x => walk_at "m.hx"); (case al => walk_at "m.bnd"); (case au => walk_at "m.bnd"); k_whole; (try dsimp only)))
local macro_rules | `(tactic| walk_at "compareOp Eq float float") => `(tactic| (with_reducible refine' r_eq_ff ?x ?y ?al ?au ?bl ?bu ?_; (case x => walk_at "m.hx"); (case y => walk_at "m.hx"); (case al => walk_at "m.bnd"); (case au => walk_at "m.bnd"); (case bl => walk_at "m.bnd"); (case bu => walk_at "m.bnd"); k_whole; (try dsimp only)))
local macro_rules | `(tactic| walk_at "compareOp NotEq float float") => `(tactic| (with_reducible refine' r_ne_ff ?x ?y ?al ?au ?bl ?bu ?_; (case x => walk_at "m.hx"); (case y => walk_at "m.hx"); (case al => walk_at "m.bnd"); (case au => walk_at "m.bnd"); (case bl => walk_at "m.bnd"); (case bu => walk_at "m.bnd"); k_whole; (try dsimp only)))
local macro_rules | `(tactic| walk_at "truthy float") => `(tactic| (with_reducible refine' r_truthy ?x ?al ?au ?_; (case x => walk_at "m.hx"); (case al => walk_at "m.bnd"); (case au => walk_at "m.bnd"); k_whole; (try dsimp only)))
-- // and % by a positive divisor: / and % of Int
local macro_rules | `(tactic| walk_at "binaryOp Mod int int") => `(tactic| (with_reducible refine' r_mod_ii ?z ?_; (case z => first | decide | walk_at "m.bnd"); k_whole; (try dsimp only)))
local macro_rules | `(tactic| walk_at "binaryOp FloorDiv int int") => `(tactic| (with_reducible refine' r_fdiv_ii ?z ?y ?_; (case z => first | decide | walk_at "m.bnd"); (case y => first | decide | walk_at "m.bnd"); k_whole; (try dsimp only)))

local macro_rules | `(tactic| walk_at "m.ints") => `(tactic| first | exact IntsAre.nil | (apply IntsAre.cons; walk_at "m.ints"))
local macro_rules | `(tactic| walk_at "m.any") => `(tactic| (all_goals (intro hP9; (simp only [anyP, or_false] at hP9); (try dsimp only))))
local macro_rules | `(tactic| walk_at "compareOp In int ref") => `(tactic| (k_dflt first
  | (refine' r_in_T ?N ?m ?i ?_ ?_; (case N => k_asm); (case m => k_mem); (case i => walk_at "m.ints"))
  | (refine' r_in_L ?N ?m ?i ?_ ?_; (case N => k_asm); (case m => k_mem); (case i => walk_at "m.ints"))
  | (refine' r_in_K ?F ?X ?l ?i ?_ ?_; (case F => k_asm); (case X => k_asm); (case l => k_is); (case i => walk_at "m.ints"))); walk_at "m.any")
-- no joining of a call's ways: our claims do
local macro_rules | `(tactic| walk_at "eval Call") => `(tactic| (k_dflt (refine Call_ ?_)))
-- a name: the module's (but for «leap», a local of from_jd too), else a local's value
local macro_rules | `(tactic| walk_at "m.glob") => `(tactic| (
  (fail_if_success (with_reducible show wpAny _ _ (eval (Expr.Name (Str.ofString "leap") _) _) _ _ _));
  refine' q_glob ?F ?X ?T ?e ?_ ?a ?b ?d; (case F => k_asm); (case X => k_asm); (case T => k_asm); (case e => k_is); (case a => kernel_rfl); (case b => kernel_rfl); (case d => kernel_rfl); k_whole))
local macro_rules | `(tactic| walk_at "m.boot") => `(tactic| (
  refine' q_boot ?F ?X ?T ?e ?v ?n ?_ ?a ?b ?d; (case F => k_asm); (case X => k_asm); (case T => k_asm); (case e => k_is); (case v => k_dflt boot_fast); (case n => decide); (case a => kernel_rfl); (case b => kernel_rfl); (case d => kernel_rfl); k_whole))
local macro_rules | `(tactic| walk_at "m.loc") => `(tactic| (
  refine' q_loc ?F ?v ?_ ?a ?b ?d; (case F => k_dflt k_asm); (case v => k_dflt rfl); (case a => kernel_rfl); (case b => kernel_rfl); (case d => kernel_rfl); k_whole))
local macro_rules | `(tactic| walk_at "eval Name") => `(tactic| (k_here; first
  | (with_reducible walk_at "m.glob")
  | (with_reducible walk_at "m.loc")
  | (with_reducible walk_at "m.boot")))

local macro_rules | `(tactic| walk_at "m.useB") => `(tactic| (intro h9 tk9 F9 N9; refine ⟨fun hP9 => ?_, fun hP9 => ?_⟩ <;> (try dsimp only) <;> (try k_fold)))
local macro_rules | `(tactic| walk_at "m.useV") => `(tactic| (intro t9 h9 tk9 v9 hv9 F9 N9; (try dsimp only); (try k_fold)))
local macro_rules | `(tactic| walk_at "call ref") => `(tactic| (k_here; (with_reducible show wpAny _ _ (call (Value.ref 57) [Value.int _ _]) _ _ _); k_dflt (refine' use_cl (isleap_ok _ _ _ _) ?k1 ?k2 ?k3 ?k4 ?k5 ?kK ?kd ?ku ?_; walk_at "m.prem"; walk_at "m.useB")))


local macro_rules | `(tactic| walk_at "call ref") => `(tactic| (k_here; (with_reducible show wpAny _ _ (call (Value.ref 64) [Value.int _ _, Value.int _ _, Value.int _ _]) _ _ _); k_dflt (refine' use_cl (legal_ok _ _ _ _ _ _ _ _ ?dom) ?k1 ?k2 ?k3 ?k4 ?k5 ?kK ?kd ?ku ?_; (case dom => first | assumption | (unfold DayOk; omega)); walk_at "m.prem"; (intro t9 h9 tk9 F9 N9; (try dsimp only); (try k_fold)))))


/-- the date that from_jd gives: a day that its month has, and it bears the number a -/
def GDate (a y m d : Int) : Prop := (1 ≤ m ∧ m ≤ 12) ∧ (-2000 ≤ y ∧ y ≤ 20000) ∧ DayOk y m d ∧ gjd y m d = a
abbrev tupObj (y m d : Int) (t1 t2 t3 : Tok) : Obj := { cls := .type "tuple", data := .seq #[.int y t1, .int m t2, .int d t3] }
abbrev RetD (news : List (Addr × Obj)) (P : Int → Int → Int → Prop) (h₀ : Heap) (L : Addr) (m : Str → Option Value) (s : Shared) (Q E : Value → Shared → Prop) : Prop :=
  ∀ (h' : Heap) (tk' : Nat) (x : Addr) (y mo d : Int) (t1 t2 t3 : Tok), P y mo d → Fr h₀ L h' m → News h₀ L h' ((x, tupObj y mo d t1 t2 t3) :: news) → Q (.ref x) { s with heap := h', toks := tk' }
theorem endD {news : List (Addr × Obj)} {h₀ h' : Heap} {L : Addr} {m : Str → Option Value} {s : Shared} {Q E : Value → Shared → Prop} {t1 t2 t3 : Tok} {tk' : Nat} {x : Addr} {y mo d : Int} {P : Int → Int → Int → Prop}
    (hret : RetD news P h₀ L m s Q E) (F : Fr h₀ L h' m) (N : News h₀ L h' ((x, tupObj y mo d t1 t2 t3) :: news)) (hP : P y mo d) : Q (.ref x) { s with heap := h', toks := tk' } := hret h' tk' x y mo d t1 t2 t3 hP F N

theorem fromjd_ok (w : World) (news : List (Addr × Obj)) (x : UInt64) (n : Int) (t : Tok) (hx : x = H n) (ho : n % 2 = 1) (ha : 2000000 < n) (ha2 : n < 12000000) :
    Cl w 78 news [.float x t] 4 32 (RetD news (GDate n)) := by
  unfold Cl RetD
  subst hx
  k_fill
  intro p loose mean mg mb dp un gd cn cs a ccd cl outer A₀ base h₀ L m s Q E B F X N T hk hd' hu hret
  refine wpAny_call ?_
  k_dflt cell_enter
  k_steps
  -- the year is told: its first day
  all_goals (
    k_dflt (refine' use_cl (gtojd_ok _ _ _ _ _ _ _ _ ?dom1 ?dom2 ?dom3) ?k1 ?k2 ?k3 ?k4 ?k5 ?kK ?kd ?ku ?_)
    (case dom1 => exact year_rng (a := 2 * ((n - 1) / 2) + 1) (by omega) (by omega) (by first | exact .inl rfl | exact .inr rfl))
    (case dom2 => decide)
    (case dom3 => unfold DayOk; omega)
    walk_at "m.prem"
    intro t9 h9 tk9 v9 hv9 F9 N9
    (try dsimp only)
    (try k_fold)
    obtain ⟨hyr, hyl⟩ := year_all (a := 2 * ((n - 1) / 2) + 1) (by omega) (by omega) (by omega) hv9.1 (by first | (refine .inl ⟨rfl, ?_, ?_⟩ <;> assumption) | (refine .inr ⟨rfl, ?_⟩; first | (refine .inl ?_; assumption) | (refine .inr ?_; assumption)))
    have hA0 : 2 * ((n - 1) / 2) + 1 = n := by omega
    first
      | (rename (_ / (2 * 36524) ≠ 4) => hc4; rename (_ / (2 * 365) ≠ 4) => hc5; clear hc4 hc5; generalize (2 * ((n - 1) / 2) + 1 - 3442851) / (2 * 146097) * 400 + (2 * ((n - 1) / 2) + 1 - 3442851) % (2 * 146097) / (2 * 36524) * 100 + (2 * ((n - 1) / 2) + 1 - 3442851) % (2 * 146097) % (2 * 36524) / (2 * 1461) * 4 + (2 * ((n - 1) / 2) + 1 - 3442851) % (2 * 146097) % (2 * 36524) % (2 * 1461) / (2 * 365) + 1 = Y at *)
      | (rename (_ / (2 * 36524) ≠ 4) => hc4; rename (_ / (2 * 365) = 4) => hc5; clear hc4 hc5; generalize (2 * ((n - 1) / 2) + 1 - 3442851) / (2 * 146097) * 400 + (2 * ((n - 1) / 2) + 1 - 3442851) % (2 * 146097) / (2 * 36524) * 100 + (2 * ((n - 1) / 2) + 1 - 3442851) % (2 * 146097) % (2 * 36524) / (2 * 1461) * 4 + (2 * ((n - 1) / 2) + 1 - 3442851) % (2 * 146097) % (2 * 36524) % (2 * 1461) / (2 * 365) = Y at *)
      | (rename (_ / (2 * 36524) = 4) => hc4; clear hc4; generalize (2 * ((n - 1) / 2) + 1 - 3442851) / (2 * 146097) * 400 + (2 * ((n - 1) / 2) + 1 - 3442851) % (2 * 146097) / (2 * 36524) * 100 + (2 * ((n - 1) / 2) + 1 - 3442851) % (2 * 146097) % (2 * 36524) / (2 * 1461) * 4 + (2 * ((n - 1) / 2) + 1 - 3442851) % (2 * 146097) % (2 * 36524) % (2 * 1461) / (2 * 365) = Y at *)
    generalize 2 * ((n - 1) / 2) + 1 = A at *
    subst hA0)
  k_steps
  -- the month is told: its first day
  all_goals (
    first
      | (rename (A - v9 < _) => hc9; (try simp only [↓reduceIte, Bool.false_eq_true] at hc9))
      | (rename (¬ A - v9 < _) => hc9; (try simp only [↓reduceIte, Bool.false_eq_true] at hc9))
    have hmo := month_lem (a := A) hv9.1 hyl.1 hyl.2.1 hyl.2.2.1 hyl.2.2.2 (j := _) (M := _) (by first
      | (refine .inl ⟨?_, ?_, rfl⟩; (first | assumption | (unfold LeapG; assumption)); ((try walk_at "m.bools"); omega))
      | (refine .inr (.inl ⟨?_, ?_, rfl⟩); (first | assumption | (unfold LeapG; assumption)); ((try walk_at "m.bools"); omega))
      | (refine .inr (.inr (.inl ⟨?_, ?_, rfl⟩)); (first | assumption | (unfold LeapG; assumption)); ((try walk_at "m.bools"); omega))
      | (refine .inr (.inr (.inr ⟨?_, ?_, rfl⟩)); (first | assumption | (unfold LeapG; assumption)); ((try walk_at "m.bools"); omega))) rfl
    k_dflt (refine' use_cl (gtojd_ok _ _ _ _ _ _ _ _ ?dom1 ?dom2 ?dom3) ?k1 ?k2 ?k3 ?k4 ?k5 ?kK ?kd ?ku ?_)
    (case dom1 => exact hyr)
    (case dom2 => exact ⟨hmo.1, hmo.2.1⟩)
    (case dom3 => unfold DayOk; omega)
    walk_at "m.prem"
    intro t8 h8 tk8 v8 hv8 F8 N8
    (try dsimp only)
    (try k_fold)
    have hmo3 := hmo.2.2.1
    have hmo4 := hmo.2.2.2
    rw [← hv8.1] at hmo3 hmo4
    replace hmo4 : GDate A Y _ _ := ⟨⟨hmo.1, hmo.2.1⟩, hyr, hmo4⟩
    clear hmo hv9)
  k_steps
  all_goals refine endD (E := E) hret (by k_asm) (by k_asm) ?_
  all_goals exact hmo4

/-! which year a day lies in -/
def InY (a gy : Int) : Prop := gjd gy 1 1 ≤ a ∧ a < gjd (gy + 1) 1 1
theorem first_eq (y : Int) : gjd y 1 1 = 3442851 + 2 * (365 * (y - 1) + (y - 1) / 4 - (y - 1) / 100 + (y - 1) / 400) := by
  unfold gjd
  rw [if_pos (by decide)]
  omega
theorem first_mono {y z : Int} (h : y < z) : gjd y 1 1 + 730 ≤ gjd z 1 1 := by
  rw [first_eq, first_eq]
  have h4 : (y - 1) / 4 ≤ (z - 1) / 4 := by omega
  have h5 : (z - 1) / 100 - (y - 1) / 100 ≤ (z - 1) / 4 - (y - 1) / 4 := by omega
  have h6 : (y - 1) / 400 ≤ (z - 1) / 400 := by omega
  omega
def dayChk (m d : Int) (lp : Bool) : Bool :=
  let off := (367 * m - 362) / 12 + (if m ≤ 2 then 0 else if lp then -1 else -2) + d
  decide (1 ≤ off) && decide (off ≤ if lp then 366 else 365)
theorem dayChk_all : ∀ m : Fin 12, ∀ d : Fin 31, ∀ lp : Bool,
    ((m.val == 1 && (29 ≤ d.val || (28 ≤ d.val && !lp))) || ((m.val == 3 || m.val == 5 || m.val == 8 || m.val == 10) && 30 ≤ d.val) || dayChk (1 + m.val) (1 + d.val) lp) = true := by decide +kernel
theorem date_in {a y m d : Int} (h : GDate a y m d) : InY a y := by
  obtain ⟨⟨m1, m2⟩, _, hd, ha⟩ := h
  unfold DayOk at hd
  obtain ⟨d1, d2, d3, d4, d5⟩ := hd
  have key : ∀ lp : Bool, (lp = true ↔ LeapG y) → InY a y := by
    intro lp hlp
    have chk := dayChk_all ⟨(m - 1).toNat, by omega⟩ ⟨(d - 1).toNat, by omega⟩ lp
    have e1 : (1 + (((m - 1).toNat : Nat) : Int)) = m := by omega
    have e2 : (1 + (((d - 1).toNat : Nat) : Int)) = d := by omega
    simp only [e1, e2] at chk
    have c : dayChk m d lp = true := by
      rcases Bool.or_eq_true_iff.mp chk with c | c
      · rcases Bool.or_eq_true_iff.mp c with c | c
        · exfalso
          simp only [Bool.and_eq_true, Bool.or_eq_true, beq_iff_eq, decide_eq_true_eq, Bool.not_eq_true'] at c
          obtain ⟨c1, c2⟩ := c
          rcases c2 with c2 | ⟨c2, c3⟩
          · have := d3 (by omega); omega
          · subst c3
            have := d4 (by omega) (fun g => Bool.false_ne_true (hlp.mpr g)); omega
        · exfalso
          simp only [Bool.and_eq_true, Bool.or_eq_true, beq_iff_eq, decide_eq_true_eq] at c
          have := d5 (by omega); omega
      · exact c
    unfold dayChk at c
    simp only [Bool.and_eq_true, decide_eq_true_eq] at c
    unfold InY
    rw [first_eq, first_eq, ← ha]
    unfold gjd
    cases lp
    · have hn : ¬ LeapG y := fun g => Bool.false_ne_true (hlp.mpr g)
      simp only [Bool.false_eq_true, if_false] at c
      simp only [if_neg hn]
      split at c <;> rename_i g <;> simp only [g, if_true, if_false] <;> omega
    · have hn : LeapG y := hlp.mp rfl
      simp only [if_true] at c
      simp only [if_pos hn]
      have hn' : y % 4 = 0 ∧ (y % 100 ≠ 0 ∨ y % 400 = 0) := hn
      split at c <;> rename_i g <;> simp only [g, if_true, if_false] <;> omega
  by_cases hl : LeapG y
  · exact key true ⟨fun _ => hl, fun _ => rfl⟩
  · exact key false ⟨fun c => absurd c Bool.false_ne_true, fun c => absurd c hl⟩
theorem inY_unique {a y z : Int} (h1 : InY a y) (h2 : InY a z) : y = z := by
  rcases Int.lt_trichotomy y z with h | h | h
  · have := first_mono (y := y + 1) (z := z)
    unfold InY at h1 h2
    by_cases e : y + 1 = z
    · rw [← e] at h2; omega
    · have := first_mono (y := y + 1) (z := z) (by omega); omega
  · exact h
  · unfold InY at h1 h2
    by_cases e : z + 1 = y
    · rw [← e] at h1; omega
    · have := first_mono (y := z + 1) (z := y) (by omega); omega
theorem year_iff {a y m d gy : Int} (h : GDate a y m d) : InY a gy ↔ y = gy :=
  ⟨fun g => inY_unique (date_in h) g, fun e => e ▸ date_in h⟩

end Mine
end

section
open PySem PySem.W PyProof.Rows
set_option maxRecDepth 100000
set_option maxHeartbeats 8000000
set_option linter.unusedVariables false
set_option pp.maxSteps 3000
namespace Mine
theorem top_off_G5 : True := by
  w_top off
  trivial
open PySem PySem.Calls PyProof.Rows
-- small words of ours, as lines of walk_at
local macro_rules | `(tactic| walk_at "m.bools") => `(tactic| (simp only [decide_eq_true_eq, decide_eq_false_iff_not, Bool.not_eq_true, Bool.not_eq_false, Bool.and_eq_true, Bool.or_eq_true, Bool.not_eq_true', Bool.not_eq_false', beq_iff_eq, bne_iff_ne, beq_eq_false_iff_ne, bne_eq_false_iff_eq, Bool.and_eq_false_iff, Bool.or_eq_false_iff, ne_eq, Decidable.not_not] at *))
local macro_rules | `(tactic| walk_at "m.bnd") => `(tactic| first | omega | decide | ((try walk_at "m.bools"); omega) | (exfalso; (try walk_at "m.bools"); simp_all; omega))
local macro_rules | `(tactic| walk_at "m.hx") => `(tactic| first | with_reducible exact rfl | exact litH | exact litG | exact litHalf)
local macro_rules | `(tactic| walk_at "m.news") => `(tactic| first | k_asm | (refine' cb_drop ?cbN ?cbS; (case cbN => assumption); (case cbS => (intro qN hN; repeat (first | exact hN | refine List.mem_cons_of_mem _ ?_)))))
-- use a claim at a call
local macro_rules | `(tactic| walk_at "m.prem") => `(tactic| (
  (case k1 => k_asm); (case k2 => k_asm); (case k3 => k_asm); (case k4 => k_asm); (case k5 => k_asm);
  (case kK => first | exact rfl | assumption); (case kd => ktr_room); (case ku => ktr_units)))

-- floats
local macro_rules | `(tactic| walk_at "binaryOp Add float int") => `(tactic| first
  | (with_reducible refine' r_add_fi ?x ?al ?au ?nl ?nu ?_; (case x => walk_at "m.hx"); (case al => walk_at "m.bnd"); (case au => walk_at "m.bnd"); (case nl => walk_at "m.bnd"); (case nu => walk_at "m.bnd"); k_whole; (try dsimp only))
  | (with_reducible refine' add_fi_fits ?n ?_; (case n => exact fitsH (by walk_at "m.bnd")); k_whole; (try dsimp only)))
local macro_rules | `(tactic| walk_at "inplaceOp Add float int") => `(tactic| (with_reducible refine' r_iadd_fi rfl ?x ?al ?au ?nl ?nu ?_; (case x => walk_at "m.hx"); (case al => walk_at "m.bnd"); (case au => walk_at "m.bnd"); (case nl => walk_at "m.bnd"); (case nu => walk_at "m.bnd"); k_whole; (try dsimp only)))
local macro_rules | `(tactic| walk_at "binaryOp Add int float") => `(tactic| (with_reducible refine' r_add_if ?x ?al ?au ?nl ?nu ?_; (case x => walk_at "m.hx"); (case al => walk_at "m.bnd"); (case au => walk_at "m.bnd"); (case nl => walk_at "m.bnd"); (case nu => walk_at "m.bnd"); k_whole; (try dsimp only)))
local macro_rules | `(tactic| walk_at "binaryOp Sub float int") => `(tactic| (with_reducible refine' r_sub_fi ?x ?al ?au ?nl ?nu ?_; (case x => walk_at "m.hx"); (case al => walk_at "m.bnd"); (case au => walk_at "m.bnd"); (case nl => walk_at "m.bnd"); (case nu => walk_at "m.bnd"); k_whole; (try dsimp only)))
local macro_rules | `(tactic| walk_at "binaryOp Sub int float") => `(tactic| (with_reducible refine' r_sub_if ?x ?al ?au ?nl ?nu ?_; (case x => walk_at "m.hx"); (case al => walk_at "m.bnd"); (case au => walk_at "m.bnd"); (case nl => walk_at "m.bnd"); (case nu => walk_at "m.bnd"); k_whole; (try dsimp only)))
local macro_rules | `(tactic| walk_at "binaryOp Mult float int") => `(tactic| (with_reducible refine' r_mul_fi ?x ?al ?au ?z ?nl ?nu ?_; (case x => walk_at "m.hx"); (case al => walk_at "m.bnd"); (case au => walk_at "m.bnd"); (case z => walk_at "m.bnd"); (case nl => walk_at "m.bnd"); (case nu => walk_at "m.bnd"); k_whole; (try dsimp only)))
local macro_rules | `(tactic| walk_at "binaryOp Add float float") => `(tactic| (with_reducible refine' r_add_ff ?x ?y ?al ?au ?bl ?bu ?_; (case x => walk_at "m.hx"); (case y => walk_at "m.hx"); (case al => walk_at "m.bnd"); (case au => walk_at "m.bnd"); (case bl => walk_at "m.bnd"); (case bu => walk_at "m.bnd"); k_whole; (try dsimp only)))
local macro_rules | `(tactic| walk_at "binaryOp Sub float float") => `(tactic| (with_reducible refine' r_sub_ff ?x ?y ?al ?au ?bl ?bu ?_; (case x => walk_at "m.hx"); (case y => walk_at "m.hx"); (case al => walk_at "m.bnd"); (case au => walk_at "m.bnd"); (case bl => walk_at "m.bnd"); (case bu => walk_at "m.bnd"); k_whole; (try dsimp only)))
local macro_rules | `(tactic| walk_at "binaryOp Div float int") => `(tactic| (with_reducible refine' r_div_fi rfl ?x ?z ?nl ?nu ?_; (case x => walk_at "m.hx"); (case z => walk_at "m.bnd"); (case nl => walk_at "m.bnd"); (case nu => walk_at "m.bnd"); k_whole; (try dsimp only)))
local macro_rules | `(tactic| walk_at "binaryOp Div int int") => `(tactic| (with_reducible refine' r_div_ii rfl ?z ?nl ?nu ?_; (case z => walk_at "m.bnd"); (case nl => walk_at "m.bnd"); (case nu => walk_at "m.bnd"); k_whole; (try dsimp only)))
local macro_rules | `(tactic| walk_at "binaryOp Mod float int") => `(tactic| (with_reducible refine' r_mod_fi rfl ?x ?al ?au ?z ?nl ?nu ?_; (case x => walk_at "m.hx"); (case al => walk_at "m.bnd"); (case au => walk_at "m.bnd"); (case z => walk_at "m.bnd"); (case nl => walk_at "m.bnd"); (case nu => walk_at "m.bnd"); k_whole; (try dsimp only)))
local macro_rules | `(tactic| walk_at "call builtin:math.floor") => `(tactic| first
  | (with_reducible refine' r_floor_div rfl ?al ?au ?z ?n ?_; (case al => walk_at "m.bnd"); (case au => walk_at "m.bnd"); (case z => walk_at "m.bnd"); (case n => walk_at "m.bnd"); k_whole; (try dsimp only))
  | (with_reducible refine' r_floor_ii rfl ?al ?au ?z ?n ?_; (case al => walk_at "m.bnd"); (case au => walk_at "m.bnd"); (case z => walk_at "m.bnd"); (case n => walk_at "m.bnd"); k_whole; (try dsimp only))
  | (with_reducible refine' r_floor_m rfl ?m1 ?m2 ?j1 ?j2 ?d1 ?d2 ?_; (case m1 => walk_at "m.bnd"); (case m2 => walk_at "m.bnd"); (case j1 => walk_at "m.bnd"); (case j2 => walk_at "m.bnd"); (case d1 => walk_at "m.bnd"); (case d2 => walk_at "m.bnd"); k_whole; (try dsimp only))
  | (with_reducible refine' r_floor_H rfl ?x ?al ?au ?_; (case x => walk_at "m.hx"); (case al => walk_at "m.bnd"); (case au => walk_at "m.bnd"); k_whole; (try dsimp only)))
local macro_rules | `(tactic| walk_at "call builtin:math.trunc") => `(tactic| (with_reducible refine' r_trunc_H rfl ?x ?z ?al ?au ?_; (case x => walk_at "m.hx"); (case z => walk_at "m.bnd"); (case al => walk_at "m.bnd"); (case au => walk_at "m.bnd"); k_whole; (try dsimp only)))
local macro_rules | `(tactic| walk_at "call type:int") => `(tactic| (with_reducible refine' r_int_H rfl ?x ?z ?al ?au ?_; (case x => walk_at "m.hx"); (case z => walk_at "m.bnd"); (case al => walk_at "m.bnd"); (case au => walk_at "m.bnd"); k_whole; (try dsimp only)))
local macro_rules | `(tactic| walk_at "compareOp Lt float int") => `(tactic| (with_reducible refine' r_lt_fi ?x ?al ?au ?_; (case x => walk_at "m.hx"); (case al => walk_at "m.bnd"); (case au => walk_at "m.bnd"); k_whole; (try dsimp only)))
local macro_rules | `(tactic| walk_at "compareOp Eq float int") => `(tactic| (with_reducible refine' r_eq_fi ?x ?al ?au ?_; (case x => walk_at "m.hx"); (case al => walk_at "m.bnd"); (case au => walk_at "m.bnd"); k_whole; (try dsimp only)))
local macro_rules | `(tactic| walk_at "compareOp NotEq float int") => `(tactic| (with_reducible refine' r_ne_fi ?x ?al ?au ?_; (case x => walk_at "m.hx"); (case al => walk_at "m.bnd"); (case au => walk_at "m.bnd"); k_whole; (try dsimp only)))
local macro_rules | `(tactic| walk_at "compareOp Eq float float") => `(tactic| (with_reducible refine' r_eq_ff ?x ?y ?al ?au ?bl ?bu ?_; (case x => walk_at "m.hx"); (case y => walk_at "m.hx"); (case al => walk_at "m.bnd"); (case au => walk_at "m.bnd"); (case bl => walk_at "m.bnd"); (case bu => walk_at "m.bnd"); k_whole; (try dsimp only)))
local macro_rules | `(tactic| walk_at "compareOp NotEq float float") => `(tactic| (with_reducible refine' r_ne_ff ?x ?y ?al ?au ?bl ?bu ?_; (case x => walk_at "m.hx"); (case y => walk_at "m.hx"); (case al => walk_at "m.bnd"); (case au => walk_at "m.bnd"); (case bl => walk_at "m.bnd"); (case bu => walk_at "m.bnd"); k_whole; (try dsimp only)))
local macro_rules | `(tactic| walk_at "truthy float") => `(tactic| (with_reducible refine' r_truthy ?x ?al ?au ?_; (case x => walk_at "m.hx"); (case al => walk_at "m.bnd"); (case au => walk_at "m.bnd"); k_whole; (try dsimp only)))
-- // and % by a positive divisor: / and % of Int
local macro_rules | `(tactic| walk_at "binaryOp Mod int int") => `(tactic| (with_reducible refine' r_mod_ii ?z ?_; (case z => first | decide | walk_at "m.bnd"); k_whole; (try dsimp only)))
local macro_rules | `(tactic| walk_at "binaryOp FloorDiv int int") => `(tactic| (with_reducible refine' r_fdiv_ii ?z ?y ?_; (case z => first | decide | walk_at "m.bnd"); (case y => first | decide | walk_at "m.bnd"); k_whole; (try dsimp only)))

local macro_rules | `(tactic| walk_at "m.ints") => `(tactic| first | exact IntsAre.nil | (apply IntsAre.cons; walk_at "m.ints"))
local macro_rules | `(tactic| walk_at "m.any") => `(tactic| (all_goals (intro hP9; (simp only [anyP, or_false] at hP9); (try dsimp only))))
local macro_rules | `(tactic| walk_at "compareOp In int ref") => `(tactic| (k_dflt first
  | (refine' r_in_T ?N ?m ?i ?_ ?_; (case N => k_asm); (case m => k_mem); (case i => walk_at "m.ints"))
  | (refine' r_in_L ?N ?m ?i ?_ ?_; (case N => k_asm); (case m => k_mem); (case i => walk_at "m.ints"))
  | (refine' r_in_K ?F ?X ?l ?i ?_ ?_; (case F => k_asm); (case X => k_asm); (case l => k_is); (case i => walk_at "m.ints"))); walk_at "m.any")
-- no joining of a call's ways: our claims do
local macro_rules | `(tactic| walk_at "eval Call") => `(tactic| (k_dflt (refine Call_ ?_)))
-- a name: the module's (but for «leap», a local of from_jd too), else a local's value
local macro_rules | `(tactic| walk_at "m.glob") => `(tactic| (
  (fail_if_success (with_reducible show wpAny _ _ (eval (Expr.Name (Str.ofString "leap") _) _) _ _ _));
  refine' q_glob ?F ?X ?T ?e ?_ ?a ?b ?d; (case F => k_asm); (case X => k_asm); (case T => k_asm); (case e => k_is); (case a => kernel_rfl); (case b => kernel_rfl); (case d => kernel_rfl); k_whole))
local macro_rules | `(tactic| walk_at "m.boot") => `(tactic| (
  refine' q_boot ?F ?X ?T ?e ?v ?n ?_ ?a ?b ?d; (case F => k_asm); (case X => k_asm); (case T => k_asm); (case e => k_is); (case v => k_dflt boot_fast); (case n => decide); (case a => kernel_rfl); (case b => kernel_rfl); (case d => kernel_rfl); k_whole))
local macro_rules | `(tactic| walk_at "m.loc") => `(tactic| (
  refine' q_loc ?F ?v ?_ ?a ?b ?d; (case F => k_dflt k_asm); (case v => k_dflt rfl); (case a => kernel_rfl); (case b => kernel_rfl); (case d => kernel_rfl); k_whole))
local macro_rules | `(tactic| walk_at "eval Name") => `(tactic| (k_here; first
  | (with_reducible walk_at "m.glob")
  | (with_reducible walk_at "m.loc")
  | (with_reducible walk_at "m.boot")))

local macro_rules | `(tactic| walk_at "m.useB") => `(tactic| (intro h9 tk9 F9 N9; refine ⟨fun hP9 => ?_, fun hP9 => ?_⟩ <;> (try dsimp only) <;> (try k_fold)))
local macro_rules | `(tactic| walk_at "m.useV") => `(tactic| (intro t9 h9 tk9 v9 hv9 F9 N9; (try dsimp only); (try k_fold)))
local macro_rules | `(tactic| walk_at "call ref") => `(tactic| (k_here; (with_reducible show wpAny _ _ (call (Value.ref 57) [Value.int _ _]) _ _ _); k_dflt (refine' use_cl (isleap_ok _ _ _ _) ?k1 ?k2 ?k3 ?k4 ?k5 ?kK ?kd ?ku ?_; walk_at "m.prem"; walk_at "m.useB")))


local macro_rules | `(tactic| walk_at "call ref") => `(tactic| (k_here; (with_reducible show wpAny _ _ (call (Value.ref 64) [Value.int _ _, Value.int _ _, Value.int _ _]) _ _ _); k_dflt (refine' use_cl (legal_ok _ _ _ _ _ _ _ _ ?dom) ?k1 ?k2 ?k3 ?k4 ?k5 ?kK ?kd ?ku ?_; (case dom => first | assumption | (unfold DayOk; omega)); walk_at "m.prem"; (intro t9 h9 tk9 F9 N9; (try dsimp only); (try k_fold)))))


local macro_rules | `(tactic| walk_at "call ref") => `(tactic| (k_here; (with_reducible show wpAny _ _ (call (Value.ref 71) [Value.int _ _, Value.int _ _, Value.int _ _]) _ _ _); k_dflt (refine' use_cl (gtojd_ok _ _ _ _ _ _ _ _ ?dom1 ?dom2 ?dom3) ?k1 ?k2 ?k3 ?k4 ?k5 ?kK ?kd ?ku ?_; (case dom1 => first | with_reducible assumption | decide | (refine ⟨?_, ?_⟩ <;> walk_at "m.bnd")); (case dom2 => first | with_reducible assumption | decide | (refine ⟨?_, ?_⟩ <;> walk_at "m.bnd")); (case dom3 => first | assumption | (unfold DayOk; omega)); walk_at "m.prem"; walk_at "m.useV")))

local macro_rules | `(tactic| walk_at "m.useD") => `(tactic| (intro h9 tk9 x9 y9 mo9 d9 t91 t92 t93 hD9 F9 N9; (have hD91 := hD9.1); (have hD92 := hD9.2.1); (have hD93 := hD9.2.2.1); (try dsimp only); (try k_fold)))
local macro_rules | `(tactic| walk_at "call ref") => `(tactic| (k_here; (with_reducible show wpAny _ _ (call (Value.ref 78) [Value.float _ _]) _ _ _); k_dflt (refine' use_cl (fromjd_ok _ _ _ _ _ ?hx ?dom1 ?dom2 ?dom3) ?k1 ?k2 ?k3 ?k4 ?k5 ?kK ?kd ?ku ?_; (case hx => walk_at "m.hx"); (case dom1 => walk_at "m.bnd"); (case dom2 => walk_at "m.bnd"); (case dom3 => walk_at "m.bnd"); walk_at "m.prem"; walk_at "m.useD")))

/-! the Hebrew year, as the project reckons it -/
abbrev LeapH (y : Int) : Prop := (y * 7 + 1) % 19 < 7
def d0 (y : Int) : Int := (235 * y - 234) / 19 * 29 + (12084 + 13753 * ((235 * y - 234) / 19)) / 25920
def d1 (y : Int) : Int := if 3 * (d0 y + 1) % 7 < 3 then d0 y + 1 else d0 y
def d2 (y : Int) : Int := if d1 (y + 1) - d1 y = 356 then 2 else if d1 y - d1 (y - 1) = 382 then 1 else 0
def ny (y : Int) : Int := d1 y + d2 y

theorem leap_ok (w : World) (news : List (Addr × Obj)) (y : Int) (t : Tok) :
    Cl w 85 news [.int y t] 1 8 (RetB news ((y * 7 + 1) % 19 < 7)) := by
  unfold Cl RetB
  k_fill
  intro p loose mean mg mb dp un gd cn cs a ccd cl outer A₀ base h₀ L m s Q E B F X N T hk hd' hu hret
  refine wpAny_call ?_
  k_dflt cell_enter
  k_steps
  all_goals refine endB (E := E) hret (by k_asm) (by walk_at "m.news") ?_
  all_goals exact decide_eq_true_iff

local macro_rules | `(tactic| walk_at "call ref") => `(tactic| (k_here; (with_reducible show wpAny _ _ (call (Value.ref 85) [Value.int _ _]) _ _ _); k_dflt (refine' use_cl (leap_ok _ _ _ _) ?k1 ?k2 ?k3 ?k4 ?k5 ?kK ?kd ?ku ?_; walk_at "m.prem"; walk_at "m.useB")))

theorem months_ok (w : World) (news : List (Addr × Obj)) (y : Int) (t : Tok) :
    Cl w 92 news [.int y t] 2 16 (RetI news (fun v => (v = 13 ∧ (y * 7 + 1) % 19 < 7) ∨ (v = 12 ∧ ¬ (y * 7 + 1) % 19 < 7))) := by
  unfold Cl RetI
  k_fill
  intro p loose mean mg mb dp un gd cn cs a ccd cl outer A₀ base h₀ L m s Q E B F X N T hk hd' hu hret
  refine wpAny_call ?_
  k_dflt cell_enter
  k_steps
  all_goals refine endI (E := E) hret (by k_asm) (by walk_at "m.news") ?_
  all_goals omega

theorem delay1_ok (w : World) (news : List (Addr × Obj)) (y : Int) (t : Tok) (hy : 3700 ≤ y ∧ y ≤ 13800) :
    Cl w 99 news [.int y t] 1 8 (RetI news (fun v => v = d1 y ∧ 1000000 < v ∧ v < 5200000)) := by
  unfold Cl RetI
  k_fill
  intro p loose mean mg mb dp un gd cn cs a ccd cl outer A₀ base h₀ L m s Q E B F X N T hk hd' hu hret
  refine wpAny_call ?_
  k_dflt cell_enter
  k_steps
  all_goals refine endI (E := E) hret (by k_asm) (by walk_at "m.news") ?_
  all_goals (unfold d1 d0; (try walk_at "m.bools"))
  all_goals (refine ⟨?_, ?_, ?_⟩; (split <;> omega); omega; omega)

local macro_rules | `(tactic| walk_at "call ref") => `(tactic| (k_here; (with_reducible show wpAny _ _ (call (Value.ref 92) [Value.int _ _]) _ _ _); k_dflt (refine' use_cl (months_ok _ _ _ _) ?k1 ?k2 ?k3 ?k4 ?k5 ?kK ?kd ?ku ?_; walk_at "m.prem"; walk_at "m.useV")))
local macro_rules | `(tactic| walk_at "call ref") => `(tactic| (k_here; (with_reducible show wpAny _ _ (call (Value.ref 99) [Value.int _ _]) _ _ _); k_dflt (refine' use_cl (delay1_ok _ _ _ _ ?dom1) ?k1 ?k2 ?k3 ?k4 ?k5 ?kK ?kd ?ku ?_; (case dom1 => first | with_reducible assumption | decide | (refine ⟨?_, ?_⟩ <;> walk_at "m.bnd")); walk_at "m.prem"; walk_at "m.useV")))

theorem delay2_ok (w : World) (news : List (Addr × Obj)) (y : Int) (t : Tok) (hy : 3701 ≤ y ∧ y ≤ 13799) :
    Cl w 106 news [.int y t] 2 16 (RetI news (fun v => v = d2 y ∧ 0 ≤ v ∧ v ≤ 2)) := by
  unfold Cl RetI
  k_fill
  intro p loose mean mg mb dp un gd cn cs a ccd cl outer A₀ base h₀ L m s Q E B F X N T hk hd' hu hret
  refine wpAny_call ?_
  k_dflt cell_enter
  k_steps
  all_goals refine endI (E := E) hret (by k_asm) (by walk_at "m.news") ?_
  all_goals ((try walk_at "m.bools"); unfold d2; refine ⟨?_, by omega, by omega⟩; (repeat' split) <;> omega)

end Mine
end

section
open PySem PySem.W PyProof.Rows
set_option maxRecDepth 100000
set_option maxHeartbeats 8000000
set_option linter.unusedVariables false
set_option pp.maxSteps 3000
namespace Mine
theorem top_off_G6 : True := by
  w_top off
  trivial
open PySem PySem.Calls PyProof.Rows
-- small words of ours, as lines of walk_at
local macro_rules | `(tactic| walk_at "m.bools") => `(tactic| (simp only [decide_eq_true_eq, decide_eq_false_iff_not, Bool.not_eq_true, Bool.not_eq_false, Bool.and_eq_true, Bool.or_eq_true, Bool.not_eq_true', Bool.not_eq_false', beq_iff_eq, bne_iff_ne, beq_eq_false_iff_ne, bne_eq_false_iff_eq, Bool.and_eq_false_iff, Bool.or_eq_false_iff, ne_eq, Decidable.not_not] at *))
local macro_rules | `(tactic| walk_at "m.bnd") => `(tactic| first | omega | decide | ((try walk_at "m.bools"); omega) | (exfalso; (try walk_at "m.bools"); simp_all; omega))
local macro_rules | `(tactic| walk_at "m.hx") => `(tactic| first | with_reducible exact rfl | exact litH | exact litG | exact litHalf)
local macro_rules | `(tactic| walk_at "m.news") => `(tactic| first | k_asm | (refine' cb_drop ?cbN ?cbS; (case cbN => assumption); (case cbS => (intro qN hN; repeat (first | exact hN | refine List.mem_cons_of_mem _ ?_)))))
-- use a claim at a call
local macro_rules | `(tactic| walk_at "m.prem") => `(tactic| (
  (case k1 => k_asm); (case k2 => k_asm); (case k3 => k_asm); (case k4 => k_asm); (case k5 => k_asm);
  (case kK => first | exact rfl | assumption); (case kd => ktr_room); (case ku => ktr_units)))

-- floats
local macro_rules | `(tactic| walk_at "binaryOp Add float int") => `(tactic| first
  | (with_reducible refine' r_add_fi ?x ?al ?au ?nl ?nu ?_; (case x => walk_at "m.hx"); (case al => walk_at "m.bnd"); (case au => walk_at "m.bnd"); (case nl => walk_at "m.bnd"); (case nu => walk_at "m.bnd"); k_whole; (try dsimp only))
  | (with_reducible refine' add_fi_fits ?n ?_; (case n => exact fitsH (by walk_at "m.bnd")); k_whole; (try dsimp only)))
local macro_rules | `(tactic| walk_at "inplaceOp Add float int") => `(tactic| (with_reducible refine' r_iadd_fi rfl ?x ?al ?au ?nl ?nu ?_; (case x => walk_at "m.hx"); (case al => walk_at "m.bnd"); (case au => walk_at "m.bnd"); (case nl => walk_at "m.bnd"); (case nu => walk_at "m.bnd"); k_whole; (try dsimp only)))
local macro_rules | `(tactic| walk_at "binaryOp Add int float") => `(tactic| (with_reducible refine' r_add_if ?x ?al ?au ?nl ?nu ?_; (case x => walk_at "m.hx"); (case al => walk_at "m.bnd"); (case au => walk_at "m.bnd"); (case nl => walk_at "m.bnd"); (case nu => walk_at "m.bnd"); k_whole; (try dsimp only)))
local macro_rules | `(tactic| walk_at "binaryOp Sub float int") => `(tactic| (with_reducible refine' r_sub_fi ?x ?al ?au ?nl ?nu ?_; (case x => walk_at "m.hx"); (case al => walk_at "m.bnd"); (case au => walk_at "m.bnd"); (case nl => walk_at "m.bnd"); (case nu => walk_at "m.bnd"); k_whole; (try dsimp only)))
local macro_rules | `(tactic| walk_at "binaryOp Sub int float") => `(tactic| (with_reducible refine' r_sub_if ?x ?al ?au ?nl ?nu ?_; (case x => walk_at "m.hx"); (case al => walk_at "m.bnd"); (case au => walk_at "m.bnd"); (case nl => walk_at "m.bnd"); (case nu => walk_at "m.bnd"); k_whole; (try dsimp only)))
local macro_rules | `(tactic| walk_at "binaryOp Mult float int") => `(tactic| (with_reducible refine' r_mul_fi ?x ?al ?au ?z ?nl ?nu ?_; (case x => walk_at "m.hx"); (case al => walk_at "m.bnd"); (case au => walk_at "m.bnd"); (case z => walk_at "m.bnd"); (case nl => walk_at "m.bnd"); (case nu => walk_at "m.bnd"); k_whole; (try dsimp only)))
local macro_rules | `(tactic| walk_at "binaryOp Add float float") => `(tactic| (with_reducible refine' r_add_ff ?x ?y ?al ?au ?bl ?bu ?_; (case x => walk_at "m.hx"); (case y => walk_at "m.hx"); (case al => walk_at "m.bnd"); (case au => walk_at "m.bnd"); (case bl => walk_at "m.bnd"); (case bu => walk_at "m.bnd"); k_whole; (try dsimp only)))
local macro_rules | `(tactic| walk_at "binaryOp Sub float float") => `(tactic| (with_reducible refine' r_sub_ff ?x ?y ?al ?au ?bl ?bu ?_; (case x => walk_at "m.hx"); (case y => walk_at "m.hx"); (case al => walk_at "m.bnd"); (case au => walk_at "m.bnd"); (case bl => walk_at "m.bnd"); (case bu => walk_at "m.bnd"); k_whole; (try dsimp only)))
local macro_rules | `(tactic| walk_at "binaryOp Div float int") => `(tactic| (with_reducible refine' r_div_fi rfl ?x ?z ?nl ?nu ?_; (case x => walk_at "m.hx"); (case z => walk_at "m.bnd"); (case nl => walk_at "m.bnd"); (case nu => walk_at "m.bnd"); k_whole; (try dsimp only)))
local macro_rules | `(tactic| walk_at "binaryOp Div int int") => `(tactic| (with_reducible refine' r_div_ii rfl ?z ?nl ?nu ?_; (case z => walk_at "m.bnd"); (case nl => walk_at "m.bnd"); (case nu => walk_at "m.bnd"); k_whole; (try dsimp only)))
local macro_rules | `(tactic| walk_at "binaryOp Mod float int") => `(tactic| (with_reducible refine' r_mod_fi rfl ?x ?al ?au ?z ?nl ?nu ?_; (case x => walk_at "m.hx"); (case al => walk_at "m.bnd"); (case au => walk_at "m.bnd"); (case z => walk_at "m.bnd"); (case nl => walk_at "m.bnd"); (case nu => walk_at "m.bnd"); k_whole; (try dsimp only)))
local macro_rules | `(tactic| walk_at "call builtin:math.floor") => `(tactic| first
  | (with_reducible refine' r_floor_div rfl ?al ?au ?z ?n ?_; (case al => walk_at "m.bnd"); (case au => walk_at "m.bnd"); (case z => walk_at "m.bnd"); (case n => walk_at "m.bnd"); k_whole; (try dsimp only))
  | (with_reducible refine' r_floor_ii rfl ?al ?au ?z ?n ?_; (case al => walk_at "m.bnd"); (case au => walk_at "m.bnd"); (case z => walk_at "m.bnd"); (case n => walk_at "m.bnd"); k_whole; (try dsimp only))
  | (with_reducible refine' r_floor_m rfl ?m1 ?m2 ?j1 ?j2 ?d1 ?d2 ?_; (case m1 => walk_at "m.bnd"); (case m2 => walk_at "m.bnd"); (case j1 => walk_at "m.bnd"); (case j2 => walk_at "m.bnd"); (case d1 => walk_at "m.bnd"); (case d2 => walk_at "m.bnd"); k_whole; (try dsimp only))
  | (with_reducible refine' r_floor_H rfl ?x ?al ?au ?_; (case x => walk_at "m.hx"); (case al => walk_at "m.bnd"); (case au => walk_at "m.bnd"); k_whole; (try dsimp only)))
local macro_rules | `(tactic| walk_at "call builtin:math.trunc") => `(tactic| (with_reducible refine' r_trunc_H rfl ?x ?z ?al ?au ?_; (case x => walk_at "m.hx"); (case z => walk_at "m.bnd"); (case al => walk_at "m.bnd"); (case au => walk_at "m.bnd"); k_whole; (try dsimp only)))
local macro_rules | `(tactic| walk_at "call type:int") => `(tactic| (with_reducible refine' r_int_H rfl ?x ?z ?al ?au ?_; (case x => walk_at "m.hx"); (case z => walk_at "m.bnd"); (case al => walk_at "m.bnd"); (case au => walk_at "m.bnd"); k_whole; (try dsimp only)))
local macro_rules | `(tactic| walk_at "compareOp Lt float int") => `(tactic| (with_reducible refine' r_lt_fi ?x ?al ?au ?_; (case x => walk_at "m.hx"); (case al => walk_at "m.bnd"); (case au => walk_at "m.bnd"); k_whole; (try dsimp only)))
local macro_rules | `(tactic| walk_at "compareOp Eq float int") => `(tactic| (with_reducible refine' r_eq_fi ?x ?al ?au ?_; (case x => walk_at "m.hx"); (case al => walk_at "m.bnd"); (case au => walk_at "m.bnd"); k_whole; (try dsimp only)))
local macro_rules | `(tactic| walk_at "compareOp NotEq float int") => `(tactic| (with_reducible refine' r_ne_fi ?x ?al ?au ?_; (case x => walk_at "m.hx"); (case al => walk_at "m.bnd"); (case au => walk_at "m.bnd"); k_whole; (try dsimp only)))
local macro_rules | `(tactic| walk_at "compareOp Eq float float") => `(tactic| (with_reducible refine' r_eq_ff ?x ?y ?al ?au ?bl ?bu ?_; (case x => walk_at "m.hx"); (case y => walk_at "m.hx"); (case al => walk_at "m.bnd"); (case au => walk_at "m.bnd"); (case bl => walk_at "m.bnd"); (case bu => walk_at "m.bnd"); k_whole; (try dsimp only)))
local macro_rules | `(tactic| walk_at "compareOp NotEq float float") => `(tactic| (with_reducible refine' r_ne_ff ?x ?y ?al ?au ?bl ?bu ?_; (case x => walk_at "m.hx"); (case y => walk_at "m.hx"); (case al => walk_at "m.bnd"); (case au => walk_at "m.bnd"); (case bl => walk_at "m.bnd"); (case bu => walk_at "m.bnd"); k_whole; (try dsimp only)))
local macro_rules | `(tactic| walk_at "truthy float") => `(tactic| (with_reducible refine' r_truthy ?x ?al ?au ?_; (case x => walk_at "m.hx"); (case al => walk_at "m.bnd"); (case au => walk_at "m.bnd"); k_whole; (try dsimp only)))
-- // and % by a positive divisor: / and % of Int
local macro_rules | `(tactic| walk_at "binaryOp Mod int int") => `(tactic| (with_reducible refine' r_mod_ii ?z ?_; (case z => first | decide | walk_at "m.bnd"); k_whole; (try dsimp only)))
local macro_rules | `(tactic| walk_at "binaryOp FloorDiv int int") => `(tactic| (with_reducible refine' r_fdiv_ii ?z ?y ?_; (case z => first | decide | walk_at "m.bnd"); (case y => first | decide | walk_at "m.bnd"); k_whole; (try dsimp only)))

local macro_rules | `(tactic| walk_at "m.ints") => `(tactic| first | exact IntsAre.nil | (apply IntsAre.cons; walk_at "m.ints"))
local macro_rules | `(tactic| walk_at "m.any") => `(tactic| (all_goals (intro hP9; (simp only [anyP, or_false] at hP9); (try dsimp only))))
local macro_rules | `(tactic| walk_at "compareOp In int ref") => `(tactic| (k_dflt first
  | (refine' r_in_T ?N ?m ?i ?_ ?_; (case N => k_asm); (case m => k_mem); (case i => walk_at "m.ints"))
  | (refine' r_in_L ?N ?m ?i ?_ ?_; (case N => k_asm); (case m => k_mem); (case i => walk_at "m.ints"))
  | (refine' r_in_K ?F ?X ?l ?i ?_ ?_; (case F => k_asm); (case X => k_asm); (case l => k_is); (case i => walk_at "m.ints"))); walk_at "m.any")
-- no joining of a call's ways: our claims do
local macro_rules | `(tactic| walk_at "eval Call") => `(tactic| (k_dflt (refine Call_ ?_)))
-- a name: the module's (but for «leap», a local of from_jd too), else a local's value
local macro_rules | `(tactic| walk_at "m.glob") => `(tactic| (
  (fail_if_success (with_reducible show wpAny _ _ (eval (Expr.Name (Str.ofString "leap") _) _) _ _ _));
  refine' q_glob ?F ?X ?T ?e ?_ ?a ?b ?d; (case F => k_asm); (case X => k_asm); (case T => k_asm); (case e => k_is); (case a => kernel_rfl); (case b => kernel_rfl); (case d => kernel_rfl); k_whole))
local macro_rules | `(tactic| walk_at "m.boot") => `(tactic| (
  refine' q_boot ?F ?X ?T ?e ?v ?n ?_ ?a ?b ?d; (case F => k_asm); (case X => k_asm); (case T => k_asm); (case e => k_is); (case v => k_dflt boot_fast); (case n => decide); (case a => kernel_rfl); (case b => kernel_rfl); (case d => kernel_rfl); k_whole))
local macro_rules | `(tactic| walk_at "m.loc") => `(tactic| (
  refine' q_loc ?F ?v ?_ ?a ?b ?d; (case F => k_dflt k_asm); (case v => k_dflt rfl); (case a => kernel_rfl); (case b => kernel_rfl); (case d => kernel_rfl); k_whole))
local macro_rules | `(tactic| walk_at "eval Name") => `(tactic| (k_here; first
  | (with_reducible walk_at "m.glob")
  | (with_reducible walk_at "m.loc")
  | (with_reducible walk_at "m.boot")))

local macro_rules | `(tactic| walk_at "m.useB") => `(tactic| (intro h9 tk9 F9 N9; refine ⟨fun hP9 => ?_, fun hP9 => ?_⟩ <;> (try dsimp only) <;> (try k_fold)))
local macro_rules | `(tactic| walk_at "m.useV") => `(tactic| (intro t9 h9 tk9 v9 hv9 F9 N9; (try dsimp only); (try k_fold)))
local macro_rules | `(tactic| walk_at "call ref") => `(tactic| (k_here; (with_reducible show wpAny _ _ (call (Value.ref 57) [Value.int _ _]) _ _ _); k_dflt (refine' use_cl (isleap_ok _ _ _ _) ?k1 ?k2 ?k3 ?k4 ?k5 ?kK ?kd ?ku ?_; walk_at "m.prem"; walk_at "m.useB")))


local macro_rules | `(tactic| walk_at "call ref") => `(tactic| (k_here; (with_reducible show wpAny _ _ (call (Value.ref 64) [Value.int _ _, Value.int _ _, Value.int _ _]) _ _ _); k_dflt (refine' use_cl (legal_ok _ _ _ _ _ _ _ _ ?dom) ?k1 ?k2 ?k3 ?k4 ?k5 ?kK ?kd ?ku ?_; (case dom => first | assumption | (unfold DayOk; omega)); walk_at "m.prem"; (intro t9 h9 tk9 F9 N9; (try dsimp only); (try k_fold)))))


local macro_rules | `(tactic| walk_at "call ref") => `(tactic| (k_here; (with_reducible show wpAny _ _ (call (Value.ref 71) [Value.int _ _, Value.int _ _, Value.int _ _]) _ _ _); k_dflt (refine' use_cl (gtojd_ok _ _ _ _ _ _ _ _ ?dom1 ?dom2 ?dom3) ?k1 ?k2 ?k3 ?k4 ?k5 ?kK ?kd ?ku ?_; (case dom1 => first | with_reducible assumption | decide | (refine ⟨?_, ?_⟩ <;> walk_at "m.bnd")); (case dom2 => first | with_reducible assumption | decide | (refine ⟨?_, ?_⟩ <;> walk_at "m.bnd")); (case dom3 => first | assumption | (unfold DayOk; omega)); walk_at "m.prem"; walk_at "m.useV")))

local macro_rules | `(tactic| walk_at "m.useD") => `(tactic| (intro h9 tk9 x9 y9 mo9 d9 t91 t92 t93 hD9 F9 N9; (have hD91 := hD9.1); (have hD92 := hD9.2.1); (have hD93 := hD9.2.2.1); (try dsimp only); (try k_fold)))
local macro_rules | `(tactic| walk_at "call ref") => `(tactic| (k_here; (with_reducible show wpAny _ _ (call (Value.ref 78) [Value.float _ _]) _ _ _); k_dflt (refine' use_cl (fromjd_ok _ _ _ _ _ ?hx ?dom1 ?dom2 ?dom3) ?k1 ?k2 ?k3 ?k4 ?k5 ?kK ?kd ?ku ?_; (case hx => walk_at "m.hx"); (case dom1 => walk_at "m.bnd"); (case dom2 => walk_at "m.bnd"); (case dom3 => walk_at "m.bnd"); walk_at "m.prem"; walk_at "m.useD")))

local macro_rules | `(tactic| walk_at "call ref") => `(tactic| (k_here; (with_reducible show wpAny _ _ (call (Value.ref 85) [Value.int _ _]) _ _ _); k_dflt (refine' use_cl (leap_ok _ _ _ _) ?k1 ?k2 ?k3 ?k4 ?k5 ?kK ?kd ?ku ?_; walk_at "m.prem"; walk_at "m.useB")))

local macro_rules | `(tactic| walk_at "call ref") => `(tactic| (k_here; (with_reducible show wpAny _ _ (call (Value.ref 92) [Value.int _ _]) _ _ _); k_dflt (refine' use_cl (months_ok _ _ _ _) ?k1 ?k2 ?k3 ?k4 ?k5 ?kK ?kd ?ku ?_; walk_at "m.prem"; walk_at "m.useV")))
local macro_rules | `(tactic| walk_at "call ref") => `(tactic| (k_here; (with_reducible show wpAny _ _ (call (Value.ref 99) [Value.int _ _]) _ _ _); k_dflt (refine' use_cl (delay1_ok _ _ _ _ ?dom1) ?k1 ?k2 ?k3 ?k4 ?k5 ?kK ?kd ?ku ?_; (case dom1 => first | with_reducible assumption | decide | (refine ⟨?_, ?_⟩ <;> walk_at "m.bnd")); walk_at "m.prem"; walk_at "m.useV")))

local macro_rules | `(tactic| walk_at "call ref") => `(tactic| (k_here; (with_reducible show wpAny _ _ (call (Value.ref 106) [Value.int _ _]) _ _ _); k_dflt (refine' use_cl (delay2_ok _ _ _ _ ?dom1) ?k1 ?k2 ?k3 ?k4 ?k5 ?kK ?kd ?ku ?_; (case dom1 => first | with_reducible assumption | decide | (refine ⟨?_, ?_⟩ <;> walk_at "m.bnd")); walk_at "m.prem"; walk_at "m.useV")))

/-- the float of a Hebrew year's first midnight, less a day: twice -/
def nyH (y : Int) : Int := 695993 + 2 * ny y
def span (y : Int) : Int := ny (y + 1) - ny y

theorem th7_ok (w : World) (news : List (Addr × Obj)) (y : Int) (t t2 t3 : Tok) (hy : 3702 ≤ y ∧ y ≤ 13798) :
    Cl w 134 news [.int y t, .int 7 t2, .int 1 t3] 3 24 (RetH news (fun v => v = nyH y + 2 ∧ 2000000 < v ∧ v < 11900000)) := by
  unfold Cl RetH
  k_fill
  intro p loose mean mg mb dp un gd cn cs a ccd cl outer A₀ base h₀ L m s Q E B F X N T hk hd' hu hret
  refine wpAny_call ?_
  k_dflt cell_enter
  k_steps
  all_goals refine endH (E := E) hret (by k_asm) (by walk_at "m.news") ?_
  all_goals (unfold nyH ny; omega)

local macro_rules | `(tactic| walk_at "call ref") => `(tactic| (k_here; (with_reducible show wpAny _ _ (call (Value.ref 134) [Value.int _ _, Value.int 7 _, Value.int 1 _]) _ _ _); k_dflt (refine' use_cl (th7_ok _ _ _ _ _ _ ?dom1) ?k1 ?k2 ?k3 ?k4 ?k5 ?kK ?kd ?ku ?_; (case dom1 => first | with_reducible assumption | decide | (refine ⟨?_, ?_⟩ <;> walk_at "m.bnd")); walk_at "m.prem"; walk_at "m.useV")))


theorem d0_rng {y : Int} (hy : 3700 ≤ y ∧ y ≤ 13800) : 1000000 < d0 y ∧ d0 y < 6000000 := by
  unfold d0
  omega
theorem yd_ok (w : World) (news : List (Addr × Obj)) (y : Int) (t : Tok) (hy : 3703 ≤ y ∧ y ≤ 13796) :
    Cl w 113 news [.int y t] 4 32 (RetH news (fun v => v = 2 * span y ∧ -13000000 < v ∧ v < 13000000)) := by
  unfold Cl RetH
  k_fill
  intro p loose mean mg mb dp un gd cn cs a ccd cl outer A₀ base h₀ L m s Q E B F X N T hk hd' hu hret
  refine wpAny_call ?_
  k_dflt cell_enter
  k_steps
  all_goals refine endH (E := E) hret (by k_asm) (by walk_at "m.news") ?_
  all_goals (unfold nyH at *; unfold span; omega)

local macro_rules | `(tactic| walk_at "call ref") => `(tactic| (k_here; (with_reducible show wpAny _ _ (call (Value.ref 113) [Value.int _ _]) _ _ _); k_dflt (refine' use_cl (yd_ok _ _ _ _ ?dom1) ?k1 ?k2 ?k3 ?k4 ?k5 ?kK ?kd ?ku ?_; (case dom1 => first | with_reducible assumption | decide | (refine ⟨?_, ?_⟩ <;> walk_at "m.bnd")); walk_at "m.prem"; walk_at "m.useV")))

/-- a month's length -/
def mlen (y m : Int) : Int :=
  if m = 2 ∨ m = 4 ∨ m = 6 ∨ m = 10 ∨ m = 13 then 29
  else if m = 12 ∧ ¬ (y * 7 + 1) % 19 < 7 then 29
  else if m = 8 ∧ span y % 10 ≠ 5 then 29
  else if m = 9 ∧ span y % 10 = 3 then 29
  else 30
theorem mlen_ok (w : World) (news : List (Addr × Obj)) (y mo : Int) (t t2 : Tok) (hy : 3703 ≤ y ∧ y ≤ 13796) (hm : 1 ≤ mo ∧ mo ≤ 13) :
    Cl w 120 news [.int y t, .int mo t2] 5 40 (RetI news (fun v => v = mlen y mo ∧ 29 ≤ v ∧ v ≤ 30)) := by
  unfold Cl RetI
  k_fill
  intro p loose mean mg mb dp un gd cn cs a ccd cl outer A₀ base h₀ L m s Q E B F X N T hk hd' hu hret
  refine wpAny_call ?_
  k_dflt cell_enter
  k_steps
  all_goals refine endI (E := E) hret (by k_asm) (by walk_at "m.news") ?_
  all_goals ((try walk_at "m.bools"); unfold mlen; refine ⟨?_, by omega, by omega⟩; (repeat' split) <;> first | rfl | omega)

local macro_rules | `(tactic| walk_at "call ref") => `(tactic| (k_here; (with_reducible show wpAny _ _ (call (Value.ref 120) [Value.int _ _, Value.int _ _]) _ _ _); k_dflt (refine' use_cl (mlen_ok _ _ _ _ _ _ ?dom1 ?dom2) ?k1 ?k2 ?k3 ?k4 ?k5 ?kK ?kd ?ku ?_; (case dom1 => first | with_reducible assumption | decide | (refine ⟨?_, ?_⟩ <;> walk_at "m.bnd")); (case dom2 => first | with_reducible assumption | decide | (refine ⟨?_, ?_⟩ <;> walk_at "m.bnd")); walk_at "m.prem"; walk_at "m.useV")))


theorem mdays_ok (w : World) (news : List (Addr × Obj)) (y mo : Int) (t t2 : Tok) (hy : 3703 ≤ y ∧ y ≤ 13796) (hm : 1 ≤ mo ∧ mo ≤ 13) :
    Cl w 127 news [.int y t, .int mo t2] 6 48 (RetI news (fun v => v = mlen y mo ∧ 29 ≤ v ∧ v ≤ 30)) := by
  unfold Cl RetI
  k_fill
  intro p loose mean mg mb dp un gd cn cs a ccd cl outer A₀ base h₀ L m s Q E B F X N T hk hd' hu hret
  refine wpAny_call ?_
  k_dflt cell_enter
  k_steps
  all_goals refine endI (E := E) hret (by k_asm) (by walk_at "m.news") ?_
  all_goals assumption

end Mine
end

section
open PySem PySem.W PyProof.Rows
set_option maxRecDepth 100000
set_option maxHeartbeats 8000000
set_option linter.unusedVariables false
set_option pp.maxSteps 3000
namespace Mine
theorem top_off_G7 : True := by
  w_top off
  trivial
open PySem PySem.Calls PyProof.Rows
-- small words of ours, as lines of walk_at
local macro_rules | `(tactic| walk_at "m.bools") => `(tactic| (simp only [decide_eq_true_eq, decide_eq_false_iff_not, Bool.not_eq_true, Bool.not_eq_false, Bool.and_eq_true, Bool.or_eq_true, Bool.not_eq_true', Bool.not_eq_false', beq_iff_eq, bne_iff_ne, beq_eq_false_iff_ne, bne_eq_false_iff_eq, Bool.and_eq_false_iff, Bool.or_eq_false_iff, ne_eq, Decidable.not_not] at *))
local macro_rules | `(tactic| walk_at "m.bnd") => `(tactic| first | omega | decide | ((try walk_at "m.bools"); omega) | (exfalso; (try walk_at "m.bools"); simp_all; omega))
local macro_rules | `(tactic| walk_at "m.hx") => `(tactic| first | with_reducible exact rfl | exact litH | exact litG | exact litHalf)
local macro_rules | `(tactic| walk_at "m.news") => `(tactic| first | k_asm | (refine' cb_drop ?cbN ?cbS; (case cbN => assumption); (case cbS => (intro qN hN; repeat (first | exact hN | refine List.mem_cons_of_mem _ ?_)))))
-- use a claim at a call
local macro_rules | `(tactic| walk_at "m.prem") => `(tactic| (
  (case k1 => k_asm); (case k2 => k_asm); (case k3 => k_asm); (case k4 => k_asm); (case k5 => k_asm);
  (case kK => first | exact rfl | assumption); (case kd => ktr_room); (case ku => ktr_units)))

-- floats
local macro_rules | `(tactic| walk_at "binaryOp Add float int") => `(tactic| first
  | (with_reducible refine' r_add_fi ?x ?al ?au ?nl ?nu ?_; (case x => walk_at "m.hx"); (case al => walk_at "m.bnd"); (case au => walk_at "m.bnd"); (case nl => walk_at "m.bnd"); (case nu => walk_at "m.bnd"); k_whole; (try dsimp only))
  | (with_reducible refine' add_fi_fits ?n ?_; (case n => exact fitsH (by walk_at "m.bnd")); k_whole; (try dsimp only)))
local macro_rules | `(tactic| walk_at "inplaceOp Add float int") => `(tactic| (with_reducible refine' r_iadd_fi rfl ?x ?al ?au ?nl ?nu ?_; (case x => walk_at "m.hx"); (case al => walk_at "m.bnd"); (case au => walk_at "m.bnd"); (case nl => walk_at "m.bnd"); (case nu => walk_at "m.bnd"); k_whole; (try dsimp only)))
local macro_rules | `(tactic| walk_at "binaryOp Add int float") => `(tactic| (with_reducible refine' r_add_if ?x ?al ?au ?nl ?nu ?_; (case x => walk_at "m.hx"); (case al => walk_at "m.bnd"); (case au => walk_at "m.bnd"); (case nl => walk_at "m.bnd"); (case nu => walk_at "m.bnd"); k_whole; (try dsimp only)))
local macro_rules | `(tactic| walk_at "binaryOp Sub float int") => `(tactic| (with_reducible refine' r_sub_fi ?x ?al ?au ?nl ?nu ?_; (case x => walk_at "m.hx"); (case al => walk_at "m.bnd"); (case au => walk_at "m.bnd"); (case nl => walk_at "m.bnd"); (case nu => walk_at "m.bnd"); k_whole; (try dsimp only)))
local macro_rules | `(tactic| walk_at "binaryOp Sub int float") => `(tactic| (with_reducible refine' r_sub_if ?x ?al ?au ?nl ?nu ?_; (case x => walk_at "m.hx"); (case al => walk_at "m.bnd"); (case au => walk_at "m.bnd"); (case nl => walk_at "m.bnd"); (case nu => walk_at "m.bnd"); k_whole; (try dsimp only)))
local macro_rules | `(tactic| walk_at "binaryOp Mult float int") => `(tactic| (with_reducible refine' r_mul_fi ?x ?al ?au ?z ?nl ?nu ?_; (case x => walk_at "m.hx"); (case al => walk_at "m.bnd"); (case au => walk_at "m.bnd"); (case z => walk_at "m.bnd"); (case nl => walk_at "m.bnd"); (case nu => walk_at "m.bnd"); k_whole; (try dsimp only)))
local macro_rules | `(tactic| walk_at "binaryOp Add float float") => `(tactic| (with_reducible refine' r_add_ff ?x ?y ?al ?au ?bl ?bu ?_; (case x => walk_at "m.hx"); (case y => walk_at "m.hx"); (case al => walk_at "m.bnd"); (case au => walk_at "m.bnd"); (case bl => walk_at "m.bnd"); (case bu => walk_at "m.bnd"); k_whole; (try dsimp only)))
local macro_rules | `(tactic| walk_at "binaryOp Sub float float") => `(tactic| (with_reducible refine' r_sub_ff ?x ?y ?al ?au ?bl ?bu ?_; (case x => walk_at "m.hx"); (case y => walk_at "m.hx"); (case al => walk_at "m.bnd"); (case au => walk_at "m.bnd"); (case bl => walk_at "m.bnd"); (case bu => walk_at "m.bnd"); k_whole; (try dsimp only)))
local macro_rules | `(tactic| walk_at "binaryOp Div float int") => `(tactic| (with_reducible refine' r_div_fi rfl ?x ?z ?nl ?nu ?_; (case x => walk_at "m.hx"); (case z => walk_at "m.bnd"); (case nl => walk_at "m.bnd"); (case nu => walk_at "m.bnd"); k_whole; (try dsimp only)))
local macro_rules | `(tactic| walk_at "binaryOp Div int int") => `(tactic| (with_reducible refine' r_div_ii rfl ?z ?nl ?nu ?_; (case z => walk_at "m.bnd"); (case nl => walk_at "m.bnd"); (case nu => walk_at "m.bnd"); k_whole; (try dsimp only)))
local macro_rules | `(tactic| walk_at "binaryOp Mod float int") => `(tactic| (with_reducible refine' r_mod_fi rfl ?x ?al ?au ?z ?nl ?nu ?_; (case x => walk_at "m.hx"); (case al => walk_at "m.bnd"); (case au => walk_at "m.bnd"); (case z => walk_at "m.bnd"); (case nl => walk_at "m.bnd"); (case nu => walk_at "m.bnd"); k_whole; (try dsimp only)))
local macro_rules | `(tactic| walk_at "call builtin:math.floor") => `(tactic| first
  | (with_reducible refine' r_floor_div rfl ?al ?au ?z ?n ?_; (case al => walk_at "m.bnd"); (case au => walk_at "m.bnd"); (case z => walk_at "m.bnd"); (case n => walk_at "m.bnd"); k_whole; (try dsimp only))
  | (with_reducible refine' r_floor_ii rfl ?al ?au ?z ?n ?_; (case al => walk_at "m.bnd"); (case au => walk_at "m.bnd"); (case z => walk_at "m.bnd"); (case n => walk_at "m.bnd"); k_whole; (try dsimp only))
  | (with_reducible refine' r_floor_m rfl ?m1 ?m2 ?j1 ?j2 ?d1 ?d2 ?_; (case m1 => walk_at "m.bnd"); (case m2 => walk_at "m.bnd"); (case j1 => walk_at "m.bnd"); (case j2 => walk_at "m.bnd"); (case d1 => walk_at "m.bnd"); (case d2 => walk_at "m.bnd"); k_whole; (try dsimp only))
  | (with_reducible refine' r_floor_H rfl ?x ?al ?au ?_; (case x => walk_at "m.hx"); (case al => walk_at "m.bnd"); (case au => walk_at "m.bnd"); k_whole; (try dsimp only)))
local macro_rules | `(tactic| walk_at "call builtin:math.trunc") => `(tactic| (with_reducible refine' r_trunc_H rfl ?x ?z ?al ?au ?_; (case x => walk_at "m.hx"); (case z => walk_at "m.bnd"); (case al => walk_at "m.bnd"); (case au => walk_at "m.bnd"); k_whole; (try dsimp only)))
local macro_rules | `(tactic| walk_at "call type:int") => `(tactic| (with_reducible refine' r_int_H rfl ?x ?z ?al ?au ?_; (case x => walk_at "m.hx"); (case z => walk_at "m.bnd"); (case al => walk_at "m.bnd"); (case au => walk_at "m.bnd"); k_whole; (try dsimp only)))
local macro_rules | `(tactic| walk_at "compareOp Lt float int") => `(tactic| (with_reducible refine' r_lt_fi ?x ?al ?au ?_; (case x => walk_at "m.hx"); (case al => walk_at "m.bnd"); (case au => walk_at "m.bnd"); k_whole; (try dsimp only)))
local macro_rules | `(tactic| walk_at "compareOp Eq float int") => `(tactic| (with_reducible refine' r_eq_fi ?x ?al ?au ?_; (case x => walk_at "m.hx"); (case al => walk_at "m.bnd"); (case au => walk_at "m.bnd"); k_whole; (try dsimp only)))
local macro_rules | `(tactic| walk_at "compareOp NotEq float int") => `(tactic| (with_reducible refine' r_ne_fi ?x ?al ?au ?_; (case x => walk_at "m.hx"); (case al => walk_at "m.bnd"); (case au => walk_at "m.bnd"); k_whole; (try dsimp only)))
local macro_rules | `(tactic| walk_at "compareOp Eq float float") => `(tactic| (with_reducible refine' r_eq_ff ?x ?y ?al ?au ?bl ?bu ?_; (case x => walk_at "m.hx"); (case y => walk_at "m.hx"); (case al => walk_at "m.bnd"); (case au => walk_at "m.bnd"); (case bl => walk_at "m.bnd"); (case bu => walk_at "m.bnd"); k_whole; (try dsimp only)))
local macro_rules | `(tactic| walk_at "compareOp NotEq float float") => `(tactic| (with_reducible refine' r_ne_ff ?x ?y ?al ?au ?bl ?bu ?_; (case x => walk_at "m.hx"); (case y => walk_at "m.hx"); (case al => walk_at "m.bnd"); (case au => walk_at "m.bnd"); (case bl => walk_at "m.bnd"); (case bu => walk_at "m.bnd"); k_whole; (try dsimp only)))
local macro_rules | `(tactic| walk_at "truthy float") => `(tactic| (with_reducible refine' r_truthy ?x ?al ?au ?_; (case x => walk_at "m.hx"); (case al => walk_at "m.bnd"); (case au => walk_at "m.bnd"); k_whole; (try dsimp only)))
-- // and % by a positive divisor: / and % of Int
local macro_rules | `(tactic| walk_at "binaryOp Mod int int") => `(tactic| (with_reducible refine' r_mod_ii ?z ?_; (case z => first | decide | walk_at "m.bnd"); k_whole; (try dsimp only)))
local macro_rules | `(tactic| walk_at "binaryOp FloorDiv int int") => `(tactic| (with_reducible refine' r_fdiv_ii ?z ?y ?_; (case z => first | decide | walk_at "m.bnd"); (case y => first | decide | walk_at "m.bnd"); k_whole; (try dsimp only)))

local macro_rules | `(tactic| walk_at "m.ints") => `(tactic| first | exact IntsAre.nil | (apply IntsAre.cons; walk_at "m.ints"))
local macro_rules | `(tactic| walk_at "m.any") => `(tactic| (all_goals (intro hP9; (simp only [anyP, or_false] at hP9); (try dsimp only))))
local macro_rules | `(tactic| walk_at "compareOp In int ref") => `(tactic| (k_dflt first
  | (refine' r_in_T ?N ?m ?i ?_ ?_; (case N => k_asm); (case m => k_mem); (case i => walk_at "m.ints"))
  | (refine' r_in_L ?N ?m ?i ?_ ?_; (case N => k_asm); (case m => k_mem); (case i => walk_at "m.ints"))
  | (refine' r_in_K ?F ?X ?l ?i ?_ ?_; (case F => k_asm); (case X => k_asm); (case l => k_is); (case i => walk_at "m.ints"))); walk_at "m.any")
-- no joining of a call's ways: our claims do
local macro_rules | `(tactic| walk_at "eval Call") => `(tactic| (k_dflt (refine Call_ ?_)))
-- a name: the module's (but for «leap», a local of from_jd too), else a local's value
local macro_rules | `(tactic| walk_at "m.glob") => `(tactic| (
  (fail_if_success (with_reducible show wpAny _ _ (eval (Expr.Name (Str.ofString "leap") _) _) _ _ _));
  refine' q_glob ?F ?X ?T ?e ?_ ?a ?b ?d; (case F => k_asm); (case X => k_asm); (case T => k_asm); (case e => k_is); (case a => kernel_rfl); (case b => kernel_rfl); (case d => kernel_rfl); k_whole))
local macro_rules | `(tactic| walk_at "m.boot") => `(tactic| (
  refine' q_boot ?F ?X ?T ?e ?v ?n ?_ ?a ?b ?d; (case F => k_asm); (case X => k_asm); (case T => k_asm); (case e => k_is); (case v => k_dflt boot_fast); (case n => decide); (case a => kernel_rfl); (case b => kernel_rfl); (case d => kernel_rfl); k_whole))
local macro_rules | `(tactic| walk_at "m.loc") => `(tactic| (
  refine' q_loc ?F ?v ?_ ?a ?b ?d; (case F => k_dflt k_asm); (case v => k_dflt rfl); (case a => kernel_rfl); (case b => kernel_rfl); (case d => kernel_rfl); k_whole))
local macro_rules | `(tactic| walk_at "eval Name") => `(tactic| (k_here; first
  | (with_reducible walk_at "m.glob")
  | (with_reducible walk_at "m.loc")
  | (with_reducible walk_at "m.boot")))

local macro_rules | `(tactic| walk_at "m.useB") => `(tactic| (intro h9 tk9 F9 N9; refine ⟨fun hP9 => ?_, fun hP9 => ?_⟩ <;> (try dsimp only) <;> (try k_fold)))
local macro_rules | `(tactic| walk_at "m.useV") => `(tactic| (intro t9 h9 tk9 v9 hv9 F9 N9; (try dsimp only); (try k_fold)))
local macro_rules | `(tactic| walk_at "call ref") => `(tactic| (k_here; (with_reducible show wpAny _ _ (call (Value.ref 57) [Value.int _ _]) _ _ _); k_dflt (refine' use_cl (isleap_ok _ _ _ _) ?k1 ?k2 ?k3 ?k4 ?k5 ?kK ?kd ?ku ?_; walk_at "m.prem"; walk_at "m.useB")))


local macro_rules | `(tactic| walk_at "call ref") => `(tactic| (k_here; (with_reducible show wpAny _ _ (call (Value.ref 64) [Value.int _ _, Value.int _ _, Value.int _ _]) _ _ _); k_dflt (refine' use_cl (legal_ok _ _ _ _ _ _ _ _ ?dom) ?k1 ?k2 ?k3 ?k4 ?k5 ?kK ?kd ?ku ?_; (case dom => first | assumption | (unfold DayOk; omega)); walk_at "m.prem"; (intro t9 h9 tk9 F9 N9; (try dsimp only); (try k_fold)))))


local macro_rules | `(tactic| walk_at "call ref") => `(tactic| (k_here; (with_reducible show wpAny _ _ (call (Value.ref 71) [Value.int _ _, Value.int _ _, Value.int _ _]) _ _ _); k_dflt (refine' use_cl (gtojd_ok _ _ _ _ _ _ _ _ ?dom1 ?dom2 ?dom3) ?k1 ?k2 ?k3 ?k4 ?k5 ?kK ?kd ?ku ?_; (case dom1 => first | with_reducible assumption | decide | (refine ⟨?_, ?_⟩ <;> walk_at "m.bnd")); (case dom2 => first | with_reducible assumption | decide | (refine ⟨?_, ?_⟩ <;> walk_at "m.bnd")); (case dom3 => first | assumption | (unfold DayOk; omega)); walk_at "m.prem"; walk_at "m.useV")))

local macro_rules | `(tactic| walk_at "m.useD") => `(tactic| (intro h9 tk9 x9 y9 mo9 d9 t91 t92 t93 hD9 F9 N9; (have hD91 := hD9.1); (have hD92 := hD9.2.1); (have hD93 := hD9.2.2.1); (try dsimp only); (try k_fold)))
local macro_rules | `(tactic| walk_at "call ref") => `(tactic| (k_here; (with_reducible show wpAny _ _ (call (Value.ref 78) [Value.float _ _]) _ _ _); k_dflt (refine' use_cl (fromjd_ok _ _ _ _ _ ?hx ?dom1 ?dom2 ?dom3) ?k1 ?k2 ?k3 ?k4 ?k5 ?kK ?kd ?ku ?_; (case hx => walk_at "m.hx"); (case dom1 => walk_at "m.bnd"); (case dom2 => walk_at "m.bnd"); (case dom3 => walk_at "m.bnd"); walk_at "m.prem"; walk_at "m.useD")))

local macro_rules | `(tactic| walk_at "call ref") => `(tactic| (k_here; (with_reducible show wpAny _ _ (call (Value.ref 85) [Value.int _ _]) _ _ _); k_dflt (refine' use_cl (leap_ok _ _ _ _) ?k1 ?k2 ?k3 ?k4 ?k5 ?kK ?kd ?ku ?_; walk_at "m.prem"; walk_at "m.useB")))

local macro_rules | `(tactic| walk_at "call ref") => `(tactic| (k_here; (with_reducible show wpAny _ _ (call (Value.ref 92) [Value.int _ _]) _ _ _); k_dflt (refine' use_cl (months_ok _ _ _ _) ?k1 ?k2 ?k3 ?k4 ?k5 ?kK ?kd ?ku ?_; walk_at "m.prem"; walk_at "m.useV")))
local macro_rules | `(tactic| walk_at "call ref") => `(tactic| (k_here; (with_reducible show wpAny _ _ (call (Value.ref 99) [Value.int _ _]) _ _ _); k_dflt (refine' use_cl (delay1_ok _ _ _ _ ?dom1) ?k1 ?k2 ?k3 ?k4 ?k5 ?kK ?kd ?ku ?_; (case dom1 => first | with_reducible assumption | decide | (refine ⟨?_, ?_⟩ <;> walk_at "m.bnd")); walk_at "m.prem"; walk_at "m.useV")))

local macro_rules | `(tactic| walk_at "call ref") => `(tactic| (k_here; (with_reducible show wpAny _ _ (call (Value.ref 106) [Value.int _ _]) _ _ _); k_dflt (refine' use_cl (delay2_ok _ _ _ _ ?dom1) ?k1 ?k2 ?k3 ?k4 ?k5 ?kK ?kd ?ku ?_; (case dom1 => first | with_reducible assumption | decide | (refine ⟨?_, ?_⟩ <;> walk_at "m.bnd")); walk_at "m.prem"; walk_at "m.useV")))

local macro_rules | `(tactic| walk_at "call ref") => `(tactic| (k_here; (with_reducible show wpAny _ _ (call (Value.ref 134) [Value.int _ _, Value.int 7 _, Value.int 1 _]) _ _ _); k_dflt (refine' use_cl (th7_ok _ _ _ _ _ _ ?dom1) ?k1 ?k2 ?k3 ?k4 ?k5 ?kK ?kd ?ku ?_; (case dom1 => first | with_reducible assumption | decide | (refine ⟨?_, ?_⟩ <;> walk_at "m.bnd")); walk_at "m.prem"; walk_at "m.useV")))

local macro_rules | `(tactic| walk_at "call ref") => `(tactic| (k_here; (with_reducible show wpAny _ _ (call (Value.ref 113) [Value.int _ _]) _ _ _); k_dflt (refine' use_cl (yd_ok _ _ _ _ ?dom1) ?k1 ?k2 ?k3 ?k4 ?k5 ?kK ?kd ?ku ?_; (case dom1 => first | with_reducible assumption | decide | (refine ⟨?_, ?_⟩ <;> walk_at "m.bnd")); walk_at "m.prem"; walk_at "m.useV")))

local macro_rules | `(tactic| walk_at "call ref") => `(tactic| (k_here; (with_reducible show wpAny _ _ (call (Value.ref 120) [Value.int _ _, Value.int _ _]) _ _ _); k_dflt (refine' use_cl (mlen_ok _ _ _ _ _ _ ?dom1 ?dom2) ?k1 ?k2 ?k3 ?k4 ?k5 ?kK ?kd ?ku ?_; (case dom1 => first | with_reducible assumption | decide | (refine ⟨?_, ?_⟩ <;> walk_at "m.bnd")); (case dom2 => first | with_reducible assumption | decide | (refine ⟨?_, ?_⟩ <;> walk_at "m.bnd")); walk_at "m.prem"; walk_at "m.useV")))

local macro_rules | `(tactic| walk_at "m.useM") => `(tactic| (intro t9 h9 tk9 v9 hv9 F9 N9; (try simp only [Nat.zero_add, Nat.reduceAdd, Int.natCast_zero, Int.natCast_one, Int.cast_ofNat_Int, Int.reduceAdd, Int.add_zero] at hv9); (try dsimp only); (try k_fold)))
local macro_rules | `(tactic| walk_at "call ref") => `(tactic| (k_here; (with_reducible show wpAny _ _ (call (Value.ref 127) [Value.int _ _, Value.int _ _]) _ _ _); k_dflt (refine' use_cl (mdays_ok _ _ _ _ _ _ ?dom1 ?dom2) ?k1 ?k2 ?k3 ?k4 ?k5 ?kK ?kd ?ku ?_; (case dom1 => first | with_reducible assumption | decide | (refine ⟨?_, ?_⟩ <;> walk_at "m.bnd")); (case dom2 => first | with_reducible assumption | decide | (refine ⟨?_, ?_⟩ <;> walk_at "m.bnd")); walk_at "m.prem"; walk_at "m.useM")))

/-- the days of the year in front of a month (the year begins with the seventh) -/
def offs (y m : Int) : Int :=
  if m = 7 then 0
  else if m = 8 then mlen y 7
  else if m = 9 then mlen y 7 + mlen y 8
  else if m = 10 then mlen y 7 + mlen y 8 + mlen y 9
  else if m = 11 then mlen y 7 + mlen y 8 + mlen y 9 + mlen y 10
  else if m = 12 then mlen y 7 + mlen y 8 + mlen y 9 + mlen y 10 + mlen y 11
  else if m = 13 then mlen y 7 + mlen y 8 + mlen y 9 + mlen y 10 + mlen y 11 + mlen y 12
  else mlen y 7 + mlen y 8 + mlen y 9 + mlen y 10 + mlen y 11 + mlen y 12 + (if (y * 7 + 1) % 19 < 7 then mlen y 13 else 0) +
    (if m = 1 then 0 else if m = 2 then mlen y 1 else if m = 3 then mlen y 1 + mlen y 2 else if m = 4 then mlen y 1 + mlen y 2 + mlen y 3
      else if m = 5 then mlen y 1 + mlen y 2 + mlen y 3 + mlen y 4 else mlen y 1 + mlen y 2 + mlen y 3 + mlen y 4 + mlen y 5)

theorem sum_hi {y mo : Int} (h : 1 ≤ mo ∧ mo ≤ 13) (h7 : ¬ mo < 7) : psum (mlen y) 7 (mo - 7).toNat = offs y mo := by
  have : mo = 7 ∨ mo = 8 ∨ mo = 9 ∨ mo = 10 ∨ mo = 11 ∨ mo = 12 ∨ mo = 13 := by omega
  rcases this with rfl | rfl | rfl | rfl | rfl | rfl | rfl <;> simp [psum, offs]
theorem sum_lo {y mo v : Int} (h : 1 ≤ mo ∧ mo ≤ 13) (h7 : mo < 7) (hv : (v = 13 ∧ (y * 7 + 1) % 19 < 7) ∨ (v = 12 ∧ ¬ (y * 7 + 1) % 19 < 7)) : psum (mlen y) 7 (v + 1 - 7).toNat + psum (mlen y) 1 (mo - 1).toNat = offs y mo := by
  have : mo = 1 ∨ mo = 2 ∨ mo = 3 ∨ mo = 4 ∨ mo = 5 ∨ mo = 6 := by omega
  rcases hv with ⟨rfl, hl⟩ | ⟨rfl, hl⟩
  · rcases this with rfl | rfl | rfl | rfl | rfl | rfl <;> simp [psum, offs, hl]
  · rcases this with rfl | rfl | rfl | rfl | rfl | rfl <;> simp [psum, offs, hl]
theorem mlen_rng (y : Int) : ∀ k, 0 ≤ mlen y k ∧ mlen y k ≤ 30 := fun k => by
  unfold mlen
  (repeat' split) <;> omega
theorem month_loop {prog : Program} {w : World} {A : Around} {E : Value → Shared → Prop} {s : Shared} {env : Env} {h₀ : Heap} {x : Str} {body : List Stmt} {Q : Flow → Shared → Prop} {L r : Addr} {a b : Int} {t₀ u₀ v₀ : Tok} {n : Nat} {m₀ : Str → Option Value} {news : List (Addr × Obj)} {v0 : Int} {tv0 : Tok} {yr : Int} (hyr : 3703 ≤ yr ∧ yr ≤ 13796)
    (hL : env.locals = L) (hh : A.handled = none) (hr : IsRange s.heap r a b 1 t₀ u₀ v₀) (hsmall : Builtin.Range.small a b 1 = true) (hn : Builtin.Range.rangeSize a b 1 = (n : Int)) (F : Fr h₀ L s.heap m₀) (N : News h₀ L s.heap news) (hy : m₀ (Str.ofString "jd") = some (.float (H v0) tv0))
    (turn : ∀ (k v : Int) (t tv : Tok) (u : Str → Option Value) (h : Heap) (tk : Nat) (own : List (Addr × Obj)), a ≤ k → k < a + n → v0 ≤ v → v ≤ v0 + 60 * n → Fr h₀ L h (fun z => if z = x then some (.int k t) else if z = Str.ofString "jd" then some (.float (H v) tv) else if z = x then u z else m₀ z) → News h₀ L h (news ++ own) →
      wpAny (model prog w) A (execs body env) (AccPost h₀ L x (Str.ofString "jd") (v + 2 * mlen yr k) m₀ (news ++ own) { s with heap := h, toks := tk } Q) E { s with heap := h, toks := tk })
    (done : ∀ (u : Str → Option Value) (tv : Tok) (h : Heap) (tk : Nat), 0 ≤ psum (mlen yr) a n → psum (mlen yr) a n ≤ 30 * n → Fr h₀ L h (fun z => if z = Str.ofString "jd" then some (.float (H (v0 + 2 * psum (mlen yr) a n)) tv) else if z = x then u z else m₀ z) → News h₀ L h news → Q .next { s with heap := h, toks := tk }) :
    wpAny (model prog w) A (pyIter (.ref r)) (fun it s₂ => LoopAtV prog w A h₀ env x body Q E it s₂) E s :=
  acc_range (Str.ofString "jd") (mlen yr) (mlen_rng yr) hL hh hr hsmall hn F N hy turn (fun u tv h tk => done u tv h tk (psum_rng (mlen_rng yr) n).1 (psum_rng (mlen_rng yr) n).2)
local macro_rules | `(tactic| walk_at "pyIter ref") => `(tactic| ((with_reducible show wpAny _ _ (pyIter (Value.ref _)) (fun it s₂ => LoopAtV _ _ _ _ _ _ _ _ _ it s₂) _ _); (rename IsRange _ _ _ _ _ _ _ _ => rR'); (rename Fr _ _ _ _ => lF'); (rename News _ _ _ _ => lN'); k_dflt (refine' month_loop ?hyr ?hL ?hh rR' ?hs ?hn lF' lN' ?hy ?_ ?_; (case hyr => assumption); (case hL => exact rfl); (case hh => exact rfl); (case hs => exact small_one (by omega) (by omega) (by omega) (by omega)); (case hn => exact rangeSize_nat _ _); (case hy => exact rfl)); clear rR' lF' lN'; (focus (intro k9 v9 t9 tv9 u9 h9 tk9 own9 lk9 uk9 lv9 uv9 F9 N9; (try dsimp only))); rotate_left; (focus (intro u9 tv9 h9 tk9 lp9 up9 F9 N9; (try dsimp only))); rotate_right))
local macro_rules | `(tactic| walk_at "AccPost") => `(tactic| (dsimp only [AccPost]))
local macro_rules | `(tactic| walk_at "AccEnd") => `(tactic| ((rename Fr _ _ _ _ => lF'); (rename News _ _ _ _ => lN'); (refine acc_end lF' lN' (by (intro qN hN; first | exact hN | repeat (first | exact hN | refine List.mem_cons_of_mem _ ?_))) (by rfl) (by omega) (by (intro zN hN; simp only [List.mem_cons, List.mem_nil_iff, or_false, not_or] at hN; simp only [hN.1, hN.2, if_false, ↓reduceIte])))))
theorem th_ok (w : World) (news : List (Addr × Obj)) (y mo d : Int) (t t2 t3 : Tok) (hy : 3703 ≤ y ∧ y ≤ 13796) (hm : 1 ≤ mo ∧ mo ≤ 13) (hd1 : 1 ≤ d ∧ d ≤ 31) :
    Cl w 134 news [.int y t, .int mo t2, .int d t3] 7 56 (RetH news (fun v => v = nyH y + 2 * d + 2 * offs y mo ∧ 2500000 < v ∧ v < 11950000 ∧ v % 2 = 1)) := by
  unfold Cl RetH
  k_fill
  intro p loose mean mg mb dp un gd cn cs a ccd cl outer A₀ base h₀ L m s Q E B F X N T hk hd' hu hret
  refine wpAny_call ?_
  k_dflt cell_enter
  k_steps
  all_goals refine endH (E := E) hret (by k_asm) (by walk_at "m.news") ?_
  · have e := sum_lo (y := y) hm (by assumption) (by assumption)
    unfold nyH ny
    omega
  · have e := sum_hi (y := y) hm (by assumption)
    unfold nyH ny
    omega

end Mine
end

section
open PySem PySem.W PyProof.Rows
set_option maxRecDepth 100000
set_option maxHeartbeats 8000000
set_option linter.unusedVariables false
set_option pp.maxSteps 3000
namespace Mine
theorem top_off_G8 : True := by
  w_top off
  trivial
open PySem PySem.Calls PyProof.Rows
/-- a ValueError that leaves the def: the frames below stand, and what the caller's ledger names -/
abbrev RaisesV (news : List (Addr × Obj)) (base : Heap) (l : List Env) (h₀ : Heap) (L : Addr) (m : Str → Option Value) (s : Shared) (E : Value → Shared → Prop) : Prop :=
  ∀ (g₂ : Heap) (e : Addr) (h' : Heap) (tk' : Nat), Fr h₀ L g₂ m → RaisedN base l e (.type "ValueError") news h' → g₂.UpToSlots h' → E (.ref e) { s with heap := h', toks := tk' }
abbrev ClE (w : World) (f : Addr) (news : List (Addr × Obj)) (vs : List Value) (dd uu : Nat) (P : Prop) (post : Heap → Addr → (Str → Option Value) → Shared → (Value → Shared → Prop) → (Value → Shared → Prop) → Prop) : Prop :=
  ∀ (p : Program) (loose : List Str) (mean : ExcName → Option Value) (mg mb : Str → Option Value) (dp un : Nat) (gd : Option (List Code)) (cn : Str) (cs : Scope) (a : Addr) (ccd : Value) (cl : List (Str × Addr)) (outer : List Env) (A₀ : Around) (base h₀ : Heap) (L : Addr) (m : Str → Option Value) (s : Shared) (Q E : Value → Shared → Prop),
    Below A₀ base outer h₀ → Fr h₀ L s.heap m → (hd.heap_39 w.params).In h₀ → News h₀ L s.heap news → Top p loose mean mg mb h₀ → cs.kind = .function → dp + dd < recursionLimit → un + uu < cLine →
    (P → RaisesV news base (envX cn cs L a ccd cl :: outer) h₀ L m s E) → post h₀ L m s Q E →
      wpAny (model PySem.Challenge.rw_ak5019_01.row.prog w) (ktrTop dp un gd cn cs L a ccd cl outer) (call (.ref f) vs) Q E s
theorem use_clE {w : World} {f : Addr} {news : List (Addr × Obj)} {vs : List Value} {dd uu : Nat} {P : Prop} {post : Heap → Addr → (Str → Option Value) → Shared → (Value → Shared → Prop) → (Value → Shared → Prop) → Prop}
    {p : Program} {loose : List Str} {mean : ExcName → Option Value} {mg mb : Str → Option Value} {dp un : Nat} {gd : Option (List Code)} {cn : Str} {cs : Scope} {a : Addr} {ccd : Value} {cl : List (Str × Addr)} {outer : List Env} {A₀ : Around} {base h₀ : Heap} {L : Addr} {m : Str → Option Value} {s : Shared} {Q E : Value → Shared → Prop}
    (C : ClE w f news vs dd uu P post) (B : Below A₀ base outer h₀) (F : Fr h₀ L s.heap m) (X : (hd.heap_39 w.params).In h₀) (N : News h₀ L s.heap news) (T : Top p loose mean mg mb h₀) (hk : cs.kind = .function) (hd' : dp + dd < recursionLimit) (hu : un + uu < cLine)
    (hE : P → RaisesV news base (envX cn cs L a ccd cl :: outer) h₀ L m s E) (hp : post h₀ L m s Q E) : wpAny (model PySem.Challenge.rw_ak5019_01.row.prog w) (ktrTop dp un gd cn cs L a ccd cl outer) (call (.ref f) vs) Q E s :=
  C p loose mean mg mb dp un gd cn cs a ccd cl outer A₀ base h₀ L m s Q E B F X N T hk hd' hu hE hp
theorem raised_drop {base : Heap} {l : List Env} {e : Addr} {c : Value} {n n' : List (Addr × Obj)} {h : Heap} (R : RaisedN base l e c n' h) (sub : ∀ q ∈ n, q ∈ n') : RaisedN base l e c n h := by
  obtain ⟨B, a0, h1, h2, h3⟩ := R
  exact ⟨B, a0, h1, fun q hq => h2 q (sub q hq), h3⟩

-- small words of ours, as lines of walk_at
local macro_rules | `(tactic| walk_at "m.bools") => `(tactic| (simp only [decide_eq_true_eq, decide_eq_false_iff_not, Bool.not_eq_true, Bool.not_eq_false, Bool.and_eq_true, Bool.or_eq_true, Bool.not_eq_true', Bool.not_eq_false', beq_iff_eq, bne_iff_ne, beq_eq_false_iff_ne, bne_eq_false_iff_eq, Bool.and_eq_false_iff, Bool.or_eq_false_iff, ne_eq, Decidable.not_not] at *))
local macro_rules | `(tactic| walk_at "m.bnd") => `(tactic| first | omega | decide | ((try walk_at "m.bools"); omega) | (exfalso; (try walk_at "m.bools"); simp_all; omega))
local macro_rules | `(tactic| walk_at "m.hx") => `(tactic| first | with_reducible exact rfl | exact litH | exact litG | exact litHalf)
local macro_rules | `(tactic| walk_at "m.news") => `(tactic| first | k_asm | (refine' cb_drop ?cbN ?cbS; (case cbN => assumption); (case cbS => (intro qN hN; repeat (first | exact hN | refine List.mem_cons_of_mem _ ?_)))))
-- use a claim at a call
local macro_rules | `(tactic| walk_at "m.prem") => `(tactic| (
  (case k1 => k_asm); (case k2 => k_asm); (case k3 => k_asm); (case k4 => k_asm); (case k5 => k_asm);
  (case kK => first | exact rfl | assumption); (case kd => ktr_room); (case ku => ktr_units)))

-- floats
local macro_rules | `(tactic| walk_at "binaryOp Add float int") => `(tactic| first
  | (with_reducible refine' r_add_fi ?x ?al ?au ?nl ?nu ?_; (case x => walk_at "m.hx"); (case al => walk_at "m.bnd"); (case au => walk_at "m.bnd"); (case nl => walk_at "m.bnd"); (case nu => walk_at "m.bnd"); k_whole; (try dsimp only))
  | (with_reducible refine' add_fi_fits ?n ?_; (case n => exact fitsH (by walk_at "m.bnd")); k_whole; (try dsimp only)))
local macro_rules | `(tactic| walk_at "inplaceOp Add float int") => `(tactic| (with_reducible refine' r_iadd_fi rfl ?x ?al ?au ?nl ?nu ?_; (case x => walk_at "m.hx"); (case al => walk_at "m.bnd"); (case au => walk_at "m.bnd"); (case nl => walk_at "m.bnd"); (case nu => walk_at "m.bnd"); k_whole; (try dsimp only)))
local macro_rules | `(tactic| walk_at "binaryOp Add int float") => `(tactic| (with_reducible refine' r_add_if ?x ?al ?au ?nl ?nu ?_; (case x => walk_at "m.hx"); (case al => walk_at "m.bnd"); (case au => walk_at "m.bnd"); (case nl => walk_at "m.bnd"); (case nu => walk_at "m.bnd"); k_whole; (try dsimp only)))
local macro_rules | `(tactic| walk_at "binaryOp Sub float int") => `(tactic| (with_reducible refine' r_sub_fi ?x ?al ?au ?nl ?nu ?_; (case x => walk_at "m.hx"); (case al => walk_at "m.bnd"); (case au => walk_at "m.bnd"); (case nl => walk_at "m.bnd"); (case nu => walk_at "m.bnd"); k_whole; (try dsimp only)))
local macro_rules | `(tactic| walk_at "binaryOp Sub int float") => `(tactic| (with_reducible refine' r_sub_if ?x ?al ?au ?nl ?nu ?_; (case x => walk_at "m.hx"); (case al => walk_at "m.bnd"); (case au => walk_at "m.bnd"); (case nl => walk_at "m.bnd"); (case nu => walk_at "m.bnd"); k_whole; (try dsimp only)))
local macro_rules | `(tactic| walk_at "binaryOp Mult float int") => `(tactic| (with_reducible refine' r_mul_fi ?x ?al ?au ?z ?nl ?nu ?_; (case x => walk_at "m.hx"); (case al => walk_at "m.bnd"); (case au => walk_at "m.bnd"); (case z => walk_at "m.bnd"); (case nl => walk_at "m.bnd"); (case nu => walk_at "m.bnd"); k_whole; (try dsimp only)))
local macro_rules | `(tactic| walk_at "binaryOp Add float float") => `(tactic| (with_reducible refine' r_add_ff ?x ?y ?al ?au ?bl ?bu ?_; (case x => walk_at "m.hx"); (case y => walk_at "m.hx"); (case al => walk_at "m.bnd"); (case au => walk_at "m.bnd"); (case bl => walk_at "m.bnd"); (case bu => walk_at "m.bnd"); k_whole; (try dsimp only)))
local macro_rules | `(tactic| walk_at "binaryOp Sub float float") => `(tactic| (with_reducible refine' r_sub_ff ?x ?y ?al ?au ?bl ?bu ?_; (case x => walk_at "m.hx"); (case y => walk_at "m.hx"); (case al => walk_at "m.bnd"); (case au => walk_at "m.bnd"); (case bl => walk_at "m.bnd"); (case bu => walk_at "m.bnd"); k_whole; (try dsimp only)))
local macro_rules | `(tactic| walk_at "binaryOp Div float int") => `(tactic| (with_reducible refine' r_div_fi rfl ?x ?z ?nl ?nu ?_; (case x => walk_at "m.hx"); (case z => walk_at "m.bnd"); (case nl => walk_at "m.bnd"); (case nu => walk_at "m.bnd"); k_whole; (try dsimp only)))
local macro_rules | `(tactic| walk_at "binaryOp Div int int") => `(tactic| (with_reducible refine' r_div_ii rfl ?z ?nl ?nu ?_; (case z => walk_at "m.bnd"); (case nl => walk_at "m.bnd"); (case nu => walk_at "m.bnd"); k_whole; (try dsimp only)))
local macro_rules | `(tactic| walk_at "binaryOp Mod float int") => `(tactic| (with_reducible refine' r_mod_fi rfl ?x ?al ?au ?z ?nl ?nu ?_; (case x => walk_at "m.hx"); (case al => walk_at "m.bnd"); (case au => walk_at "m.bnd"); (case z => walk_at "m.bnd"); (case nl => walk_at "m.bnd"); (case nu => walk_at "m.bnd"); k_whole; (try dsimp only)))
local macro_rules | `(tactic| walk_at "call builtin:math.floor") => `(tactic| first
  | (with_reducible refine' r_floor_div rfl ?al ?au ?z ?n ?_; (case al => walk_at "m.bnd"); (case au => walk_at "m.bnd"); (case z => walk_at "m.bnd"); (case n => walk_at "m.bnd"); k_whole; (try dsimp only))
  | (with_reducible refine' r_floor_ii rfl ?al ?au ?z ?n ?_; (case al => walk_at "m.bnd"); (case au => walk_at "m.bnd"); (case z => walk_at "m.bnd"); (case n => walk_at "m.bnd"); k_whole; (try dsimp only))
  | (with_reducible refine' r_floor_m rfl ?m1 ?m2 ?j1 ?j2 ?d1 ?d2 ?_; (case m1 => walk_at "m.bnd"); (case m2 => walk_at "m.bnd"); (case j1 => walk_at "m.bnd"); (case j2 => walk_at "m.bnd"); (case d1 => walk_at "m.bnd"); (case d2 => walk_at "m.bnd"); k_whole; (try dsimp only))
  | (with_reducible refine' r_floor_H rfl ?x ?al ?au ?_; (case x => walk_at "m.hx"); (case al => walk_at "m.bnd"); (case au => walk_at "m.bnd"); k_whole; (try dsimp only)))
local macro_rules | `(tactic| walk_at "call builtin:math.trunc") => `(tactic| (with_reducible refine' r_trunc_H rfl ?x ?z ?al ?au ?_; (case x => walk_at "m.hx"); (case z => walk_at "m.bnd"); (case al => walk_at "m.bnd"); (case au => walk_at "m.bnd"); k_whole; (try dsimp only)))
local macro_rules | `(tactic| walk_at "call type:int") => `(tactic| (with_reducible refine' r_int_H rfl ?x ?z ?al ?au ?_; (case x => walk_at "m.hx"); (case z => walk_at "m.bnd"); (case al => walk_at "m.bnd"); (case au => walk_at "m.bnd"); k_whole; (try dsimp only)))
local macro_rules | `(tactic| walk_at "compareOp Lt float int") => `(tactic| (with_reducible refine' r_lt_fi ?x ?al ?au ?_; (case x => walk_at "m.hx"); (case al => walk_at "m.bnd"); (case au => walk_at "m.bnd"); k_whole; (try dsimp only)))
local macro_rules | `(tactic| walk_at "compareOp Eq float int") => `(tactic| (with_reducible refine' r_eq_fi ?x ?al ?au ?_; (case x => walk_at "m.hx"); (case al => walk_at "m.bnd"); (case au => walk_at "m.bnd"); k_whole; (try dsimp only)))
local macro_rules | `(tactic| walk_at "compareOp NotEq float int") => `(tactic| (with_reducible refine' r_ne_fi ?x ?al ?au ?_; (case x => walk_at "m.hx"); (case al => walk_at "m.bnd"); (case au => walk_at "m.bnd"); k_whole; (try dsimp only)))
local macro_rules | `(tactic| walk_at "compareOp Eq float float") => `(tactic| (with_reducible refine' r_eq_ff ?x ?y ?al ?au ?bl ?bu ?_; (case x => walk_at "m.hx"); (case y => walk_at "m.hx"); (case al => walk_at "m.bnd"); (case au => walk_at "m.bnd"); (case bl => walk_at "m.bnd"); (case bu => walk_at "m.bnd"); k_whole; (try dsimp only)))
local macro_rules | `(tactic| walk_at "compareOp NotEq float float") => `(tactic| (with_reducible refine' r_ne_ff ?x ?y ?al ?au ?bl ?bu ?_; (case x => walk_at "m.hx"); (case y => walk_at "m.hx"); (case al => walk_at "m.bnd"); (case au => walk_at "m.bnd"); (case bl => walk_at "m.bnd"); (case bu => walk_at "m.bnd"); k_whole; (try dsimp only)))
local macro_rules | `(tactic| walk_at "truthy float") => `(tactic| (with_reducible refine' r_truthy ?x ?al ?au ?_; (case x => walk_at "m.hx"); (case al => walk_at "m.bnd"); (case au => walk_at "m.bnd"); k_whole; (try dsimp only)))
-- // and % by a positive divisor: / and % of Int
local macro_rules | `(tactic| walk_at "binaryOp Mod int int") => `(tactic| (with_reducible refine' r_mod_ii ?z ?_; (case z => first | decide | walk_at "m.bnd"); k_whole; (try dsimp only)))
local macro_rules | `(tactic| walk_at "binaryOp FloorDiv int int") => `(tactic| (with_reducible refine' r_fdiv_ii ?z ?y ?_; (case z => first | decide | walk_at "m.bnd"); (case y => first | decide | walk_at "m.bnd"); k_whole; (try dsimp only)))

local macro_rules | `(tactic| walk_at "m.ints") => `(tactic| first | exact IntsAre.nil | (apply IntsAre.cons; walk_at "m.ints"))
local macro_rules | `(tactic| walk_at "m.any") => `(tactic| (all_goals (intro hP9; (simp only [anyP, or_false] at hP9); (try dsimp only))))
local macro_rules | `(tactic| walk_at "compareOp In int ref") => `(tactic| (k_dflt first
  | (refine' r_in_T ?N ?m ?i ?_ ?_; (case N => k_asm); (case m => k_mem); (case i => walk_at "m.ints"))
  | (refine' r_in_L ?N ?m ?i ?_ ?_; (case N => k_asm); (case m => k_mem); (case i => walk_at "m.ints"))
  | (refine' r_in_K ?F ?X ?l ?i ?_ ?_; (case F => k_asm); (case X => k_asm); (case l => k_is); (case i => walk_at "m.ints"))); walk_at "m.any")
-- no joining of a call's ways: our claims do
local macro_rules | `(tactic| walk_at "eval Call") => `(tactic| (k_dflt (refine Call_ ?_)))
-- a name: the module's (but for «leap», a local of from_jd too), else a local's value
local macro_rules | `(tactic| walk_at "m.glob") => `(tactic| (
  (fail_if_success (with_reducible show wpAny _ _ (eval (Expr.Name (Str.ofString "leap") _) _) _ _ _));
  refine' q_glob ?F ?X ?T ?e ?_ ?a ?b ?d; (case F => k_asm); (case X => k_asm); (case T => k_asm); (case e => k_is); (case a => kernel_rfl); (case b => kernel_rfl); (case d => kernel_rfl); k_whole))
local macro_rules | `(tactic| walk_at "m.boot") => `(tactic| (
  refine' q_boot ?F ?X ?T ?e ?v ?n ?_ ?a ?b ?d; (case F => k_asm); (case X => k_asm); (case T => k_asm); (case e => k_is); (case v => k_dflt boot_fast); (case n => decide); (case a => kernel_rfl); (case b => kernel_rfl); (case d => kernel_rfl); k_whole))
local macro_rules | `(tactic| walk_at "m.loc") => `(tactic| (
  refine' q_loc ?F ?v ?_ ?a ?b ?d; (case F => k_dflt k_asm); (case v => k_dflt rfl); (case a => kernel_rfl); (case b => kernel_rfl); (case d => kernel_rfl); k_whole))
local macro_rules | `(tactic| walk_at "eval Name") => `(tactic| (k_here; first
  | (with_reducible walk_at "m.glob")
  | (with_reducible walk_at "m.loc")
  | (with_reducible walk_at "m.boot")))

local macro_rules | `(tactic| walk_at "m.useB") => `(tactic| (intro h9 tk9 F9 N9; refine ⟨fun hP9 => ?_, fun hP9 => ?_⟩ <;> (try dsimp only) <;> (try k_fold)))
local macro_rules | `(tactic| walk_at "m.useV") => `(tactic| (intro t9 h9 tk9 v9 hv9 F9 N9; (try dsimp only); (try k_fold)))
local macro_rules | `(tactic| walk_at "call ref") => `(tactic| (k_here; (with_reducible show wpAny _ _ (call (Value.ref 57) [Value.int _ _]) _ _ _); k_dflt (refine' use_cl (isleap_ok _ _ _ _) ?k1 ?k2 ?k3 ?k4 ?k5 ?kK ?kd ?ku ?_; walk_at "m.prem"; walk_at "m.useB")))


local macro_rules | `(tactic| walk_at "call ref") => `(tactic| (k_here; (with_reducible show wpAny _ _ (call (Value.ref 64) [Value.int _ _, Value.int _ _, Value.int _ _]) _ _ _); k_dflt (refine' use_cl (legal_ok _ _ _ _ _ _ _ _ ?dom) ?k1 ?k2 ?k3 ?k4 ?k5 ?kK ?kd ?ku ?_; (case dom => first | assumption | (unfold DayOk; omega)); walk_at "m.prem"; (intro t9 h9 tk9 F9 N9; (try dsimp only); (try k_fold)))))


local macro_rules | `(tactic| walk_at "call ref") => `(tactic| (k_here; (with_reducible show wpAny _ _ (call (Value.ref 71) [Value.int _ _, Value.int _ _, Value.int _ _]) _ _ _); k_dflt (refine' use_cl (gtojd_ok _ _ _ _ _ _ _ _ ?dom1 ?dom2 ?dom3) ?k1 ?k2 ?k3 ?k4 ?k5 ?kK ?kd ?ku ?_; (case dom1 => first | with_reducible assumption | decide | (refine ⟨?_, ?_⟩ <;> walk_at "m.bnd")); (case dom2 => first | with_reducible assumption | decide | (refine ⟨?_, ?_⟩ <;> walk_at "m.bnd")); (case dom3 => first | assumption | (unfold DayOk; omega)); walk_at "m.prem"; walk_at "m.useV")))

local macro_rules | `(tactic| walk_at "m.useD") => `(tactic| (intro h9 tk9 x9 y9 mo9 d9 t91 t92 t93 hD9 F9 N9; (have hD91 := hD9.1); (have hD92 := hD9.2.1); (have hD93 := hD9.2.2.1); (try dsimp only); (try k_fold)))
local macro_rules | `(tactic| walk_at "call ref") => `(tactic| (k_here; (with_reducible show wpAny _ _ (call (Value.ref 78) [Value.float _ _]) _ _ _); k_dflt (refine' use_cl (fromjd_ok _ _ _ _ _ ?hx ?dom1 ?dom2 ?dom3) ?k1 ?k2 ?k3 ?k4 ?k5 ?kK ?kd ?ku ?_; (case hx => walk_at "m.hx"); (case dom1 => walk_at "m.bnd"); (case dom2 => walk_at "m.bnd"); (case dom3 => walk_at "m.bnd"); walk_at "m.prem"; walk_at "m.useD")))

local macro_rules | `(tactic| walk_at "call ref") => `(tactic| (k_here; (with_reducible show wpAny _ _ (call (Value.ref 85) [Value.int _ _]) _ _ _); k_dflt (refine' use_cl (leap_ok _ _ _ _) ?k1 ?k2 ?k3 ?k4 ?k5 ?kK ?kd ?ku ?_; walk_at "m.prem"; walk_at "m.useB")))

local macro_rules | `(tactic| walk_at "call ref") => `(tactic| (k_here; (with_reducible show wpAny _ _ (call (Value.ref 92) [Value.int _ _]) _ _ _); k_dflt (refine' use_cl (months_ok _ _ _ _) ?k1 ?k2 ?k3 ?k4 ?k5 ?kK ?kd ?ku ?_; walk_at "m.prem"; walk_at "m.useV")))
local macro_rules | `(tactic| walk_at "call ref") => `(tactic| (k_here; (with_reducible show wpAny _ _ (call (Value.ref 99) [Value.int _ _]) _ _ _); k_dflt (refine' use_cl (delay1_ok _ _ _ _ ?dom1) ?k1 ?k2 ?k3 ?k4 ?k5 ?kK ?kd ?ku ?_; (case dom1 => first | with_reducible assumption | decide | (refine ⟨?_, ?_⟩ <;> walk_at "m.bnd")); walk_at "m.prem"; walk_at "m.useV")))

local macro_rules | `(tactic| walk_at "call ref") => `(tactic| (k_here; (with_reducible show wpAny _ _ (call (Value.ref 106) [Value.int _ _]) _ _ _); k_dflt (refine' use_cl (delay2_ok _ _ _ _ ?dom1) ?k1 ?k2 ?k3 ?k4 ?k5 ?kK ?kd ?ku ?_; (case dom1 => first | with_reducible assumption | decide | (refine ⟨?_, ?_⟩ <;> walk_at "m.bnd")); walk_at "m.prem"; walk_at "m.useV")))

local macro_rules | `(tactic| walk_at "call ref") => `(tactic| (k_here; (with_reducible show wpAny _ _ (call (Value.ref 134) [Value.int _ _, Value.int 7 _, Value.int 1 _]) _ _ _); k_dflt (refine' use_cl (th7_ok _ _ _ _ _ _ ?dom1) ?k1 ?k2 ?k3 ?k4 ?k5 ?kK ?kd ?ku ?_; (case dom1 => first | with_reducible assumption | decide | (refine ⟨?_, ?_⟩ <;> walk_at "m.bnd")); walk_at "m.prem"; walk_at "m.useV")))

local macro_rules | `(tactic| walk_at "call ref") => `(tactic| (k_here; (with_reducible show wpAny _ _ (call (Value.ref 113) [Value.int _ _]) _ _ _); k_dflt (refine' use_cl (yd_ok _ _ _ _ ?dom1) ?k1 ?k2 ?k3 ?k4 ?k5 ?kK ?kd ?ku ?_; (case dom1 => first | with_reducible assumption | decide | (refine ⟨?_, ?_⟩ <;> walk_at "m.bnd")); walk_at "m.prem"; walk_at "m.useV")))

local macro_rules | `(tactic| walk_at "call ref") => `(tactic| (k_here; (with_reducible show wpAny _ _ (call (Value.ref 120) [Value.int _ _, Value.int _ _]) _ _ _); k_dflt (refine' use_cl (mlen_ok _ _ _ _ _ _ ?dom1 ?dom2) ?k1 ?k2 ?k3 ?k4 ?k5 ?kK ?kd ?ku ?_; (case dom1 => first | with_reducible assumption | decide | (refine ⟨?_, ?_⟩ <;> walk_at "m.bnd")); (case dom2 => first | with_reducible assumption | decide | (refine ⟨?_, ?_⟩ <;> walk_at "m.bnd")); walk_at "m.prem"; walk_at "m.useV")))

local macro_rules | `(tactic| walk_at "m.useM") => `(tactic| (intro t9 h9 tk9 v9 hv9 F9 N9; (try simp only [Nat.zero_add, Nat.reduceAdd, Int.natCast_zero, Int.natCast_one, Int.cast_ofNat_Int, Int.reduceAdd, Int.add_zero] at hv9); (try dsimp only); (try k_fold)))
local macro_rules | `(tactic| walk_at "call ref") => `(tactic| (k_here; (with_reducible show wpAny _ _ (call (Value.ref 127) [Value.int _ _, Value.int _ _]) _ _ _); k_dflt (refine' use_cl (mdays_ok _ _ _ _ _ _ ?dom1 ?dom2) ?k1 ?k2 ?k3 ?k4 ?k5 ?kK ?kd ?ku ?_; (case dom1 => first | with_reducible assumption | decide | (refine ⟨?_, ?_⟩ <;> walk_at "m.bnd")); (case dom2 => first | with_reducible assumption | decide | (refine ⟨?_, ?_⟩ <;> walk_at "m.bnd")); walk_at "m.prem"; walk_at "m.useM")))

local macro_rules | `(tactic| walk_at "call ref") => `(tactic| (k_here; (with_reducible show wpAny _ _ (call (Value.ref 134) [Value.int _ _, Value.int _ _, Value.int _ _]) _ _ _); k_dflt (refine' use_cl (th_ok _ _ _ _ _ _ _ _ ?dom1 ?dom2 ?dom3) ?k1 ?k2 ?k3 ?k4 ?k5 ?kK ?kd ?ku ?_; (case dom1 => first | with_reducible assumption | decide | (refine ⟨?_, ?_⟩ <;> walk_at "m.bnd")); (case dom2 => first | with_reducible assumption | decide | (refine ⟨?_, ?_⟩ <;> walk_at "m.bnd")); (case dom3 => first | with_reducible assumption | decide | (refine ⟨?_, ?_⟩ <;> walk_at "m.bnd")); walk_at "m.prem"; walk_at "m.useV")))

-- a loop over a tuple of two, the ledger's tail a letter
local macro_rules | `(tactic| walk_at "pyIter ref") => `(tactic| (k_here; (with_reducible show wpAny _ _ (pyIter (Value.ref _)) (fun it s₂ => TurnsAt _ _ _ _ _ _ _ _ _ it s₂) _ _); (rename Fr _ _ _ _ => lF'); (rename News _ _ _ _ => lN'); (with_unfolding_all refine iter_tupTurns (vs := [_, _]) (by rfl) lF' lN' (List.Mem.head _) (by rfl) (by rfl) ?_); clear lF'; intro i' l1))
local macro_rules | `(tactic| walk_at "m.mem") => `(tactic| first | exact List.Mem.head _ | (refine List.mem_cons_of_mem _ ?_; walk_at "m.mem"))
local macro_rules | `(tactic| walk_at "UnrEndW") => `(tactic| ((rename (∀ p ∈ _, _ < _) => hlt9); (refine unr_end1 (by assumption) (by assumption) hlt9 (by walk_at "m.mem") (by (intro qN hN; repeat (first | exact hN | refine List.mem_cons_of_mem _ ?_))) ⟨And.intro (List.Mem.head _) trivial, ?_⟩)))

/-- twice the Julian day of a Hebrew date's midnight, as the project reckons it -/
def hjd (y m d : Int) : Int := nyH y + 2 * d + 2 * offs y m
/-- the day that to_jd_gregorianyear finds -/
def Found (gy m d v : Int) : Prop := (InY (hjd (gy + 3760) m d) gy ∧ v = hjd (gy + 3760) m d) ∨ (¬ InY (hjd (gy + 3760) m d) gy ∧ InY (hjd (gy + 3761) m d) gy ∧ v = hjd (gy + 3761) m d)
def Lost (gy m d : Int) : Prop := ¬ InY (hjd (gy + 3760) m d) gy ∧ ¬ InY (hjd (gy + 3761) m d) gy
abbrev JdOk (v : Int) : Prop := 2500000 < v ∧ v < 11950000 ∧ v % 2 = 1

theorem found1 {gy m d vA v y mo dd : Int} {r : Prop} (hv : v = gjd y mo dd ∧ r) (hD : GDate vA y mo dd) (h1 : vA = nyH (gy + 3760) + 2 * d + 2 * offs (gy + 3760) m ∧ 2500000 < vA ∧ vA < 11950000 ∧ vA % 2 = 1) (hy : y = gy) :
    Found gy m d v ∧ 2500000 < v ∧ v < 11950000 ∧ v % 2 = 1 := by
  obtain ⟨rfl, _⟩ := hv
  have e : gjd y mo dd = vA := hD.2.2.2
  have a1 : vA = hjd (gy + 3760) m d := h1.1
  subst hy
  rw [e]
  exact ⟨.inl ⟨a1 ▸ date_in hD, a1⟩, h1.2⟩
theorem found2 {gy m d vA vB v y mo dd y1 mo1 dd1 : Int} {r : Prop} (hv : v = gjd y mo dd ∧ r) (hD : GDate vB y mo dd) (h2 : vB = nyH (gy + 3760 + 1) + 2 * d + 2 * offs (gy + 3760 + 1) m ∧ 2500000 < vB ∧ vB < 11950000 ∧ vB % 2 = 1) (hy : y = gy)
    (h1 : vA = nyH (gy + 3760) + 2 * d + 2 * offs (gy + 3760) m ∧ 2500000 < vA ∧ vA < 11950000 ∧ vA % 2 = 1) (hD1 : GDate vA y1 mo1 dd1) (hn : y1 ≠ gy) :
    Found gy m d v ∧ 2500000 < v ∧ v < 11950000 ∧ v % 2 = 1 := by
  obtain ⟨rfl, _⟩ := hv
  have e : gjd y mo dd = vB := hD.2.2.2
  have e1 : gy + 3760 + 1 = gy + 3761 := by omega
  rw [e1] at h2
  have a1 : vA = hjd (gy + 3760) m d := h1.1
  have a2 : vB = hjd (gy + 3761) m d := h2.1
  subst hy
  rw [e]
  exact ⟨.inr ⟨fun c => hn ((year_iff hD1).mp (a1 ▸ c)), a2 ▸ date_in hD, a2⟩, h2.2⟩
theorem lost2 {gy m d vA vB y mo dd y1 mo1 dd1 : Int} {r r' : Prop} (h2 : vB = nyH (gy + 3760 + 1) + 2 * d + 2 * offs (gy + 3760 + 1) m ∧ r) (hD : GDate vB y mo dd) (hy : y ≠ gy)
    (h1 : vA = nyH (gy + 3760) + 2 * d + 2 * offs (gy + 3760) m ∧ r') (hD1 : GDate vA y1 mo1 dd1) (hn : y1 ≠ gy) : Lost gy m d := by
  have e1 : gy + 3760 + 1 = gy + 3761 := by omega
  rw [e1] at h2
  have a1 : vA = hjd (gy + 3760) m d := h1.1
  have a2 : vB = hjd (gy + 3761) m d := h2.1
  exact ⟨fun c => hn ((year_iff hD1).mp (a1 ▸ c)), fun c => hy ((year_iff hD).mp (a2 ▸ c))⟩

theorem gy_ok (w : World) (news : List (Addr × Obj)) (gy mo d : Int) (t t2 t3 : Tok) (hy : 1 ≤ gy ∧ gy ≤ 9999) (hm : 1 ≤ mo ∧ mo ≤ 13) (hd1 : 1 ≤ d ∧ d ≤ 31) :
    ClE w 141 news [.int gy t, .int mo t2, .int d t3] 8 64 (Lost gy mo d) (RetH news (fun v => Found gy mo d v ∧ 2500000 < v ∧ v < 11950000 ∧ v % 2 = 1)) := by
  unfold ClE RetH RaisesV
  k_fill
  intro p loose mean mg mb dp un gd cn cs a ccd cl outer A₀ base h₀ L m s Q E B F X N T hk hd' hu hE hret
  refine wpAny_call ?_
  k_dflt cell_enter
  k_steps
  all_goals first
    | (refine endH (E := E) hret (by k_asm) (by walk_at "m.news") ?_; first
        | exact found1 (by assumption) (by assumption) (by assumption) (by assumption)
        | exact found2 (by assumption) (by assumption) (by assumption) (by assumption) (by assumption) (by assumption) (by assumption))
    | exact hE (lost2 (by assumption) (by assumption) (by assumption) (by assumption) (by assumption) (by assumption)) _ _ _ _ (by assumption) (raised_drop (by assumption) (by (intro qN hN; repeat (first | exact hN | refine List.mem_cons_of_mem _ ?_)))) (by assumption)

end Mine
end

section
open PySem PySem.W PyProof.Rows
set_option maxRecDepth 100000
set_option maxHeartbeats 8000000
set_option linter.unusedVariables false
set_option pp.maxSteps 3000
namespace Mine
theorem top_off_G9 : True := by
  w_top off
  trivial
open PySem PySem.Calls PyProof.Rows
-- small words of ours, as lines of walk_at
local macro_rules | `(tactic| walk_at "m.bools") => `(tactic| (simp only [decide_eq_true_eq, decide_eq_false_iff_not, Bool.not_eq_true, Bool.not_eq_false, Bool.and_eq_true, Bool.or_eq_true, Bool.not_eq_true', Bool.not_eq_false', beq_iff_eq, bne_iff_ne, beq_eq_false_iff_ne, bne_eq_false_iff_eq, Bool.and_eq_false_iff, Bool.or_eq_false_iff, ne_eq, Decidable.not_not] at *))
local macro_rules | `(tactic| walk_at "m.bnd") => `(tactic| first | omega | decide | ((try walk_at "m.bools"); omega) | (exfalso; (try walk_at "m.bools"); simp_all; omega))
local macro_rules | `(tactic| walk_at "m.hx") => `(tactic| first | with_reducible exact rfl | exact litH | exact litG | exact litHalf)
local macro_rules | `(tactic| walk_at "m.news") => `(tactic| first | k_asm | (refine' cb_drop ?cbN ?cbS; (case cbN => assumption); (case cbS => (intro qN hN; repeat (first | exact hN | refine List.mem_cons_of_mem _ ?_)))))
-- use a claim at a call
local macro_rules | `(tactic| walk_at "m.prem") => `(tactic| (
  (case k1 => k_asm); (case k2 => k_asm); (case k3 => k_asm); (case k4 => k_asm); (case k5 => k_asm);
  (case kK => first | exact rfl | assumption); (case kd => ktr_room); (case ku => ktr_units)))

-- floats
local macro_rules | `(tactic| walk_at "binaryOp Add float int") => `(tactic| first
  | (with_reducible refine' r_add_fi ?x ?al ?au ?nl ?nu ?_; (case x => walk_at "m.hx"); (case al => walk_at "m.bnd"); (case au => walk_at "m.bnd"); (case nl => walk_at "m.bnd"); (case nu => walk_at "m.bnd"); k_whole; (try dsimp only))
  | (with_reducible refine' add_fi_fits ?n ?_; (case n => exact fitsH (by walk_at "m.bnd")); k_whole; (try dsimp only)))
local macro_rules | `(tactic| walk_at "inplaceOp Add float int") => `(tactic| (with_reducible refine' r_iadd_fi rfl ?x ?al ?au ?nl ?nu ?_; (case x => walk_at "m.hx"); (case al => walk_at "m.bnd"); (case au => walk_at "m.bnd"); (case nl => walk_at "m.bnd"); (case nu => walk_at "m.bnd"); k_whole; (try dsimp only)))
local macro_rules | `(tactic| walk_at "binaryOp Add int float") => `(tactic| (with_reducible refine' r_add_if ?x ?al ?au ?nl ?nu ?_; (case x => walk_at "m.hx"); (case al => walk_at "m.bnd"); (case au => walk_at "m.bnd"); (case nl => walk_at "m.bnd"); (case nu => walk_at "m.bnd"); k_whole; (try dsimp only)))
local macro_rules | `(tactic| walk_at "binaryOp Sub float int") => `(tactic| (with_reducible refine' r_sub_fi ?x ?al ?au ?nl ?nu ?_; (case x => walk_at "m.hx"); (case al => walk_at "m.bnd"); (case au => walk_at "m.bnd"); (case nl => walk_at "m.bnd"); (case nu => walk_at "m.bnd"); k_whole; (try dsimp only)))
local macro_rules | `(tactic| walk_at "binaryOp Sub int float") => `(tactic| (with_reducible refine' r_sub_if ?x ?al ?au ?nl ?nu ?_; (case x => walk_at "m.hx"); (case al => walk_at "m.bnd"); (case au => walk_at "m.bnd"); (case nl => walk_at "m.bnd"); (case nu => walk_at "m.bnd"); k_whole; (try dsimp only)))
local macro_rules | `(tactic| walk_at "binaryOp Mult float int") => `(tactic| (with_reducible refine' r_mul_fi ?x ?al ?au ?z ?nl ?nu ?_; (case x => walk_at "m.hx"); (case al => walk_at "m.bnd"); (case au => walk_at "m.bnd"); (case z => walk_at "m.bnd"); (case nl => walk_at "m.bnd"); (case nu => walk_at "m.bnd"); k_whole; (try dsimp only)))
local macro_rules | `(tactic| walk_at "binaryOp Add float float") => `(tactic| (with_reducible refine' r_add_ff ?x ?y ?al ?au ?bl ?bu ?_; (case x => walk_at "m.hx"); (case y => walk_at "m.hx"); (case al => walk_at "m.bnd"); (case au => walk_at "m.bnd"); (case bl => walk_at "m.bnd"); (case bu => walk_at "m.bnd"); k_whole; (try dsimp only)))
local macro_rules | `(tactic| walk_at "binaryOp Sub float float") => `(tactic| (with_reducible refine' r_sub_ff ?x ?y ?al ?au ?bl ?bu ?_; (case x => walk_at "m.hx"); (case y => walk_at "m.hx"); (case al => walk_at "m.bnd"); (case au => walk_at "m.bnd"); (case bl => walk_at "m.bnd"); (case bu => walk_at "m.bnd"); k_whole; (try dsimp only)))
local macro_rules | `(tactic| walk_at "binaryOp Div float int") => `(tactic| (with_reducible refine' r_div_fi rfl ?x ?z ?nl ?nu ?_; (case x => walk_at "m.hx"); (case z => walk_at "m.bnd"); (case nl => walk_at "m.bnd"); (case nu => walk_at "m.bnd"); k_whole; (try dsimp only)))
local macro_rules | `(tactic| walk_at "binaryOp Div int int") => `(tactic| (with_reducible refine' r_div_ii rfl ?z ?nl ?nu ?_; (case z => walk_at "m.bnd"); (case nl => walk_at "m.bnd"); (case nu => walk_at "m.bnd"); k_whole; (try dsimp only)))
local macro_rules | `(tactic| walk_at "binaryOp Mod float int") => `(tactic| (with_reducible refine' r_mod_fi rfl ?x ?al ?au ?z ?nl ?nu ?_; (case x => walk_at "m.hx"); (case al => walk_at "m.bnd"); (case au => walk_at "m.bnd"); (case z => walk_at "m.bnd"); (case nl => walk_at "m.bnd"); (case nu => walk_at "m.bnd"); k_whole; (try dsimp only)))
local macro_rules | `(tactic| walk_at "call builtin:math.floor") => `(tactic| first
  | (with_reducible refine' r_floor_div rfl ?al ?au ?z ?n ?_; (case al => walk_at "m.bnd"); (case au => walk_at "m.bnd"); (case z => walk_at "m.bnd"); (case n => walk_at "m.bnd"); k_whole; (try dsimp only))
  | (with_reducible refine' r_floor_ii rfl ?al ?au ?z ?n ?_; (case al => walk_at "m.bnd"); (case au => walk_at "m.bnd"); (case z => walk_at "m.bnd"); (case n => walk_at "m.bnd"); k_whole; (try dsimp only))
  | (with_reducible refine' r_floor_m rfl ?m1 ?m2 ?j1 ?j2 ?d1 ?d2 ?_; (case m1 => walk_at "m.bnd"); (case m2 => walk_at "m.bnd"); (case j1 => walk_at "m.bnd"); (case j2 => walk_at "m.bnd"); (case d1 => walk_at "m.bnd"); (case d2 => walk_at "m.bnd"); k_whole; (try dsimp only))
  | (with_reducible refine' r_floor_H rfl ?x ?al ?au ?_; (case x => walk_at "m.hx"); (case al => walk_at "m.bnd"); (case au => walk_at "m.bnd"); k_whole; (try dsimp only)))
local macro_rules | `(tactic| walk_at "call builtin:math.trunc") => `(tactic| (with_reducible refine' r_trunc_H rfl ?x ?z ?al ?au ?_; (case x => walk_at "m.hx"); (case z => walk_at "m.bnd"); (case al => walk_at "m.bnd"); (case au => walk_at "m.bnd"); k_whole; (try dsimp only)))
local macro_rules | `(tactic| walk_at "call type:int") => `(tactic| (with_reducible refine' r_int_H rfl ?x ?z ?al ?au ?_; (case x => walk_at "m.hx"); (case z => walk_at "m.bnd"); (case al => walk_at "m.bnd"); (case au => walk_at "m.bnd"); k_whole; (try dsimp only)))
local macro_rules | `(tactic| walk_at "compareOp Lt float int") => `(tactic| (with_reducible refine' r_lt_fi ?x ?al ?au ?_; (case x => walk_at "m.hx"); (case al => walk_at "m.bnd"); (case au => walk_at "m.bnd"); k_whole; (try dsimp only)))
local macro_rules | `(tactic| walk_at "compareOp Eq float int") => `(tactic| (with_reducible refine' r_eq_fi ?x ?al ?au ?_; (case x => walk_at "m.hx"); (case al => walk_at "m.bnd"); (case au => walk_at "m.bnd"); k_whole; (try dsimp only)))
local macro_rules | `(tactic| walk_at "compareOp NotEq float int") => `(tactic| (with_reducible refine' r_ne_fi ?x ?al ?au ?_; (case x => walk_at "m.hx"); (case al => walk_at "m.bnd"); (case au => walk_at "m.bnd"); k_whole; (try dsimp only)))
local macro_rules | `(tactic| walk_at "compareOp Eq float float") => `(tactic| (with_reducible refine' r_eq_ff ?x ?y ?al ?au ?bl ?bu ?_; (case x => walk_at "m.hx"); (case y => walk_at "m.hx"); (case al => walk_at "m.bnd"); (case au => walk_at "m.bnd"); (case bl => walk_at "m.bnd"); (case bu => walk_at "m.bnd"); k_whole; (try dsimp only)))
local macro_rules | `(tactic| walk_at "compareOp NotEq float float") => `(tactic| (with_reducible refine' r_ne_ff ?x ?y ?al ?au ?bl ?bu ?_; (case x => walk_at "m.hx"); (case y => walk_at "m.hx"); (case al => walk_at "m.bnd"); (case au => walk_at "m.bnd"); (case bl => walk_at "m.bnd"); (case bu => walk_at "m.bnd"); k_whole; (try dsimp only)))
local macro_rules | `(tactic| walk_at "truthy float") => `(tactic| (with_reducible refine' r_truthy ?x ?al ?au ?_; (case x => walk_at "m.hx"); (case al => walk_at "m.bnd"); (case au => walk_at "m.bnd"); k_whole; (try dsimp only)))
-- // and % by a positive divisor: / and % of Int
local macro_rules | `(tactic| walk_at "binaryOp Mod int int") => `(tactic| (with_reducible refine' r_mod_ii ?z ?_; (case z => first | decide | walk_at "m.bnd"); k_whole; (try dsimp only)))
local macro_rules | `(tactic| walk_at "binaryOp FloorDiv int int") => `(tactic| (with_reducible refine' r_fdiv_ii ?z ?y ?_; (case z => first | decide | walk_at "m.bnd"); (case y => first | decide | walk_at "m.bnd"); k_whole; (try dsimp only)))

local macro_rules | `(tactic| walk_at "m.ints") => `(tactic| first | exact IntsAre.nil | (apply IntsAre.cons; walk_at "m.ints"))
local macro_rules | `(tactic| walk_at "m.any") => `(tactic| (all_goals (intro hP9; (simp only [anyP, or_false] at hP9); (try dsimp only))))
local macro_rules | `(tactic| walk_at "compareOp In int ref") => `(tactic| (k_dflt first
  | (refine' r_in_T ?N ?m ?i ?_ ?_; (case N => k_asm); (case m => k_mem); (case i => walk_at "m.ints"))
  | (refine' r_in_L ?N ?m ?i ?_ ?_; (case N => k_asm); (case m => k_mem); (case i => walk_at "m.ints"))
  | (refine' r_in_K ?F ?X ?l ?i ?_ ?_; (case F => k_asm); (case X => k_asm); (case l => k_is); (case i => walk_at "m.ints"))); walk_at "m.any")
-- no joining of a call's ways: our claims do
local macro_rules | `(tactic| walk_at "eval Call") => `(tactic| (k_dflt (refine Call_ ?_)))
-- a name: the module's (but for «leap», a local of from_jd too), else a local's value
local macro_rules | `(tactic| walk_at "m.glob") => `(tactic| (
  (fail_if_success (with_reducible show wpAny _ _ (eval (Expr.Name (Str.ofString "leap") _) _) _ _ _));
  refine' q_glob ?F ?X ?T ?e ?_ ?a ?b ?d; (case F => k_asm); (case X => k_asm); (case T => k_asm); (case e => k_is); (case a => kernel_rfl); (case b => kernel_rfl); (case d => kernel_rfl); k_whole))
local macro_rules | `(tactic| walk_at "m.boot") => `(tactic| (
  refine' q_boot ?F ?X ?T ?e ?v ?n ?_ ?a ?b ?d; (case F => k_asm); (case X => k_asm); (case T => k_asm); (case e => k_is); (case v => k_dflt boot_fast); (case n => decide); (case a => kernel_rfl); (case b => kernel_rfl); (case d => kernel_rfl); k_whole))
local macro_rules | `(tactic| walk_at "m.loc") => `(tactic| (
  refine' q_loc ?F ?v ?_ ?a ?b ?d; (case F => k_dflt k_asm); (case v => k_dflt rfl); (case a => kernel_rfl); (case b => kernel_rfl); (case d => kernel_rfl); k_whole))
local macro_rules | `(tactic| walk_at "eval Name") => `(tactic| (k_here; first
  | (with_reducible walk_at "m.glob")
  | (with_reducible walk_at "m.loc")
  | (with_reducible walk_at "m.boot")))

local macro_rules | `(tactic| walk_at "m.useB") => `(tactic| (intro h9 tk9 F9 N9; refine ⟨fun hP9 => ?_, fun hP9 => ?_⟩ <;> (try dsimp only) <;> (try k_fold)))
local macro_rules | `(tactic| walk_at "m.useV") => `(tactic| (intro t9 h9 tk9 v9 hv9 F9 N9; (try dsimp only); (try k_fold)))
local macro_rules | `(tactic| walk_at "call ref") => `(tactic| (k_here; (with_reducible show wpAny _ _ (call (Value.ref 57) [Value.int _ _]) _ _ _); k_dflt (refine' use_cl (isleap_ok _ _ _ _) ?k1 ?k2 ?k3 ?k4 ?k5 ?kK ?kd ?ku ?_; walk_at "m.prem"; walk_at "m.useB")))


local macro_rules | `(tactic| walk_at "call ref") => `(tactic| (k_here; (with_reducible show wpAny _ _ (call (Value.ref 64) [Value.int _ _, Value.int _ _, Value.int _ _]) _ _ _); k_dflt (refine' use_cl (legal_ok _ _ _ _ _ _ _ _ ?dom) ?k1 ?k2 ?k3 ?k4 ?k5 ?kK ?kd ?ku ?_; (case dom => first | assumption | (unfold DayOk; omega)); walk_at "m.prem"; (intro t9 h9 tk9 F9 N9; (try dsimp only); (try k_fold)))))


local macro_rules | `(tactic| walk_at "call ref") => `(tactic| (k_here; (with_reducible show wpAny _ _ (call (Value.ref 71) [Value.int _ _, Value.int _ _, Value.int _ _]) _ _ _); k_dflt (refine' use_cl (gtojd_ok _ _ _ _ _ _ _ _ ?dom1 ?dom2 ?dom3) ?k1 ?k2 ?k3 ?k4 ?k5 ?kK ?kd ?ku ?_; (case dom1 => first | with_reducible assumption | decide | (refine ⟨?_, ?_⟩ <;> walk_at "m.bnd")); (case dom2 => first | with_reducible assumption | decide | (refine ⟨?_, ?_⟩ <;> walk_at "m.bnd")); (case dom3 => first | assumption | (unfold DayOk; omega)); walk_at "m.prem"; walk_at "m.useV")))

local macro_rules | `(tactic| walk_at "m.useD") => `(tactic| (intro h9 tk9 x9 y9 mo9 d9 t91 t92 t93 hD9 F9 N9; (have hD91 := hD9.1); (have hD92 := hD9.2.1); (have hD93 := hD9.2.2.1); (try dsimp only); (try k_fold)))
local macro_rules | `(tactic| walk_at "call ref") => `(tactic| (k_here; (with_reducible show wpAny _ _ (call (Value.ref 78) [Value.float _ _]) _ _ _); k_dflt (refine' use_cl (fromjd_ok _ _ _ _ _ ?hx ?dom1 ?dom2 ?dom3) ?k1 ?k2 ?k3 ?k4 ?k5 ?kK ?kd ?ku ?_; (case hx => walk_at "m.hx"); (case dom1 => walk_at "m.bnd"); (case dom2 => walk_at "m.bnd"); (case dom3 => walk_at "m.bnd"); walk_at "m.prem"; walk_at "m.useD")))

local macro_rules | `(tactic| walk_at "call ref") => `(tactic| (k_here; (with_reducible show wpAny _ _ (call (Value.ref 85) [Value.int _ _]) _ _ _); k_dflt (refine' use_cl (leap_ok _ _ _ _) ?k1 ?k2 ?k3 ?k4 ?k5 ?kK ?kd ?ku ?_; walk_at "m.prem"; walk_at "m.useB")))

local macro_rules | `(tactic| walk_at "call ref") => `(tactic| (k_here; (with_reducible show wpAny _ _ (call (Value.ref 92) [Value.int _ _]) _ _ _); k_dflt (refine' use_cl (months_ok _ _ _ _) ?k1 ?k2 ?k3 ?k4 ?k5 ?kK ?kd ?ku ?_; walk_at "m.prem"; walk_at "m.useV")))
local macro_rules | `(tactic| walk_at "call ref") => `(tactic| (k_here; (with_reducible show wpAny _ _ (call (Value.ref 99) [Value.int _ _]) _ _ _); k_dflt (refine' use_cl (delay1_ok _ _ _ _ ?dom1) ?k1 ?k2 ?k3 ?k4 ?k5 ?kK ?kd ?ku ?_; (case dom1 => first | with_reducible assumption | decide | (refine ⟨?_, ?_⟩ <;> walk_at "m.bnd")); walk_at "m.prem"; walk_at "m.useV")))

local macro_rules | `(tactic| walk_at "call ref") => `(tactic| (k_here; (with_reducible show wpAny _ _ (call (Value.ref 106) [Value.int _ _]) _ _ _); k_dflt (refine' use_cl (delay2_ok _ _ _ _ ?dom1) ?k1 ?k2 ?k3 ?k4 ?k5 ?kK ?kd ?ku ?_; (case dom1 => first | with_reducible assumption | decide | (refine ⟨?_, ?_⟩ <;> walk_at "m.bnd")); walk_at "m.prem"; walk_at "m.useV")))

local macro_rules | `(tactic| walk_at "call ref") => `(tactic| (k_here; (with_reducible show wpAny _ _ (call (Value.ref 134) [Value.int _ _, Value.int 7 _, Value.int 1 _]) _ _ _); k_dflt (refine' use_cl (th7_ok _ _ _ _ _ _ ?dom1) ?k1 ?k2 ?k3 ?k4 ?k5 ?kK ?kd ?ku ?_; (case dom1 => first | with_reducible assumption | decide | (refine ⟨?_, ?_⟩ <;> walk_at "m.bnd")); walk_at "m.prem"; walk_at "m.useV")))

local macro_rules | `(tactic| walk_at "call ref") => `(tactic| (k_here; (with_reducible show wpAny _ _ (call (Value.ref 113) [Value.int _ _]) _ _ _); k_dflt (refine' use_cl (yd_ok _ _ _ _ ?dom1) ?k1 ?k2 ?k3 ?k4 ?k5 ?kK ?kd ?ku ?_; (case dom1 => first | with_reducible assumption | decide | (refine ⟨?_, ?_⟩ <;> walk_at "m.bnd")); walk_at "m.prem"; walk_at "m.useV")))

local macro_rules | `(tactic| walk_at "call ref") => `(tactic| (k_here; (with_reducible show wpAny _ _ (call (Value.ref 120) [Value.int _ _, Value.int _ _]) _ _ _); k_dflt (refine' use_cl (mlen_ok _ _ _ _ _ _ ?dom1 ?dom2) ?k1 ?k2 ?k3 ?k4 ?k5 ?kK ?kd ?ku ?_; (case dom1 => first | with_reducible assumption | decide | (refine ⟨?_, ?_⟩ <;> walk_at "m.bnd")); (case dom2 => first | with_reducible assumption | decide | (refine ⟨?_, ?_⟩ <;> walk_at "m.bnd")); walk_at "m.prem"; walk_at "m.useV")))

local macro_rules | `(tactic| walk_at "m.useM") => `(tactic| (intro t9 h9 tk9 v9 hv9 F9 N9; (try simp only [Nat.zero_add, Nat.reduceAdd, Int.natCast_zero, Int.natCast_one, Int.cast_ofNat_Int, Int.reduceAdd, Int.add_zero] at hv9); (try dsimp only); (try k_fold)))
local macro_rules | `(tactic| walk_at "call ref") => `(tactic| (k_here; (with_reducible show wpAny _ _ (call (Value.ref 127) [Value.int _ _, Value.int _ _]) _ _ _); k_dflt (refine' use_cl (mdays_ok _ _ _ _ _ _ ?dom1 ?dom2) ?k1 ?k2 ?k3 ?k4 ?k5 ?kK ?kd ?ku ?_; (case dom1 => first | with_reducible assumption | decide | (refine ⟨?_, ?_⟩ <;> walk_at "m.bnd")); (case dom2 => first | with_reducible assumption | decide | (refine ⟨?_, ?_⟩ <;> walk_at "m.bnd")); walk_at "m.prem"; walk_at "m.useM")))

local macro_rules | `(tactic| walk_at "call ref") => `(tactic| (k_here; (with_reducible show wpAny _ _ (call (Value.ref 134) [Value.int _ _, Value.int _ _, Value.int _ _]) _ _ _); k_dflt (refine' use_cl (th_ok _ _ _ _ _ _ _ _ ?dom1 ?dom2 ?dom3) ?k1 ?k2 ?k3 ?k4 ?k5 ?kK ?kd ?ku ?_; (case dom1 => first | with_reducible assumption | decide | (refine ⟨?_, ?_⟩ <;> walk_at "m.bnd")); (case dom2 => first | with_reducible assumption | decide | (refine ⟨?_, ?_⟩ <;> walk_at "m.bnd")); (case dom3 => first | with_reducible assumption | decide | (refine ⟨?_, ?_⟩ <;> walk_at "m.bnd")); walk_at "m.prem"; walk_at "m.useV")))

local macro_rules | `(tactic| walk_at "call ref") => `(tactic| (k_here; (with_reducible show wpAny _ _ (call (Value.ref 141) [Value.int _ _, Value.int _ _, Value.int _ _]) _ _ _); k_dflt (refine' use_clE (gy_ok _ _ _ _ _ _ _ _ ?dom1 ?dom2 ?dom3) ?k1 ?k2 ?k3 ?k4 ?k5 ?kK ?kd ?ku ?_ ?_; (case dom1 => first | with_reducible assumption | (refine ⟨?_, ?_⟩ <;> walk_at "m.bnd")); (case dom2 => first | with_reducible assumption | decide | (refine ⟨?_, ?_⟩ <;> walk_at "m.bnd")); (case dom3 => first | with_reducible assumption | decide | (refine ⟨?_, ?_⟩ <;> walk_at "m.bnd")); walk_at "m.prem"; rotate_left; walk_at "m.useV"; rotate_right; walk_at "m.useE")))
local macro_rules | `(tactic| walk_at "m.useE") => `(tactic| (intro hL9 g9 e9 h9 tk9 F9 R9 U9; (try dsimp only); (try k_fold)))


theorem jwday_ok (w : World) (news : List (Addr × Obj)) (x : UInt64) (v : Int) (t : Tok) (hx : x = H v) (h0 : 0 ≤ v) (h1 : v < 100000000) (ho : v % 2 = 1) :
    Cl w 49 news [.float x t] 1 8 (RetI news (fun r => r = (v + 1) / 2 % 7 ∧ 0 ≤ r ∧ r < 7)) := by
  unfold Cl RetI
  subst hx
  k_fill
  intro p loose mean mg mb dp un gd cn cs a ccd cl outer A₀ base h₀ L m s Q E B F X N T hk hd' hu hret
  refine wpAny_call ?_
  k_dflt cell_enter
  k_steps
  all_goals refine endI (E := E) hret (by k_asm) (by walk_at "m.news") ?_
  all_goals omega
local macro_rules | `(tactic| walk_at "call ref") => `(tactic| (k_here; (with_reducible show wpAny _ _ (call (Value.ref 49) [Value.float _ _]) _ _ _); k_dflt (refine' use_cl (jwday_ok _ _ _ _ _ ?hx ?dom1 ?dom2 ?dom3) ?k1 ?k2 ?k3 ?k4 ?k5 ?kK ?kd ?ku ?_; (case hx => walk_at "m.hx"); (case dom1 => walk_at "m.bnd"); (case dom2 => walk_at "m.bnd"); (case dom3 => walk_at "m.bnd"); walk_at "m.prem"; walk_at "m.useV")))

/-- a feast's date: the day found, moved, its eve where asked -/
def Feast (gy m d : Int) (eb : Bool) (y' m' d' : Int) : Prop := ∃ v, Found gy m d v ∧ GDate (v - (if eb then 2 else 0)) y' m' d'
def EvOk (ev : Value) (eb : Bool) : Prop := (ev = .none ∧ eb = false) ∨ ev = .bool eb
theorem feast_end {gy m d v y' m' d' : Int} {r : Prop} (hD : GDate v y' m' d') (h : Found gy m d v ∧ r) : Feast gy m d false y' m' d' := ⟨v, h.1, by simpa using hD⟩
theorem feast_end1 {gy m d v y' m' d' : Int} {r : Prop} (hD : GDate (v - 2 * 1) y' m' d') (h : Found gy m d v ∧ r) : Feast gy m d true y' m' d' := ⟨v, h.1, by simpa using hD⟩

theorem hanukkah_ok (w : World) (news : List (Addr × Obj)) (gy : Int) (ev : Value) (eb : Bool) (t : Tok) (hy : 1 ≤ gy ∧ gy ≤ 9999) (hev : EvOk ev eb) :
    ClE w 149 news [.int gy t, ev] 9 72 (Lost gy 9 25) (RetD news (Feast gy 9 25 eb)) := by
  unfold ClE RetD RaisesV
  rcases hev with ⟨rfl, rfl⟩ | rfl
  rotate_left
  cases eb
  all_goals (
    k_fill
    intro p loose mean mg mb dp un gd cn cs a ccd cl outer A₀ base h₀ L m s Q E B F X N T hk hd' hu hE hret
    refine wpAny_call ?_
    k_dflt (refine' code_def ?k1 ?k2 ?k3 ?k4 ?k5 ?kA ?kF ?kK ?k6 ?k7 ?k8 ?k9 ?kB ?_ ?c2 ?c3 ?c4 ?c5)
    (case kA => exact rfl)
    (case kF => exact rfl)
    (case kK => assumption)
    (case k1 => k_asm)
    (case k2 => k_asm)
    (case k3 => k_asm)
    (case k4 => exact N)
    (case k5 => k_asm)
    (case k6 => k_dflt k_is)
    (case k7 => k_dflt k_is)
    (case k8 => ktr_room)
    (case k9 => exact binds_K (by k_in) rfl (by k_is) rfl rfl rfl)
    (case c5 => decide)
    (case kB => exact locs rfl)
    (case c2 => exact rfl)
    (case c3 => exact rfl)
    (case c4 => exact rfl)
    intro g' L' h' FG' F' N' B' X' T'
    (try dsimp only)
    (try k_lift B')
    (try k_fold)
    k_steps
    all_goals first
      | (refine endD (E := E) hret (by k_asm) (by walk_at "m.news") ?_; first
          | exact feast_end (by assumption) (by assumption)
          | exact feast_end1 (by assumption) (by assumption))
      | exact hE (by assumption) _ _ _ _ (by assumption) (raised_drop (by assumption) (by (intro qN hN; repeat (first | exact hN | refine List.mem_cons_of_mem _ ?_)))) (by assumption))


/-- Purim's month -/
def pm (gy : Int) : Int := if ((gy + 3760) * 7 + 1) % 19 < 7 then 13 else 12
theorem pm_pos {gy : Int} (h : ((gy + 3760) * 7 + 1) % 19 < 7) : pm gy = 13 := if_pos h
theorem pm_neg {gy : Int} (h : ¬ ((gy + 3760) * 7 + 1) % 19 < 7) : pm gy = 12 := if_neg h
theorem purim_ok (w : World) (news : List (Addr × Obj)) (gy : Int) (ev : Value) (eb : Bool) (t : Tok) (hy : 1 ≤ gy ∧ gy ≤ 9999) (hev : EvOk ev eb) :
    ClE w 157 news [.int gy t, ev] 9 72 (Lost gy (pm gy) 14) (RetD news (Feast gy (pm gy) 14 eb)) := by
  unfold ClE RetD RaisesV
  rcases hev with ⟨rfl, rfl⟩ | rfl
  rotate_left
  cases eb
  all_goals (
    k_fill
    intro p loose mean mg mb dp un gd cn cs a ccd cl outer A₀ base h₀ L m s Q E B F X N T hk hd' hu hE hret
    refine wpAny_call ?_
    k_dflt (refine' code_def ?k1 ?k2 ?k3 ?k4 ?k5 ?kA ?kF ?kK ?k6 ?k7 ?k8 ?k9 ?kB ?_ ?c2 ?c3 ?c4 ?c5)
    (case kA => exact rfl)
    (case kF => exact rfl)
    (case kK => assumption)
    (case k1 => k_asm)
    (case k2 => k_asm)
    (case k3 => k_asm)
    (case k4 => exact N)
    (case k5 => k_asm)
    (case k6 => k_dflt k_is)
    (case k7 => k_dflt k_is)
    (case k8 => ktr_room)
    (case k9 => exact binds_K (by k_in) rfl (by k_is) rfl rfl rfl)
    (case c5 => decide)
    (case kB => exact locs rfl)
    (case c2 => exact rfl)
    (case c3 => exact rfl)
    (case c4 => exact rfl)
    intro g' L' h' FG' F' N' B' X' T'
    (try dsimp only)
    (try k_lift B')
    (try k_fold)
    k_steps
    all_goals first
      | rw [pm_pos (by assumption)] at *
      | rw [pm_neg (by assumption)] at *
    all_goals first
      | (refine endD (E := E) hret (by k_asm) (by walk_at "m.news") ?_; first
          | exact feast_end (by assumption) (by assumption)
          | exact feast_end1 (by assumption) (by assumption))
      | exact hE (by assumption) _ _ _ _ (by assumption) (raised_drop (by assumption) (by (intro qN hN; repeat (first | exact hN | refine List.mem_cons_of_mem _ ?_)))) (by assumption))

/-- the ninth of Av: put off from a Saturday -/
def Tisha (gy : Int) (eb : Bool) (y' m' d' : Int) : Prop := ∃ v, Found gy 5 9 v ∧ GDate ((if (v + 1) / 2 % 7 = 5 then v + 2 else v) - (if eb then 2 else 0)) y' m' d'
theorem tisha_end0 {gy v y' m' d' r : Int} {P R : Prop} (hD : GDate v y' m' d') (h : Found gy 5 9 v ∧ P) (hr : r = (v + 1) / 2 % 7 ∧ R) (hn : r ≠ 5) : Tisha gy false y' m' d' := by
  refine ⟨v, h.1, ?_⟩
  rw [if_neg (by omega)]
  simpa using hD
theorem tisha_end1 {gy v y' m' d' r : Int} {P R : Prop} (hD : GDate (v - 2 * 1) y' m' d') (h : Found gy 5 9 v ∧ P) (hr : r = (v + 1) / 2 % 7 ∧ R) (hn : r ≠ 5) : Tisha gy true y' m' d' := by
  refine ⟨v, h.1, ?_⟩
  rw [if_neg (by omega)]
  simpa using hD
theorem tisha_end2 {gy v y' m' d' r : Int} {P R : Prop} (hD : GDate (v + 2 * 1) y' m' d') (h : Found gy 5 9 v ∧ P) (hr : r = (v + 1) / 2 % 7 ∧ R) (hn : r = 5) : Tisha gy false y' m' d' := by
  refine ⟨v, h.1, ?_⟩
  rw [if_pos (by omega)]
  simpa using hD
theorem tisha_end3 {gy v y' m' d' r : Int} {P R : Prop} (hD : GDate (v + 2 * 1 - 2 * 1) y' m' d') (h : Found gy 5 9 v ∧ P) (hr : r = (v + 1) / 2 % 7 ∧ R) (hn : r = 5) : Tisha gy true y' m' d' := by
  refine ⟨v, h.1, ?_⟩
  rw [if_pos (by omega)]
  simpa using hD
theorem tisha_ok (w : World) (news : List (Addr × Obj)) (gy : Int) (ev : Value) (eb : Bool) (t : Tok) (hy : 1 ≤ gy ∧ gy ≤ 9999) (hev : EvOk ev eb) :
    ClE w 229 news [.int gy t, ev] 9 72 (Lost gy 5 9) (RetD news (Tisha gy eb)) := by
  unfold ClE RetD RaisesV
  rcases hev with ⟨rfl, rfl⟩ | rfl
  rotate_left
  cases eb
  all_goals (
    k_fill
    intro p loose mean mg mb dp un gd cn cs a ccd cl outer A₀ base h₀ L m s Q E B F X N T hk hd' hu hE hret
    refine wpAny_call ?_
    k_dflt (refine' code_def ?k1 ?k2 ?k3 ?k4 ?k5 ?kA ?kF ?kK ?k6 ?k7 ?k8 ?k9 ?kB ?_ ?c2 ?c3 ?c4 ?c5)
    (case kA => exact rfl)
    (case kF => exact rfl)
    (case kK => assumption)
    (case k1 => k_asm)
    (case k2 => k_asm)
    (case k3 => k_asm)
    (case k4 => exact N)
    (case k5 => k_asm)
    (case k6 => k_dflt k_is)
    (case k7 => k_dflt k_is)
    (case k8 => ktr_room)
    (case k9 => exact binds_K (by k_in) rfl (by k_is) rfl rfl rfl)
    (case c5 => decide)
    (case kB => exact locs rfl)
    (case c2 => exact rfl)
    (case c3 => exact rfl)
    (case c4 => exact rfl)
    intro g' L' h' FG' F' N' B' X' T'
    (try dsimp only)
    (try k_lift B')
    (try k_fold)
    k_steps
    all_goals first
      | (refine endD (E := E) hret (by k_asm) (by walk_at "m.news") ?_; first
          | exact tisha_end0 (by assumption) (by assumption) (by assumption) (by assumption)
          | exact tisha_end1 (by assumption) (by assumption) (by assumption) (by assumption)
          | exact tisha_end2 (by assumption) (by assumption) (by assumption) (by assumption)
          | exact tisha_end3 (by assumption) (by assumption) (by assumption) (by assumption))
      | exact hE (by assumption) _ _ _ _ (by assumption) (raised_drop (by assumption) (by (intro qN hN; repeat (first | exact hN | refine List.mem_cons_of_mem _ ?_)))) (by assumption))

end Mine
end

section
open PySem PySem.W PyProof.Rows
set_option maxRecDepth 100000
set_option maxHeartbeats 8000000
set_option linter.unusedVariables false
set_option pp.maxSteps 3000
namespace Mine
theorem top_off_G10 : True := by
  w_top off
  trivial
open PySem PySem.Calls PyProof.Rows
-- small words of ours, as lines of walk_at
local macro_rules | `(tactic| walk_at "m.bools") => `(tactic| (simp only [decide_eq_true_eq, decide_eq_false_iff_not, Bool.not_eq_true, Bool.not_eq_false, Bool.and_eq_true, Bool.or_eq_true, Bool.not_eq_true', Bool.not_eq_false', beq_iff_eq, bne_iff_ne, beq_eq_false_iff_ne, bne_eq_false_iff_eq, Bool.and_eq_false_iff, Bool.or_eq_false_iff, ne_eq, Decidable.not_not] at *))
local macro_rules | `(tactic| walk_at "m.bnd") => `(tactic| first | omega | decide | ((try walk_at "m.bools"); omega) | (exfalso; (try walk_at "m.bools"); simp_all; omega))
local macro_rules | `(tactic| walk_at "m.hx") => `(tactic| first | with_reducible exact rfl | exact litH | exact litG | exact litHalf)
local macro_rules | `(tactic| walk_at "m.news") => `(tactic| first | k_asm | (refine' cb_drop ?cbN ?cbS; (case cbN => assumption); (case cbS => (intro qN hN; repeat (first | exact hN | refine List.mem_cons_of_mem _ ?_)))))
-- use a claim at a call
local macro_rules | `(tactic| walk_at "m.prem") => `(tactic| (
  (case k1 => k_asm); (case k2 => k_asm); (case k3 => k_asm); (case k4 => k_asm); (case k5 => k_asm);
  (case kK => first | exact rfl | assumption); (case kd => ktr_room); (case ku => ktr_units)))

-- floats
local macro_rules | `(tactic| walk_at "binaryOp Add float int") => `(tactic| first
  | (with_reducible refine' r_add_fi ?x ?al ?au ?nl ?nu ?_; (case x => walk_at "m.hx"); (case al => walk_at "m.bnd"); (case au => walk_at "m.bnd"); (case nl => walk_at "m.bnd"); (case nu => walk_at "m.bnd"); k_whole; (try dsimp only))
  | (with_reducible refine' add_fi_fits ?n ?_; (case n => exact fitsH (by walk_at "m.bnd")); k_whole; (try dsimp only)))
local macro_rules | `(tactic| walk_at "inplaceOp Add float int") => `(tactic| (with_reducible refine' r_iadd_fi rfl ?x ?al ?au ?nl ?nu ?_; (case x => walk_at "m.hx"); (case al => walk_at "m.bnd"); (case au => walk_at "m.bnd"); (case nl => walk_at "m.bnd"); (case nu => walk_at "m.bnd"); k_whole; (try dsimp only)))
local macro_rules | `(tactic| walk_at "binaryOp Add int float") => `(tactic| (with_reducible refine' r_add_if ?x ?al ?au ?nl ?nu ?_; (case x => walk_at "m.hx"); (case al => walk_at "m.bnd"); (case au => walk_at "m.bnd"); (case nl => walk_at "m.bnd"); (case nu => walk_at "m.bnd"); k_whole; (try dsimp only)))
local macro_rules | `(tactic| walk_at "binaryOp Sub float int") => `(tactic| (with_reducible refine' r_sub_fi ?x ?al ?au ?nl ?nu ?_; (case x => walk_at "m.hx"); (case al => walk_at "m.bnd"); (case au => walk_at "m.bnd"); (case nl => walk_at "m.bnd"); (case nu => walk_at "m.bnd"); k_whole; (try dsimp only)))
local macro_rules | `(tactic| walk_at "binaryOp Sub int float") => `(tactic| (with_reducible refine' r_sub_if ?x ?al ?au ?nl ?nu ?_; (case x => walk_at "m.hx"); (case al => walk_at "m.bnd"); (case au => walk_at "m.bnd"); (case nl => walk_at "m.bnd"); (case nu => walk_at "m.bnd"); k_whole; (try dsimp only)))
local macro_rules | `(tactic| walk_at "binaryOp Mult float int") => `(tactic| (with_reducible refine' r_mul_fi ?x ?al ?au ?z ?nl ?nu ?_; (case x => walk_at "m.hx"); (case al => walk_at "m.bnd"); (case au => walk_at "m.bnd"); (case z => walk_at "m.bnd"); (case nl => walk_at "m.bnd"); (case nu => walk_at "m.bnd"); k_whole; (try dsimp only)))
local macro_rules | `(tactic| walk_at "binaryOp Add float float") => `(tactic| (with_reducible refine' r_add_ff ?x ?y ?al ?au ?bl ?bu ?_; (case x => walk_at "m.hx"); (case y => walk_at "m.hx"); (case al => walk_at "m.bnd"); (case au => walk_at "m.bnd"); (case bl => walk_at "m.bnd"); (case bu => walk_at "m.bnd"); k_whole; (try dsimp only)))
local macro_rules | `(tactic| walk_at "binaryOp Sub float float") => `(tactic| (with_reducible refine' r_sub_ff ?x ?y ?al ?au ?bl ?bu ?_; (case x => walk_at "m.hx"); (case y => walk_at "m.hx"); (case al => walk_at "m.bnd"); (case au => walk_at "m.bnd"); (case bl => walk_at "m.bnd"); (case bu => walk_at "m.bnd"); k_whole; (try dsimp only)))
local macro_rules | `(tactic| walk_at "binaryOp Div float int") => `(tactic| (with_reducible refine' r_div_fi rfl ?x ?z ?nl ?nu ?_; (case x => walk_at "m.hx"); (case z => walk_at "m.bnd"); (case nl => walk_at "m.bnd"); (case nu => walk_at "m.bnd"); k_whole; (try dsimp only)))
local macro_rules | `(tactic| walk_at "binaryOp Div int int") => `(tactic| (with_reducible refine' r_div_ii rfl ?z ?nl ?nu ?_; (case z => walk_at "m.bnd"); (case nl => walk_at "m.bnd"); (case nu => walk_at "m.bnd"); k_whole; (try dsimp only)))
local macro_rules | `(tactic| walk_at "binaryOp Mod float int") => `(tactic| (with_reducible refine' r_mod_fi rfl ?x ?al ?au ?z ?nl ?nu ?_; (case x => walk_at "m.hx"); (case al => walk_at "m.bnd"); (case au => walk_at "m.bnd"); (case z => walk_at "m.bnd"); (case nl => walk_at "m.bnd"); (case nu => walk_at "m.bnd"); k_whole; (try dsimp only)))
local macro_rules | `(tactic| walk_at "call builtin:math.floor") => `(tactic| first
  | (with_reducible refine' r_floor_div rfl ?al ?au ?z ?n ?_; (case al => walk_at "m.bnd"); (case au => walk_at "m.bnd"); (case z => walk_at "m.bnd"); (case n => walk_at "m.bnd"); k_whole; (try dsimp only))
  | (with_reducible refine' r_floor_ii rfl ?al ?au ?z ?n ?_; (case al => walk_at "m.bnd"); (case au => walk_at "m.bnd"); (case z => walk_at "m.bnd"); (case n => walk_at "m.bnd"); k_whole; (try dsimp only))
  | (with_reducible refine' r_floor_m rfl ?m1 ?m2 ?j1 ?j2 ?d1 ?d2 ?_; (case m1 => walk_at "m.bnd"); (case m2 => walk_at "m.bnd"); (case j1 => walk_at "m.bnd"); (case j2 => walk_at "m.bnd"); (case d1 => walk_at "m.bnd"); (case d2 => walk_at "m.bnd"); k_whole; (try dsimp only))
  | (with_reducible refine' r_floor_H rfl ?x ?al ?au ?_; (case x => walk_at "m.hx"); (case al => walk_at "m.bnd"); (case au => walk_at "m.bnd"); k_whole; (try dsimp only)))
local macro_rules | `(tactic| walk_at "call builtin:math.trunc") => `(tactic| (with_reducible refine' r_trunc_H rfl ?x ?z ?al ?au ?_; (case x => walk_at "m.hx"); (case z => walk_at "m.bnd"); (case al => walk_at "m.bnd"); (case au => walk_at "m.bnd"); k_whole; (try dsimp only)))
local macro_rules | `(tactic| walk_at "call type:int") => `(tactic| (with_reducible refine' r_int_H rfl ?x ?z ?al ?au ?_; (case x => walk_at "m.hx"); (case z => walk_at "m.bnd"); (case al => walk_at "m.bnd"); (case au => walk_at "m.bnd"); k_whole; (try dsimp only)))
local macro_rules | `(tactic| walk_at "compareOp Lt float int") => `(tactic| (with_reducible refine' r_lt_fi ?x ?al ?au ?_; (case x => walk_at "m.hx"); (case al => walk_at "m.bnd"); (case au => walk_at "m.bnd"); k_whole; (try dsimp only)))
local macro_rules | `(tactic| walk_at "compareOp Eq float int") => `(tactic| (with_reducible refine' r_eq_fi ?x ?al ?au ?_; (case x => walk_at "m.hx"); (case al => walk_at "m.bnd"); (case au => walk_at "m.bnd"); k_whole; (try dsimp only)))
local macro_rules | `(tactic| walk_at "compareOp NotEq float int") => `(tactic| (with_reducible refine' r_ne_fi ?x ?al ?au ?_; (case x => walk_at "m.hx"); (case al => walk_at "m.bnd"); (case au => walk_at "m.bnd"); k_whole; (try dsimp only)))
local macro_rules | `(tactic| walk_at "compareOp Eq float float") => `(tactic| (with_reducible refine' r_eq_ff ?x ?y ?al ?au ?bl ?bu ?_; (case x => walk_at "m.hx"); (case y => walk_at "m.hx"); (case al => walk_at "m.bnd"); (case au => walk_at "m.bnd"); (case bl => walk_at "m.bnd"); (case bu => walk_at "m.bnd"); k_whole; (try dsimp only)))
local macro_rules | `(tactic| walk_at "compareOp NotEq float float") => `(tactic| (with_reducible refine' r_ne_ff ?x ?y ?al ?au ?bl ?bu ?_; (case x => walk_at "m.hx"); (case y => walk_at "m.hx"); (case al => walk_at "m.bnd"); (case au => walk_at "m.bnd"); (case bl => walk_at "m.bnd"); (case bu => walk_at "m.bnd"); k_whole; (try dsimp only)))
local macro_rules | `(tactic| walk_at "truthy float") => `(tactic| (with_reducible refine' r_truthy ?x ?al ?au ?_; (case x => walk_at "m.hx"); (case al => walk_at "m.bnd"); (case au => walk_at "m.bnd"); k_whole; (try dsimp only)))
-- // and % by a positive divisor: / and % of Int
local macro_rules | `(tactic| walk_at "binaryOp Mod int int") => `(tactic| (with_reducible refine' r_mod_ii ?z ?_; (case z => first | decide | walk_at "m.bnd"); k_whole; (try dsimp only)))
local macro_rules | `(tactic| walk_at "binaryOp FloorDiv int int") => `(tactic| (with_reducible refine' r_fdiv_ii ?z ?y ?_; (case z => first | decide | walk_at "m.bnd"); (case y => first | decide | walk_at "m.bnd"); k_whole; (try dsimp only)))

local macro_rules | `(tactic| walk_at "m.ints") => `(tactic| first | exact IntsAre.nil | (apply IntsAre.cons; walk_at "m.ints"))
local macro_rules | `(tactic| walk_at "m.any") => `(tactic| (all_goals (intro hP9; (simp only [anyP, or_false] at hP9); (try dsimp only))))
local macro_rules | `(tactic| walk_at "compareOp In int ref") => `(tactic| (k_dflt first
  | (refine' r_in_T ?N ?m ?i ?_ ?_; (case N => k_asm); (case m => k_mem); (case i => walk_at "m.ints"))
  | (refine' r_in_L ?N ?m ?i ?_ ?_; (case N => k_asm); (case m => k_mem); (case i => walk_at "m.ints"))
  | (refine' r_in_K ?F ?X ?l ?i ?_ ?_; (case F => k_asm); (case X => k_asm); (case l => k_is); (case i => walk_at "m.ints"))); walk_at "m.any")
-- no joining of a call's ways: our claims do
local macro_rules | `(tactic| walk_at "eval Call") => `(tactic| (k_dflt (refine Call_ ?_)))
-- a name: the module's (but for «leap», a local of from_jd too), else a local's value
local macro_rules | `(tactic| walk_at "m.glob") => `(tactic| (
  (fail_if_success (with_reducible show wpAny _ _ (eval (Expr.Name (Str.ofString "leap") _) _) _ _ _));
  refine' q_glob ?F ?X ?T ?e ?_ ?a ?b ?d; (case F => k_asm); (case X => k_asm); (case T => k_asm); (case e => k_is); (case a => kernel_rfl); (case b => kernel_rfl); (case d => kernel_rfl); k_whole))
local macro_rules | `(tactic| walk_at "m.boot") => `(tactic| (
  refine' q_boot ?F ?X ?T ?e ?v ?n ?_ ?a ?b ?d; (case F => k_asm); (case X => k_asm); (case T => k_asm); (case e => k_is); (case v => k_dflt boot_fast); (case n => decide); (case a => kernel_rfl); (case b => kernel_rfl); (case d => kernel_rfl); k_whole))
local macro_rules | `(tactic| walk_at "m.loc") => `(tactic| (
  refine' q_loc ?F ?v ?_ ?a ?b ?d; (case F => k_dflt k_asm); (case v => k_dflt rfl); (case a => kernel_rfl); (case b => kernel_rfl); (case d => kernel_rfl); k_whole))
local macro_rules | `(tactic| walk_at "eval Name") => `(tactic| (k_here; first
  | (with_reducible walk_at "m.glob")
  | (with_reducible walk_at "m.loc")
  | (with_reducible walk_at "m.boot")))

local macro_rules | `(tactic| walk_at "m.useB") => `(tactic| (intro h9 tk9 F9 N9; refine ⟨fun hP9 => ?_, fun hP9 => ?_⟩ <;> (try dsimp only) <;> (try k_fold)))
local macro_rules | `(tactic| walk_at "m.useV") => `(tactic| (intro t9 h9 tk9 v9 hv9 F9 N9; (try dsimp only); (try k_fold)))
local macro_rules | `(tactic| walk_at "call ref") => `(tactic| (k_here; (with_reducible show wpAny _ _ (call (Value.ref 57) [Value.int _ _]) _ _ _); k_dflt (refine' use_cl (isleap_ok _ _ _ _) ?k1 ?k2 ?k3 ?k4 ?k5 ?kK ?kd ?ku ?_; walk_at "m.prem"; walk_at "m.useB")))


local macro_rules | `(tactic| walk_at "call ref") => `(tactic| (k_here; (with_reducible show wpAny _ _ (call (Value.ref 64) [Value.int _ _, Value.int _ _, Value.int _ _]) _ _ _); k_dflt (refine' use_cl (legal_ok _ _ _ _ _ _ _ _ ?dom) ?k1 ?k2 ?k3 ?k4 ?k5 ?kK ?kd ?ku ?_; (case dom => first | assumption | (unfold DayOk; omega)); walk_at "m.prem"; (intro t9 h9 tk9 F9 N9; (try dsimp only); (try k_fold)))))


local macro_rules | `(tactic| walk_at "call ref") => `(tactic| (k_here; (with_reducible show wpAny _ _ (call (Value.ref 71) [Value.int _ _, Value.int _ _, Value.int _ _]) _ _ _); k_dflt (refine' use_cl (gtojd_ok _ _ _ _ _ _ _ _ ?dom1 ?dom2 ?dom3) ?k1 ?k2 ?k3 ?k4 ?k5 ?kK ?kd ?ku ?_; (case dom1 => first | with_reducible assumption | decide | (refine ⟨?_, ?_⟩ <;> walk_at "m.bnd")); (case dom2 => first | with_reducible assumption | decide | (refine ⟨?_, ?_⟩ <;> walk_at "m.bnd")); (case dom3 => first | assumption | (unfold DayOk; omega)); walk_at "m.prem"; walk_at "m.useV")))

local macro_rules | `(tactic| walk_at "m.useD") => `(tactic| (intro h9 tk9 x9 y9 mo9 d9 t91 t92 t93 hD9 F9 N9; (have hD91 := hD9.1); (have hD92 := hD9.2.1); (have hD93 := hD9.2.2.1); (try dsimp only); (try k_fold)))
local macro_rules | `(tactic| walk_at "call ref") => `(tactic| (k_here; (with_reducible show wpAny _ _ (call (Value.ref 78) [Value.float _ _]) _ _ _); k_dflt (refine' use_cl (fromjd_ok _ _ _ _ _ ?hx ?dom1 ?dom2 ?dom3) ?k1 ?k2 ?k3 ?k4 ?k5 ?kK ?kd ?ku ?_; (case hx => walk_at "m.hx"); (case dom1 => walk_at "m.bnd"); (case dom2 => walk_at "m.bnd"); (case dom3 => walk_at "m.bnd"); walk_at "m.prem"; walk_at "m.useD")))

local macro_rules | `(tactic| walk_at "call ref") => `(tactic| (k_here; (with_reducible show wpAny _ _ (call (Value.ref 85) [Value.int _ _]) _ _ _); k_dflt (refine' use_cl (leap_ok _ _ _ _) ?k1 ?k2 ?k3 ?k4 ?k5 ?kK ?kd ?ku ?_; walk_at "m.prem"; walk_at "m.useB")))

local macro_rules | `(tactic| walk_at "call ref") => `(tactic| (k_here; (with_reducible show wpAny _ _ (call (Value.ref 92) [Value.int _ _]) _ _ _); k_dflt (refine' use_cl (months_ok _ _ _ _) ?k1 ?k2 ?k3 ?k4 ?k5 ?kK ?kd ?ku ?_; walk_at "m.prem"; walk_at "m.useV")))
local macro_rules | `(tactic| walk_at "call ref") => `(tactic| (k_here; (with_reducible show wpAny _ _ (call (Value.ref 99) [Value.int _ _]) _ _ _); k_dflt (refine' use_cl (delay1_ok _ _ _ _ ?dom1) ?k1 ?k2 ?k3 ?k4 ?k5 ?kK ?kd ?ku ?_; (case dom1 => first | with_reducible assumption | decide | (refine ⟨?_, ?_⟩ <;> walk_at "m.bnd")); walk_at "m.prem"; walk_at "m.useV")))

local macro_rules | `(tactic| walk_at "call ref") => `(tactic| (k_here; (with_reducible show wpAny _ _ (call (Value.ref 106) [Value.int _ _]) _ _ _); k_dflt (refine' use_cl (delay2_ok _ _ _ _ ?dom1) ?k1 ?k2 ?k3 ?k4 ?k5 ?kK ?kd ?ku ?_; (case dom1 => first | with_reducible assumption | decide | (refine ⟨?_, ?_⟩ <;> walk_at "m.bnd")); walk_at "m.prem"; walk_at "m.useV")))

local macro_rules | `(tactic| walk_at "call ref") => `(tactic| (k_here; (with_reducible show wpAny _ _ (call (Value.ref 134) [Value.int _ _, Value.int 7 _, Value.int 1 _]) _ _ _); k_dflt (refine' use_cl (th7_ok _ _ _ _ _ _ ?dom1) ?k1 ?k2 ?k3 ?k4 ?k5 ?kK ?kd ?ku ?_; (case dom1 => first | with_reducible assumption | decide | (refine ⟨?_, ?_⟩ <;> walk_at "m.bnd")); walk_at "m.prem"; walk_at "m.useV")))

local macro_rules | `(tactic| walk_at "call ref") => `(tactic| (k_here; (with_reducible show wpAny _ _ (call (Value.ref 113) [Value.int _ _]) _ _ _); k_dflt (refine' use_cl (yd_ok _ _ _ _ ?dom1) ?k1 ?k2 ?k3 ?k4 ?k5 ?kK ?kd ?ku ?_; (case dom1 => first | with_reducible assumption | decide | (refine ⟨?_, ?_⟩ <;> walk_at "m.bnd")); walk_at "m.prem"; walk_at "m.useV")))

local macro_rules | `(tactic| walk_at "call ref") => `(tactic| (k_here; (with_reducible show wpAny _ _ (call (Value.ref 120) [Value.int _ _, Value.int _ _]) _ _ _); k_dflt (refine' use_cl (mlen_ok _ _ _ _ _ _ ?dom1 ?dom2) ?k1 ?k2 ?k3 ?k4 ?k5 ?kK ?kd ?ku ?_; (case dom1 => first | with_reducible assumption | decide | (refine ⟨?_, ?_⟩ <;> walk_at "m.bnd")); (case dom2 => first | with_reducible assumption | decide | (refine ⟨?_, ?_⟩ <;> walk_at "m.bnd")); walk_at "m.prem"; walk_at "m.useV")))

local macro_rules | `(tactic| walk_at "m.useM") => `(tactic| (intro t9 h9 tk9 v9 hv9 F9 N9; (try simp only [Nat.zero_add, Nat.reduceAdd, Int.natCast_zero, Int.natCast_one, Int.cast_ofNat_Int, Int.reduceAdd, Int.add_zero] at hv9); (try dsimp only); (try k_fold)))
local macro_rules | `(tactic| walk_at "call ref") => `(tactic| (k_here; (with_reducible show wpAny _ _ (call (Value.ref 127) [Value.int _ _, Value.int _ _]) _ _ _); k_dflt (refine' use_cl (mdays_ok _ _ _ _ _ _ ?dom1 ?dom2) ?k1 ?k2 ?k3 ?k4 ?k5 ?kK ?kd ?ku ?_; (case dom1 => first | with_reducible assumption | decide | (refine ⟨?_, ?_⟩ <;> walk_at "m.bnd")); (case dom2 => first | with_reducible assumption | decide | (refine ⟨?_, ?_⟩ <;> walk_at "m.bnd")); walk_at "m.prem"; walk_at "m.useM")))

local macro_rules | `(tactic| walk_at "call ref") => `(tactic| (k_here; (with_reducible show wpAny _ _ (call (Value.ref 134) [Value.int _ _, Value.int _ _, Value.int _ _]) _ _ _); k_dflt (refine' use_cl (th_ok _ _ _ _ _ _ _ _ ?dom1 ?dom2 ?dom3) ?k1 ?k2 ?k3 ?k4 ?k5 ?kK ?kd ?ku ?_; (case dom1 => first | with_reducible assumption | decide | (refine ⟨?_, ?_⟩ <;> walk_at "m.bnd")); (case dom2 => first | with_reducible assumption | decide | (refine ⟨?_, ?_⟩ <;> walk_at "m.bnd")); (case dom3 => first | with_reducible assumption | decide | (refine ⟨?_, ?_⟩ <;> walk_at "m.bnd")); walk_at "m.prem"; walk_at "m.useV")))

local macro_rules | `(tactic| walk_at "call ref") => `(tactic| (k_here; (with_reducible show wpAny _ _ (call (Value.ref 141) [Value.int _ _, Value.int _ _, Value.int _ _]) _ _ _); k_dflt (refine' use_clE (gy_ok _ _ _ _ _ _ _ _ ?dom1 ?dom2 ?dom3) ?k1 ?k2 ?k3 ?k4 ?k5 ?kK ?kd ?ku ?_ ?_; (case dom1 => first | with_reducible assumption | (refine ⟨?_, ?_⟩ <;> walk_at "m.bnd")); (case dom2 => first | with_reducible assumption | decide | (refine ⟨?_, ?_⟩ <;> walk_at "m.bnd")); (case dom3 => first | with_reducible assumption | decide | (refine ⟨?_, ?_⟩ <;> walk_at "m.bnd")); walk_at "m.prem"; rotate_left; walk_at "m.useV"; rotate_right; walk_at "m.useE")))
local macro_rules | `(tactic| walk_at "m.useE") => `(tactic| (intro hL9 g9 e9 h9 tk9 F9 R9 U9; (try dsimp only); (try k_fold)))

local macro_rules | `(tactic| walk_at "call ref") => `(tactic| (k_here; (with_reducible show wpAny _ _ (call (Value.ref 49) [Value.float _ _]) _ _ _); k_dflt (refine' use_cl (jwday_ok _ _ _ _ _ ?hx ?dom1 ?dom2 ?dom3) ?k1 ?k2 ?k3 ?k4 ?k5 ?kK ?kd ?ku ?_; (case hx => walk_at "m.hx"); (case dom1 => walk_at "m.bnd"); (case dom2 => walk_at "m.bnd"); (case dom3 => walk_at "m.bnd"); walk_at "m.prem"; walk_at "m.useV")))



theorem rosh_ok (w : World) (news : List (Addr × Obj)) (gy : Int) (ev : Value) (eb : Bool) (t : Tok) (hy : 1 ≤ gy ∧ gy ≤ 9999) (hev : EvOk ev eb) :
    ClE w 165 news [.int gy t, ev] 9 72 (Lost gy 7 1) (RetD news (Feast gy 7 1 eb)) := by
  unfold ClE RetD RaisesV
  rcases hev with ⟨rfl, rfl⟩ | rfl
  rotate_left
  cases eb
  all_goals (
    k_fill
    intro p loose mean mg mb dp un gd cn cs a ccd cl outer A₀ base h₀ L m s Q E B F X N T hk hd' hu hE hret
    refine wpAny_call ?_
    k_dflt (refine' code_def ?k1 ?k2 ?k3 ?k4 ?k5 ?kA ?kF ?kK ?k6 ?k7 ?k8 ?k9 ?kB ?_ ?c2 ?c3 ?c4 ?c5)
    (case kA => exact rfl)
    (case kF => exact rfl)
    (case kK => assumption)
    (case k1 => k_asm)
    (case k2 => k_asm)
    (case k3 => k_asm)
    (case k4 => exact N)
    (case k5 => k_asm)
    (case k6 => k_dflt k_is)
    (case k7 => k_dflt k_is)
    (case k8 => ktr_room)
    (case k9 => exact binds_K (by k_in) rfl (by k_is) rfl rfl rfl)
    (case c5 => decide)
    (case kB => exact locs rfl)
    (case c2 => exact rfl)
    (case c3 => exact rfl)
    (case c4 => exact rfl)
    intro g' L' h' FG' F' N' B' X' T'
    (try dsimp only)
    (try k_lift B')
    (try k_fold)
    k_steps
    all_goals first
      | (refine endD (E := E) hret (by k_asm) (by walk_at "m.news") ?_; first
          | exact feast_end (by assumption) (by assumption)
          | exact feast_end1 (by assumption) (by assumption))
      | exact hE (by assumption) _ _ _ _ (by assumption) (raised_drop (by assumption) (by (intro qN hN; repeat (first | exact hN | refine List.mem_cons_of_mem _ ?_)))) (by assumption))

theorem yom_ok (w : World) (news : List (Addr × Obj)) (gy : Int) (ev : Value) (eb : Bool) (t : Tok) (hy : 1 ≤ gy ∧ gy ≤ 9999) (hev : EvOk ev eb) :
    ClE w 173 news [.int gy t, ev] 9 72 (Lost gy 7 10) (RetD news (Feast gy 7 10 eb)) := by
  unfold ClE RetD RaisesV
  rcases hev with ⟨rfl, rfl⟩ | rfl
  rotate_left
  cases eb
  all_goals (
    k_fill
    intro p loose mean mg mb dp un gd cn cs a ccd cl outer A₀ base h₀ L m s Q E B F X N T hk hd' hu hE hret
    refine wpAny_call ?_
    k_dflt (refine' code_def ?k1 ?k2 ?k3 ?k4 ?k5 ?kA ?kF ?kK ?k6 ?k7 ?k8 ?k9 ?kB ?_ ?c2 ?c3 ?c4 ?c5)
    (case kA => exact rfl)
    (case kF => exact rfl)
    (case kK => assumption)
    (case k1 => k_asm)
    (case k2 => k_asm)
    (case k3 => k_asm)
    (case k4 => exact N)
    (case k5 => k_asm)
    (case k6 => k_dflt k_is)
    (case k7 => k_dflt k_is)
    (case k8 => ktr_room)
    (case k9 => exact binds_K (by k_in) rfl (by k_is) rfl rfl rfl)
    (case c5 => decide)
    (case kB => exact locs rfl)
    (case c2 => exact rfl)
    (case c3 => exact rfl)
    (case c4 => exact rfl)
    intro g' L' h' FG' F' N' B' X' T'
    (try dsimp only)
    (try k_lift B')
    (try k_fold)
    k_steps
    all_goals first
      | (refine endD (E := E) hret (by k_asm) (by walk_at "m.news") ?_; first
          | exact feast_end (by assumption) (by assumption)
          | exact feast_end1 (by assumption) (by assumption))
      | exact hE (by assumption) _ _ _ _ (by assumption) (raised_drop (by assumption) (by (intro qN hN; repeat (first | exact hN | refine List.mem_cons_of_mem _ ?_)))) (by assumption))

theorem pass_ok (w : World) (news : List (Addr × Obj)) (gy : Int) (ev : Value) (eb : Bool) (t : Tok) (hy : 1 ≤ gy ∧ gy ≤ 9999) (hev : EvOk ev eb) :
    ClE w 181 news [.int gy t, ev] 9 72 (Lost gy 1 15) (RetD news (Feast gy 1 15 eb)) := by
  unfold ClE RetD RaisesV
  rcases hev with ⟨rfl, rfl⟩ | rfl
  rotate_left
  cases eb
  all_goals (
    k_fill
    intro p loose mean mg mb dp un gd cn cs a ccd cl outer A₀ base h₀ L m s Q E B F X N T hk hd' hu hE hret
    refine wpAny_call ?_
    k_dflt (refine' code_def ?k1 ?k2 ?k3 ?k4 ?k5 ?kA ?kF ?kK ?k6 ?k7 ?k8 ?k9 ?kB ?_ ?c2 ?c3 ?c4 ?c5)
    (case kA => exact rfl)
    (case kF => exact rfl)
    (case kK => assumption)
    (case k1 => k_asm)
    (case k2 => k_asm)
    (case k3 => k_asm)
    (case k4 => exact N)
    (case k5 => k_asm)
    (case k6 => k_dflt k_is)
    (case k7 => k_dflt k_is)
    (case k8 => ktr_room)
    (case k9 => exact binds_K (by k_in) rfl (by k_is) rfl rfl rfl)
    (case c5 => decide)
    (case kB => exact locs rfl)
    (case c2 => exact rfl)
    (case c3 => exact rfl)
    (case c4 => exact rfl)
    intro g' L' h' FG' F' N' B' X' T'
    (try dsimp only)
    (try k_lift B')
    (try k_fold)
    k_steps
    all_goals first
      | (refine endD (E := E) hret (by k_asm) (by walk_at "m.news") ?_; first
          | exact feast_end (by assumption) (by assumption)
          | exact feast_end1 (by assumption) (by assumption))
      | exact hE (by assumption) _ _ _ _ (by assumption) (raised_drop (by assumption) (by (intro qN hN; repeat (first | exact hN | refine List.mem_cons_of_mem _ ?_)))) (by assumption))

theorem shav_ok (w : World) (news : List (Addr × Obj)) (gy : Int) (ev : Value) (eb : Bool) (t : Tok) (hy : 1 ≤ gy ∧ gy ≤ 9999) (hev : EvOk ev eb) :
    ClE w 189 news [.int gy t, ev] 9 72 (Lost gy 3 6) (RetD news (Feast gy 3 6 eb)) := by
  unfold ClE RetD RaisesV
  rcases hev with ⟨rfl, rfl⟩ | rfl
  rotate_left
  cases eb
  all_goals (
    k_fill
    intro p loose mean mg mb dp un gd cn cs a ccd cl outer A₀ base h₀ L m s Q E B F X N T hk hd' hu hE hret
    refine wpAny_call ?_
    k_dflt (refine' code_def ?k1 ?k2 ?k3 ?k4 ?k5 ?kA ?kF ?kK ?k6 ?k7 ?k8 ?k9 ?kB ?_ ?c2 ?c3 ?c4 ?c5)
    (case kA => exact rfl)
    (case kF => exact rfl)
    (case kK => assumption)
    (case k1 => k_asm)
    (case k2 => k_asm)
    (case k3 => k_asm)
    (case k4 => exact N)
    (case k5 => k_asm)
    (case k6 => k_dflt k_is)
    (case k7 => k_dflt k_is)
    (case k8 => ktr_room)
    (case k9 => exact binds_K (by k_in) rfl (by k_is) rfl rfl rfl)
    (case c5 => decide)
    (case kB => exact locs rfl)
    (case c2 => exact rfl)
    (case c3 => exact rfl)
    (case c4 => exact rfl)
    intro g' L' h' FG' F' N' B' X' T'
    (try dsimp only)
    (try k_lift B')
    (try k_fold)
    k_steps
    all_goals first
      | (refine endD (E := E) hret (by k_asm) (by walk_at "m.news") ?_; first
          | exact feast_end (by assumption) (by assumption)
          | exact feast_end1 (by assumption) (by assumption))
      | exact hE (by assumption) _ _ _ _ (by assumption) (raised_drop (by assumption) (by (intro qN hN; repeat (first | exact hN | refine List.mem_cons_of_mem _ ?_)))) (by assumption))

theorem sukk_ok (w : World) (news : List (Addr × Obj)) (gy : Int) (ev : Value) (eb : Bool) (t : Tok) (hy : 1 ≤ gy ∧ gy ≤ 9999) (hev : EvOk ev eb) :
    ClE w 197 news [.int gy t, ev] 9 72 (Lost gy 7 15) (RetD news (Feast gy 7 15 eb)) := by
  unfold ClE RetD RaisesV
  rcases hev with ⟨rfl, rfl⟩ | rfl
  rotate_left
  cases eb
  all_goals (
    k_fill
    intro p loose mean mg mb dp un gd cn cs a ccd cl outer A₀ base h₀ L m s Q E B F X N T hk hd' hu hE hret
    refine wpAny_call ?_
    k_dflt (refine' code_def ?k1 ?k2 ?k3 ?k4 ?k5 ?kA ?kF ?kK ?k6 ?k7 ?k8 ?k9 ?kB ?_ ?c2 ?c3 ?c4 ?c5)
    (case kA => exact rfl)
    (case kF => exact rfl)
    (case kK => assumption)
    (case k1 => k_asm)
    (case k2 => k_asm)
    (case k3 => k_asm)
    (case k4 => exact N)
    (case k5 => k_asm)
    (case k6 => k_dflt k_is)
    (case k7 => k_dflt k_is)
    (case k8 => ktr_room)
    (case k9 => exact binds_K (by k_in) rfl (by k_is) rfl rfl rfl)
    (case c5 => decide)
    (case kB => exact locs rfl)
    (case c2 => exact rfl)
    (case c3 => exact rfl)
    (case c4 => exact rfl)
    intro g' L' h' FG' F' N' B' X' T'
    (try dsimp only)
    (try k_lift B')
    (try k_fold)
    k_steps
    all_goals first
      | (refine endD (E := E) hret (by k_asm) (by walk_at "m.news") ?_; first
          | exact feast_end (by assumption) (by assumption)
          | exact feast_end1 (by assumption) (by assumption))
      | exact hE (by assumption) _ _ _ _ (by assumption) (raised_drop (by assumption) (by (intro qN hN; repeat (first | exact hN | refine List.mem_cons_of_mem _ ?_)))) (by assumption))

theorem shem_ok (w : World) (news : List (Addr × Obj)) (gy : Int) (ev : Value) (eb : Bool) (t : Tok) (hy : 1 ≤ gy ∧ gy ≤ 9999) (hev : EvOk ev eb) :
    ClE w 205 news [.int gy t, ev] 9 72 (Lost gy 7 22) (RetD news (Feast gy 7 22 eb)) := by
  unfold ClE RetD RaisesV
  rcases hev with ⟨rfl, rfl⟩ | rfl
  rotate_left
  cases eb
  all_goals (
    k_fill
    intro p loose mean mg mb dp un gd cn cs a ccd cl outer A₀ base h₀ L m s Q E B F X N T hk hd' hu hE hret
    refine wpAny_call ?_
    k_dflt (refine' code_def ?k1 ?k2 ?k3 ?k4 ?k5 ?kA ?kF ?kK ?k6 ?k7 ?k8 ?k9 ?kB ?_ ?c2 ?c3 ?c4 ?c5)
    (case kA => exact rfl)
    (case kF => exact rfl)
    (case kK => assumption)
    (case k1 => k_asm)
    (case k2 => k_asm)
    (case k3 => k_asm)
    (case k4 => exact N)
    (case k5 => k_asm)
    (case k6 => k_dflt k_is)
    (case k7 => k_dflt k_is)
    (case k8 => ktr_room)
    (case k9 => exact binds_K (by k_in) rfl (by k_is) rfl rfl rfl)
    (case c5 => decide)
    (case kB => exact locs rfl)
    (case c2 => exact rfl)
    (case c3 => exact rfl)
    (case c4 => exact rfl)
    intro g' L' h' FG' F' N' B' X' T'
    (try dsimp only)
    (try k_lift B')
    (try k_fold)
    k_steps
    all_goals first
      | (refine endD (E := E) hret (by k_asm) (by walk_at "m.news") ?_; first
          | exact feast_end (by assumption) (by assumption)
          | exact feast_end1 (by assumption) (by assumption))
      | exact hE (by assumption) _ _ _ _ (by assumption) (raised_drop (by assumption) (by (intro qN hN; repeat (first | exact hN | refine List.mem_cons_of_mem _ ?_)))) (by assumption))

theorem lag_ok (w : World) (news : List (Addr × Obj)) (gy : Int) (ev : Value) (eb : Bool) (t : Tok) (hy : 1 ≤ gy ∧ gy ≤ 9999) (hev : EvOk ev eb) :
    ClE w 213 news [.int gy t, ev] 9 72 (Lost gy 2 18) (RetD news (Feast gy 2 18 eb)) := by
  unfold ClE RetD RaisesV
  rcases hev with ⟨rfl, rfl⟩ | rfl
  rotate_left
  cases eb
  all_goals (
    k_fill
    intro p loose mean mg mb dp un gd cn cs a ccd cl outer A₀ base h₀ L m s Q E B F X N T hk hd' hu hE hret
    refine wpAny_call ?_
    k_dflt (refine' code_def ?k1 ?k2 ?k3 ?k4 ?k5 ?kA ?kF ?kK ?k6 ?k7 ?k8 ?k9 ?kB ?_ ?c2 ?c3 ?c4 ?c5)
    (case kA => exact rfl)
    (case kF => exact rfl)
    (case kK => assumption)
    (case k1 => k_asm)
    (case k2 => k_asm)
    (case k3 => k_asm)
    (case k4 => exact N)
    (case k5 => k_asm)
    (case k6 => k_dflt k_is)
    (case k7 => k_dflt k_is)
    (case k8 => ktr_room)
    (case k9 => exact binds_K (by k_in) rfl (by k_is) rfl rfl rfl)
    (case c5 => decide)
    (case kB => exact locs rfl)
    (case c2 => exact rfl)
    (case c3 => exact rfl)
    (case c4 => exact rfl)
    intro g' L' h' FG' F' N' B' X' T'
    (try dsimp only)
    (try k_lift B')
    (try k_fold)
    k_steps
    all_goals first
      | (refine endD (E := E) hret (by k_asm) (by walk_at "m.news") ?_; first
          | exact feast_end (by assumption) (by assumption)
          | exact feast_end1 (by assumption) (by assumption))
      | exact hE (by assumption) _ _ _ _ (by assumption) (raised_drop (by assumption) (by (intro qN hN; repeat (first | exact hN | refine List.mem_cons_of_mem _ ?_)))) (by assumption))

theorem tub_ok (w : World) (news : List (Addr × Obj)) (gy : Int) (ev : Value) (eb : Bool) (t : Tok) (hy : 1 ≤ gy ∧ gy ≤ 9999) (hev : EvOk ev eb) :
    ClE w 221 news [.int gy t, ev] 9 72 (Lost gy 11 15) (RetD news (Feast gy 11 15 eb)) := by
  unfold ClE RetD RaisesV
  rcases hev with ⟨rfl, rfl⟩ | rfl
  rotate_left
  cases eb
  all_goals (
    k_fill
    intro p loose mean mg mb dp un gd cn cs a ccd cl outer A₀ base h₀ L m s Q E B F X N T hk hd' hu hE hret
    refine wpAny_call ?_
    k_dflt (refine' code_def ?k1 ?k2 ?k3 ?k4 ?k5 ?kA ?kF ?kK ?k6 ?k7 ?k8 ?k9 ?kB ?_ ?c2 ?c3 ?c4 ?c5)
    (case kA => exact rfl)
    (case kF => exact rfl)
    (case kK => assumption)
    (case k1 => k_asm)
    (case k2 => k_asm)
    (case k3 => k_asm)
    (case k4 => exact N)
    (case k5 => k_asm)
    (case k6 => k_dflt k_is)
    (case k7 => k_dflt k_is)
    (case k8 => ktr_room)
    (case k9 => exact binds_K (by k_in) rfl (by k_is) rfl rfl rfl)
    (case c5 => decide)
    (case kB => exact locs rfl)
    (case c2 => exact rfl)
    (case c3 => exact rfl)
    (case c4 => exact rfl)
    intro g' L' h' FG' F' N' B' X' T'
    (try dsimp only)
    (try k_lift B')
    (try k_fold)
    k_steps
    all_goals first
      | (refine endD (E := E) hret (by k_asm) (by walk_at "m.news") ?_; first
          | exact feast_end (by assumption) (by assumption)
          | exact feast_end1 (by assumption) (by assumption))
      | exact hE (by assumption) _ _ _ _ (by assumption) (raised_drop (by assumption) (by (intro qN hN; repeat (first | exact hN | refine List.mem_cons_of_mem _ ?_)))) (by assumption))


theorem pass0_ok (w : World) (news : List (Addr × Obj)) (gy : Int) (t : Tok) (hy : 1 ≤ gy ∧ gy ≤ 9999) :
    ClE w 181 news [.int gy t] 9 72 (Lost gy 1 15) (RetD news (Feast gy 1 15 false)) := by
  unfold ClE RetD RaisesV
  (
    k_fill
    intro p loose mean mg mb dp un gd cn cs a ccd cl outer A₀ base h₀ L m s Q E B F X N T hk hd' hu hE hret
    refine wpAny_call ?_
    k_dflt (refine' code_def ?k1 ?k2 ?k3 ?k4 ?k5 ?kA ?kF ?kK ?k6 ?k7 ?k8 ?k9 ?kB ?_ ?c2 ?c3 ?c4 ?c5)
    (case kA => exact rfl)
    (case kF => exact rfl)
    (case kK => assumption)
    (case k1 => k_asm)
    (case k2 => k_asm)
    (case k3 => k_asm)
    (case k4 => exact N)
    (case k5 => k_asm)
    (case k6 => k_dflt k_is)
    (case k7 => k_dflt k_is)
    (case k8 => ktr_room)
    (case k9 => exact binds_K (by k_in) rfl (by k_is) rfl rfl rfl)
    (case c5 => decide)
    (case kB => exact locs rfl)
    (case c2 => exact rfl)
    (case c3 => exact rfl)
    (case c4 => exact rfl)
    intro g' L' h' FG' F' N' B' X' T'
    (try dsimp only)
    (try k_lift B')
    (try k_fold)
    k_steps
    all_goals first
      | (refine endD (E := E) hret (by k_asm) (by walk_at "m.news") ?_; exact feast_end (by assumption) (by assumption))
      | exact hE (by assumption) _ _ _ _ (by assumption) (raised_drop (by assumption) (by (intro qN hN; repeat (first | exact hN | refine List.mem_cons_of_mem _ ?_)))) (by assumption))

theorem rosh0_ok (w : World) (news : List (Addr × Obj)) (gy : Int) (t : Tok) (hy : 1 ≤ gy ∧ gy ≤ 9999) :
    ClE w 165 news [.int gy t] 9 72 (Lost gy 7 1) (RetD news (Feast gy 7 1 false)) := by
  unfold ClE RetD RaisesV
  (
    k_fill
    intro p loose mean mg mb dp un gd cn cs a ccd cl outer A₀ base h₀ L m s Q E B F X N T hk hd' hu hE hret
    refine wpAny_call ?_
    k_dflt (refine' code_def ?k1 ?k2 ?k3 ?k4 ?k5 ?kA ?kF ?kK ?k6 ?k7 ?k8 ?k9 ?kB ?_ ?c2 ?c3 ?c4 ?c5)
    (case kA => exact rfl)
    (case kF => exact rfl)
    (case kK => assumption)
    (case k1 => k_asm)
    (case k2 => k_asm)
    (case k3 => k_asm)
    (case k4 => exact N)
    (case k5 => k_asm)
    (case k6 => k_dflt k_is)
    (case k7 => k_dflt k_is)
    (case k8 => ktr_room)
    (case k9 => exact binds_K (by k_in) rfl (by k_is) rfl rfl rfl)
    (case c5 => decide)
    (case kB => exact locs rfl)
    (case c2 => exact rfl)
    (case c3 => exact rfl)
    (case c4 => exact rfl)
    intro g' L' h' FG' F' N' B' X' T'
    (try dsimp only)
    (try k_lift B')
    (try k_fold)
    k_steps
    all_goals first
      | (refine endD (E := E) hret (by k_asm) (by walk_at "m.news") ?_; exact feast_end (by assumption) (by assumption))
      | exact hE (by assumption) _ _ _ _ (by assumption) (raised_drop (by assumption) (by (intro qN hN; repeat (first | exact hN | refine List.mem_cons_of_mem _ ?_)))) (by assumption))

end Mine
end

section
open PySem PySem.W PyProof.Rows
set_option maxRecDepth 100000
set_option maxHeartbeats 8000000
set_option linter.unusedVariables false
set_option pp.maxSteps 3000
namespace Mine
theorem top_off_K1 : True := by
  w_top off
  trivial
open PySem PySem.Calls PyProof.Rows
-- small words of ours, as lines of walk_at
local macro_rules | `(tactic| walk_at "m.bools") => `(tactic| (simp only [decide_eq_true_eq, decide_eq_false_iff_not, Bool.not_eq_true, Bool.not_eq_false, Bool.and_eq_true, Bool.or_eq_true, Bool.not_eq_true', Bool.not_eq_false', beq_iff_eq, bne_iff_ne, beq_eq_false_iff_ne, bne_eq_false_iff_eq, Bool.and_eq_false_iff, Bool.or_eq_false_iff, ne_eq, Decidable.not_not] at *))
local macro_rules | `(tactic| walk_at "m.bnd") => `(tactic| first | omega | decide | ((try walk_at "m.bools"); omega) | (exfalso; (try walk_at "m.bools"); simp_all; omega))
local macro_rules | `(tactic| walk_at "m.hx") => `(tactic| first | with_reducible exact rfl | exact litH | exact litG | exact litHalf)
local macro_rules | `(tactic| walk_at "m.news") => `(tactic| first | k_asm | (refine' cb_drop ?cbN ?cbS; (case cbN => assumption); (case cbS => (intro qN hN; repeat (first | exact hN | refine List.mem_cons_of_mem _ ?_)))))
-- use a claim at a call
local macro_rules | `(tactic| walk_at "m.prem") => `(tactic| (
  (case k1 => k_asm); (case k2 => k_asm); (case k3 => k_asm); (case k4 => k_asm); (case k5 => k_asm);
  (case kK => first | exact rfl | assumption); (case kd => ktr_room); (case ku => ktr_units)))

-- floats
local macro_rules | `(tactic| walk_at "binaryOp Add float int") => `(tactic| first
  | (with_reducible refine' r_add_fi ?x ?al ?au ?nl ?nu ?_; (case x => walk_at "m.hx"); (case al => walk_at "m.bnd"); (case au => walk_at "m.bnd"); (case nl => walk_at "m.bnd"); (case nu => walk_at "m.bnd"); k_whole; (try dsimp only))
  | (with_reducible refine' add_fi_fits ?n ?_; (case n => exact fitsH (by walk_at "m.bnd")); k_whole; (try dsimp only)))
local macro_rules | `(tactic| walk_at "inplaceOp Add float int") => `(tactic| (with_reducible refine' r_iadd_fi rfl ?x ?al ?au ?nl ?nu ?_; (case x => walk_at "m.hx"); (case al => walk_at "m.bnd"); (case au => walk_at "m.bnd"); (case nl => walk_at "m.bnd"); (case nu => walk_at "m.bnd"); k_whole; (try dsimp only)))
local macro_rules | `(tactic| walk_at "binaryOp Add int float") => `(tactic| (with_reducible refine' r_add_if ?x ?al ?au ?nl ?nu ?_; (case x => walk_at "m.hx"); (case al => walk_at "m.bnd"); (case au => walk_at "m.bnd"); (case nl => walk_at "m.bnd"); (case nu => walk_at "m.bnd"); k_whole; (try dsimp only)))
local macro_rules | `(tactic| walk_at "binaryOp Sub float int") => `(tactic| (with_reducible refine' r_sub_fi ?x ?al ?au ?nl ?nu ?_; (case x => walk_at "m.hx"); (case al => walk_at "m.bnd"); (case au => walk_at "m.bnd"); (case nl => walk_at "m.bnd"); (case nu => walk_at "m.bnd"); k_whole; (try dsimp only)))
local macro_rules | `(tactic| walk_at "binaryOp Sub int float") => `(tactic| (with_reducible refine' r_sub_if ?x ?al ?au ?nl ?nu ?_; (case x => walk_at "m.hx"); (case al => walk_at "m.bnd"); (case au => walk_at "m.bnd"); (case nl => walk_at "m.bnd"); (case nu => walk_at "m.bnd"); k_whole; (try dsimp only)))
local macro_rules | `(tactic| walk_at "binaryOp Mult float int") => `(tactic| (with_reducible refine' r_mul_fi ?x ?al ?au ?z ?nl ?nu ?_; (case x => walk_at "m.hx"); (case al => walk_at "m.bnd"); (case au => walk_at "m.bnd"); (case z => walk_at "m.bnd"); (case nl => walk_at "m.bnd"); (case nu => walk_at "m.bnd"); k_whole; (try dsimp only)))
local macro_rules | `(tactic| walk_at "binaryOp Add float float") => `(tactic| (with_reducible refine' r_add_ff ?x ?y ?al ?au ?bl ?bu ?_; (case x => walk_at "m.hx"); (case y => walk_at "m.hx"); (case al => walk_at "m.bnd"); (case au => walk_at "m.bnd"); (case bl => walk_at "m.bnd"); (case bu => walk_at "m.bnd"); k_whole; (try dsimp only)))
local macro_rules | `(tactic| walk_at "binaryOp Sub float float") => `(tactic| (with_reducible refine' r_sub_ff ?x ?y ?al ?au ?bl ?bu ?_; (case x => walk_at "m.hx"); (case y => walk_at "m.hx"); (case al => walk_at "m.bnd"); (case au => walk_at "m.bnd"); (case bl => walk_at "m.bnd"); (case bu => walk_at "m.bnd"); k_whole; (try dsimp only)))
local macro_rules | `(tactic| walk_at "binaryOp Div float int") => `(tactic| (with_reducible refine' r_div_fi rfl ?x ?z ?nl ?nu ?_; (case x => walk_at "m.hx"); (case z => walk_at "m.bnd"); (case nl => walk_at "m.bnd"); (case nu => walk_at "m.bnd"); k_whole; (try dsimp only)))
local macro_rules | `(tactic| walk_at "binaryOp Div int int") => `(tactic| (with_reducible refine' r_div_ii rfl ?z ?nl ?nu ?_; (case z => walk_at "m.bnd"); (case nl => walk_at "m.bnd"); (case nu => walk_at "m.bnd"); k_whole; (try dsimp only)))
local macro_rules | `(tactic| walk_at "binaryOp Mod float int") => `(tactic| (with_reducible refine' r_mod_fi rfl ?x ?al ?au ?z ?nl ?nu ?_; (case x => walk_at "m.hx"); (case al => walk_at "m.bnd"); (case au => walk_at "m.bnd"); (case z => walk_at "m.bnd"); (case nl => walk_at "m.bnd"); (case nu => walk_at "m.bnd"); k_whole; (try dsimp only)))
local macro_rules | `(tactic| walk_at "call builtin:math.floor") => `(tactic| first
  | (with_reducible refine' r_floor_div rfl ?al ?au ?z ?n ?_; (case al => walk_at "m.bnd"); (case au => walk_at "m.bnd"); (case z => walk_at "m.bnd"); (case n => walk_at "m.bnd"); k_whole; (try dsimp only))
  | (with_reducible refine' r_floor_ii rfl ?al ?au ?z ?n ?_; (case al => walk_at "m.bnd"); (case au => walk_at "m.bnd"); (case z => walk_at "m.bnd"); (case n => walk_at "m.bnd"); k_whole; (try dsimp only))
  | (with_reducible refine' r_floor_m rfl ?m1 ?m2 ?j1 ?j2 ?d1 ?d2 ?_; (case m1 => walk_at "m.bnd"); (case m2 => walk_at "m.bnd"); (case j1 => walk_at "m.bnd"); (case j2 => walk_at "m.bnd"); (case d1 => walk_at "m.bnd"); (case d2 => walk_at "m.bnd"); k_whole; (try dsimp only))
  | (with_reducible refine' r_floor_H rfl ?x ?al ?au ?_; (case x => walk_at "m.hx"); (case al => walk_at "m.bnd"); (case au => walk_at "m.bnd"); k_whole; (try dsimp only)))
local macro_rules | `(tactic| walk_at "call builtin:math.trunc") => `(tactic| (with_reducible refine' r_trunc_H rfl ?x ?z ?al ?au ?_; (case x => walk_at "m.hx"); (case z => walk_at "m.bnd"); (case al => walk_at "m.bnd"); (case au => walk_at "m.bnd"); k_whole; (try dsimp only)))
local macro_rules | `(tactic| walk_at "call type:int") => `(tactic| (with_reducible refine' r_int_H rfl ?x ?z ?al ?au ?_; (case x => walk_at "m.hx"); (case z => walk_at "m.bnd"); (case al => walk_at "m.bnd"); (case au => walk_at "m.bnd"); k_whole; (try dsimp only)))
local macro_rules | `(tactic| walk_at "compareOp Lt float int") => `(tactic| (with_reducible refine' r_lt_fi ?x ?al ?au ?_; (case x => walk_at "m.hx"); (case al => walk_at "m.bnd"); (case au => walk_at "m.bnd"); k_whole; (try dsimp only)))
local macro_rules | `(tactic| walk_at "compareOp Eq float int") => `(tactic| (with_reducible refine' r_eq_fi ?x ?al ?au ?_; (case x => walk_at "m.hx"); (case al => walk_at "m.bnd"); (case au => walk_at "m.bnd"); k_whole; (try dsimp only)))
local macro_rules | `(tactic| walk_at "compareOp NotEq float int") => `(tactic| (with_reducible refine' r_ne_fi ?x ?al ?au ?_; (case x => walk_at "m.hx"); (case al => walk_at "m.bnd"); (case au => walk_at "m.bnd"); k_whole; (try dsimp only)))
local macro_rules | `(tactic| walk_at "compareOp Eq float float") => `(tactic| (with_reducible refine' r_eq_ff ?x ?y ?al ?au ?bl ?bu ?_; (case x => walk_at "m.hx"); (case y => walk_at "m.hx"); (case al => walk_at "m.bnd"); (case au => walk_at "m.bnd"); (case bl => walk_at "m.bnd"); (case bu => walk_at "m.bnd"); k_whole; (try dsimp only)))
local macro_rules | `(tactic| walk_at "compareOp NotEq float float") => `(tactic| (with_reducible refine' r_ne_ff ?x ?y ?al ?au ?bl ?bu ?_; (case x => walk_at "m.hx"); (case y => walk_at "m.hx"); (case al => walk_at "m.bnd"); (case au => walk_at "m.bnd"); (case bl => walk_at "m.bnd"); (case bu => walk_at "m.bnd"); k_whole; (try dsimp only)))
local macro_rules | `(tactic| walk_at "truthy float") => `(tactic| (with_reducible refine' r_truthy ?x ?al ?au ?_; (case x => walk_at "m.hx"); (case al => walk_at "m.bnd"); (case au => walk_at "m.bnd"); k_whole; (try dsimp only)))
-- // and % by a positive divisor: / and % of Int
local macro_rules | `(tactic| walk_at "binaryOp Mod int int") => `(tactic| (with_reducible refine' r_mod_ii ?z ?_; (case z => first | decide | walk_at "m.bnd"); k_whole; (try dsimp only)))
local macro_rules | `(tactic| walk_at "binaryOp FloorDiv int int") => `(tactic| (with_reducible refine' r_fdiv_ii ?z ?y ?_; (case z => first | decide | walk_at "m.bnd"); (case y => first | decide | walk_at "m.bnd"); k_whole; (try dsimp only)))

local macro_rules | `(tactic| walk_at "m.ints") => `(tactic| first | exact IntsAre.nil | (apply IntsAre.cons; walk_at "m.ints"))
local macro_rules | `(tactic| walk_at "m.any") => `(tactic| (all_goals (intro hP9; (simp only [anyP, or_false] at hP9); (try dsimp only))))
local macro_rules | `(tactic| walk_at "compareOp In int ref") => `(tactic| (k_dflt first
  | (refine' r_in_T ?N ?m ?i ?_ ?_; (case N => k_asm); (case m => k_mem); (case i => walk_at "m.ints"))
  | (refine' r_in_L ?N ?m ?i ?_ ?_; (case N => k_asm); (case m => k_mem); (case i => walk_at "m.ints"))
  | (refine' r_in_K ?F ?X ?l ?i ?_ ?_; (case F => k_asm); (case X => k_asm); (case l => k_is); (case i => walk_at "m.ints"))); walk_at "m.any")
-- no joining of a call's ways: our claims do
local macro_rules | `(tactic| walk_at "eval Call") => `(tactic| (k_dflt (refine Call_ ?_)))
-- a name: the module's (but for «leap», a local of from_jd too), else a local's value
local macro_rules | `(tactic| walk_at "m.glob") => `(tactic| (
  (fail_if_success (with_reducible show wpAny _ _ (eval (Expr.Name (Str.ofString "leap") _) _) _ _ _));
  refine' q_glob ?F ?X ?T ?e ?_ ?a ?b ?d; (case F => k_asm); (case X => k_asm); (case T => k_asm); (case e => k_is); (case a => kernel_rfl); (case b => kernel_rfl); (case d => kernel_rfl); k_whole))
local macro_rules | `(tactic| walk_at "m.boot") => `(tactic| (
  refine' q_boot ?F ?X ?T ?e ?v ?n ?_ ?a ?b ?d; (case F => k_asm); (case X => k_asm); (case T => k_asm); (case e => k_is); (case v => k_dflt boot_fast); (case n => decide); (case a => kernel_rfl); (case b => kernel_rfl); (case d => kernel_rfl); k_whole))
local macro_rules | `(tactic| walk_at "m.loc") => `(tactic| (
  refine' q_loc ?F ?v ?_ ?a ?b ?d; (case F => k_dflt k_asm); (case v => k_dflt rfl); (case a => kernel_rfl); (case b => kernel_rfl); (case d => kernel_rfl); k_whole))
local macro_rules | `(tactic| walk_at "eval Name") => `(tactic| (k_here; first
  | (with_reducible walk_at "m.glob")
  | (with_reducible walk_at "m.loc")
  | (with_reducible walk_at "m.boot")))

abbrev listI (vs : List Value) : Obj := W.listOf vs.toArray 0
abbrev RetLs (news : List (Addr × Obj)) (h₀ : Heap) (L : Addr) (m : Str → Option Value) (s : Shared) (Q E : Value → Shared → Prop) : Prop :=
  ∀ (h' : Heap) (tk' : Nat) (x : Addr) (t1 t2 t3 t4 t5 t6 t7 : Tok), Fr h₀ L h' m → News h₀ L h' ((x, W.listOf #[.int 3 t1, .int 6 t2, .int 8 t3, .int 11 t4, .int 14 t5, .int 17 t6, .int 19 t7] 0) :: news) → Q (.ref x) { s with heap := h', toks := tk' }
theorem longs_ok (w : World) (news : List (Addr × Obj)) :
    Cl w 236 news [] 1 8 (RetLs news) := by
  unfold Cl RetLs
  k_fill
  intro p loose mean mg mb dp un gd cn cs a ccd cl outer A₀ base h₀ L m s Q E B F X N T hk hd' hu hret
  refine wpAny_call ?_
  k_dflt cell_enter
  k_steps
  all_goals exact hret _ _ _ _ _ _ _ _ _ _ (by k_asm) (by k_asm)
local macro_rules | `(tactic| walk_at "m.useLs") => `(tactic| (intro h9 tk9 x9 t91 t92 t93 t94 t95 t96 t97 F9 N9; (try dsimp only); (try k_fold)))
local macro_rules | `(tactic| walk_at "call ref") => `(tactic| (k_here; (with_reducible show wpAny _ _ (call (Value.ref 236) _) _ _ _); k_dflt (refine' use_cl (longs_ok _ _) ?k1 ?k2 ?k3 ?k4 ?k5 ?kK ?kd ?ku ?_; walk_at "m.prem"; walk_at "m.useLs")))
theorem long_iff (y : Int) : ((y - 1) % 19 + 1 = 3 ∨ (y - 1) % 19 + 1 = 6 ∨ (y - 1) % 19 + 1 = 8 ∨ (y - 1) % 19 + 1 = 11 ∨ (y - 1) % 19 + 1 = 14 ∨ (y - 1) % 19 + 1 = 17 ∨ (y - 1) % 19 + 1 = 19) ↔ (y * 7 + 1) % 19 < 7 := by
  obtain ⟨q, r, rfl, h0, h1⟩ : ∃ q r : Int, y = 19 * q + r ∧ 0 ≤ r ∧ r < 19 := ⟨y / 19, y % 19, by omega, by omega, by omega⟩
  have : r = 0 ∨ r = 1 ∨ r = 2 ∨ r = 3 ∨ r = 4 ∨ r = 5 ∨ r = 6 ∨ r = 7 ∨ r = 8 ∨ r = 9 ∨ r = 10 ∨ r = 11 ∨ r = 12 ∨ r = 13 ∨ r = 14 ∨ r = 15 ∨ r = 16 ∨ r = 17 ∨ r = 18 := by omega
  rcases this with rfl | rfl | rfl | rfl | rfl | rfl | rfl | rfl | rfl | rfl | rfl | rfl | rfl | rfl | rfl | rfl | rfl | rfl | rfl <;> omega
theorem long_ok (w : World) (news : List (Addr × Obj)) (y : Int) (t : Tok) :
    Cl w 250 news [.int y t] 2 16 (RetB news ((y * 7 + 1) % 19 < 7)) := by
  unfold Cl RetB
  k_fill
  intro p loose mean mg mb dp un gd cn cs a ccd cl outer A₀ base h₀ L m s Q E B F X N T hk hd' hu hret
  refine wpAny_call ?_
  k_dflt cell_enter
  k_steps
  all_goals refine endB (E := E) hret (by k_asm) (by walk_at "m.news") ?_
  all_goals (rw [← long_iff]; first | exact ⟨fun _ => by assumption, fun _ => rfl⟩ | exact ⟨fun c => absurd c Bool.false_ne_true, fun c => absurd c (by assumption)⟩)

end Mine
end

section
open PySem PySem.W PyProof.Rows
set_option maxRecDepth 100000
set_option maxHeartbeats 8000000
set_option linter.unusedVariables false
set_option pp.maxSteps 3000
namespace Mine
theorem top_off_K2 : True := by
  w_top off
  trivial
open PySem PySem.Calls PyProof.Rows
-- small words of ours, as lines of walk_at
local macro_rules | `(tactic| walk_at "m.bools") => `(tactic| (simp only [decide_eq_true_eq, decide_eq_false_iff_not, Bool.not_eq_true, Bool.not_eq_false, Bool.and_eq_true, Bool.or_eq_true, Bool.not_eq_true', Bool.not_eq_false', beq_iff_eq, bne_iff_ne, beq_eq_false_iff_ne, bne_eq_false_iff_eq, Bool.and_eq_false_iff, Bool.or_eq_false_iff, ne_eq, Decidable.not_not] at *))
local macro_rules | `(tactic| walk_at "m.bnd") => `(tactic| first | omega | decide | ((try walk_at "m.bools"); omega) | (exfalso; (try walk_at "m.bools"); simp_all; omega))
local macro_rules | `(tactic| walk_at "m.hx") => `(tactic| first | with_reducible exact rfl | exact litH | exact litG | exact litHalf)
local macro_rules | `(tactic| walk_at "m.news") => `(tactic| first | k_asm | (refine' cb_drop ?cbN ?cbS; (case cbN => assumption); (case cbS => (intro qN hN; repeat (first | exact hN | refine List.mem_cons_of_mem _ ?_)))))
-- use a claim at a call
local macro_rules | `(tactic| walk_at "m.prem") => `(tactic| (
  (case k1 => k_asm); (case k2 => k_asm); (case k3 => k_asm); (case k4 => k_asm); (case k5 => k_asm);
  (case kK => first | exact rfl | assumption); (case kd => ktr_room); (case ku => ktr_units)))

-- floats
local macro_rules | `(tactic| walk_at "binaryOp Add float int") => `(tactic| first
  | (with_reducible refine' r_add_fi ?x ?al ?au ?nl ?nu ?_; (case x => walk_at "m.hx"); (case al => walk_at "m.bnd"); (case au => walk_at "m.bnd"); (case nl => walk_at "m.bnd"); (case nu => walk_at "m.bnd"); k_whole; (try dsimp only))
  | (with_reducible refine' add_fi_fits ?n ?_; (case n => exact fitsH (by walk_at "m.bnd")); k_whole; (try dsimp only)))
local macro_rules | `(tactic| walk_at "inplaceOp Add float int") => `(tactic| (with_reducible refine' r_iadd_fi rfl ?x ?al ?au ?nl ?nu ?_; (case x => walk_at "m.hx"); (case al => walk_at "m.bnd"); (case au => walk_at "m.bnd"); (case nl => walk_at "m.bnd"); (case nu => walk_at "m.bnd"); k_whole; (try dsimp only)))
local macro_rules | `(tactic| walk_at "binaryOp Add int float") => `(tactic| (with_reducible refine' r_add_if ?x ?al ?au ?nl ?nu ?_; (case x => walk_at "m.hx"); (case al => walk_at "m.bnd"); (case au => walk_at "m.bnd"); (case nl => walk_at "m.bnd"); (case nu => walk_at "m.bnd"); k_whole; (try dsimp only)))
local macro_rules | `(tactic| walk_at "binaryOp Sub float int") => `(tactic| (with_reducible refine' r_sub_fi ?x ?al ?au ?nl ?nu ?_; (case x => walk_at "m.hx"); (case al => walk_at "m.bnd"); (case au => walk_at "m.bnd"); (case nl => walk_at "m.bnd"); (case nu => walk_at "m.bnd"); k_whole; (try dsimp only)))
local macro_rules | `(tactic| walk_at "binaryOp Sub int float") => `(tactic| (with_reducible refine' r_sub_if ?x ?al ?au ?nl ?nu ?_; (case x => walk_at "m.hx"); (case al => walk_at "m.bnd"); (case au => walk_at "m.bnd"); (case nl => walk_at "m.bnd"); (case nu => walk_at "m.bnd"); k_whole; (try dsimp only)))
local macro_rules | `(tactic| walk_at "binaryOp Mult float int") => `(tactic| (with_reducible refine' r_mul_fi ?x ?al ?au ?z ?nl ?nu ?_; (case x => walk_at "m.hx"); (case al => walk_at "m.bnd"); (case au => walk_at "m.bnd"); (case z => walk_at "m.bnd"); (case nl => walk_at "m.bnd"); (case nu => walk_at "m.bnd"); k_whole; (try dsimp only)))
local macro_rules | `(tactic| walk_at "binaryOp Add float float") => `(tactic| (with_reducible refine' r_add_ff ?x ?y ?al ?au ?bl ?bu ?_; (case x => walk_at "m.hx"); (case y => walk_at "m.hx"); (case al => walk_at "m.bnd"); (case au => walk_at "m.bnd"); (case bl => walk_at "m.bnd"); (case bu => walk_at "m.bnd"); k_whole; (try dsimp only)))
local macro_rules | `(tactic| walk_at "binaryOp Sub float float") => `(tactic| (with_reducible refine' r_sub_ff ?x ?y ?al ?au ?bl ?bu ?_; (case x => walk_at "m.hx"); (case y => walk_at "m.hx"); (case al => walk_at "m.bnd"); (case au => walk_at "m.bnd"); (case bl => walk_at "m.bnd"); (case bu => walk_at "m.bnd"); k_whole; (try dsimp only)))
local macro_rules | `(tactic| walk_at "binaryOp Div float int") => `(tactic| (with_reducible refine' r_div_fi rfl ?x ?z ?nl ?nu ?_; (case x => walk_at "m.hx"); (case z => walk_at "m.bnd"); (case nl => walk_at "m.bnd"); (case nu => walk_at "m.bnd"); k_whole; (try dsimp only)))
local macro_rules | `(tactic| walk_at "binaryOp Div int int") => `(tactic| (with_reducible refine' r_div_ii rfl ?z ?nl ?nu ?_; (case z => walk_at "m.bnd"); (case nl => walk_at "m.bnd"); (case nu => walk_at "m.bnd"); k_whole; (try dsimp only)))
local macro_rules | `(tactic| walk_at "binaryOp Mod float int") => `(tactic| (with_reducible refine' r_mod_fi rfl ?x ?al ?au ?z ?nl ?nu ?_; (case x => walk_at "m.hx"); (case al => walk_at "m.bnd"); (case au => walk_at "m.bnd"); (case z => walk_at "m.bnd"); (case nl => walk_at "m.bnd"); (case nu => walk_at "m.bnd"); k_whole; (try dsimp only)))
local macro_rules | `(tactic| walk_at "call builtin:math.floor") => `(tactic| first
  | (with_reducible refine' r_floor_div rfl ?al ?au ?z ?n ?_; (case al => walk_at "m.bnd"); (case au => walk_at "m.bnd"); (case z => walk_at "m.bnd"); (case n => walk_at "m.bnd"); k_whole; (try dsimp only))
  | (with_reducible refine' r_floor_ii rfl ?al ?au ?z ?n ?_; (case al => walk_at "m.bnd"); (case au => walk_at "m.bnd"); (case z => walk_at "m.bnd"); (case n => walk_at "m.bnd"); k_whole; (try dsimp only))
  | (with_reducible refine' r_floor_m rfl ?m1 ?m2 ?j1 ?j2 ?d1 ?d2 ?_; (case m1 => walk_at "m.bnd"); (case m2 => walk_at "m.bnd"); (case j1 => walk_at "m.bnd"); (case j2 => walk_at "m.bnd"); (case d1 => walk_at "m.bnd"); (case d2 => walk_at "m.bnd"); k_whole; (try dsimp only))
  | (with_reducible refine' r_floor_H rfl ?x ?al ?au ?_; (case x => walk_at "m.hx"); (case al => walk_at "m.bnd"); (case au => walk_at "m.bnd"); k_whole; (try dsimp only)))
local macro_rules | `(tactic| walk_at "call builtin:math.trunc") => `(tactic| (with_reducible refine' r_trunc_H rfl ?x ?z ?al ?au ?_; (case x => walk_at "m.hx"); (case z => walk_at "m.bnd"); (case al => walk_at "m.bnd"); (case au => walk_at "m.bnd"); k_whole; (try dsimp only)))
local macro_rules | `(tactic| walk_at "call type:int") => `(tactic| (with_reducible refine' r_int_H rfl ?x ?z ?al ?au ?_; (case x => walk_at "m.hx"); (case z => walk_at "m.bnd"); (case al => walk_at "m.bnd"); (case au => walk_at "m.bnd"); k_whole; (try dsimp only)))
local macro_rules | `(tactic| walk_at "compareOp Lt float int") => `(tactic| (with_reducible refine' r_lt_fi ?x ?al ?au ?_; (case x => walk_at "m.hx"); (case al => walk_at "m.bnd"); (case au => walk_at "m.bnd"); k_whole; (try dsimp only)))
local macro_rules | `(tactic| walk_at "compareOp Eq float int") => `(tactic| (with_reducible refine' r_eq_fi ?x ?al ?au ?_; (case x => walk_at "m.hx"); (case al => walk_at "m.bnd"); (case au => walk_at "m.bnd"); k_whole; (try dsimp only)))
local macro_rules | `(tactic| walk_at "compareOp NotEq float int") => `(tactic| (with_reducible refine' r_ne_fi ?x ?al ?au ?_; (case x => walk_at "m.hx"); (case al => walk_at "m.bnd"); (case au => walk_at "m.bnd"); k_whole; (try dsimp only)))
local macro_rules | `(tactic| walk_at "compareOp Eq float float") => `(tactic| (with_reducible refine' r_eq_ff ?x ?y ?al ?au ?bl ?bu ?_; (case x => walk_at "m.hx"); (case y => walk_at "m.hx"); (case al => walk_at "m.bnd"); (case au => walk_at "m.bnd"); (case bl => walk_at "m.bnd"); (case bu => walk_at "m.bnd"); k_whole; (try dsimp only)))
local macro_rules | `(tactic| walk_at "compareOp NotEq float float") => `(tactic| (with_reducible refine' r_ne_ff ?x ?y ?al ?au ?bl ?bu ?_; (case x => walk_at "m.hx"); (case y => walk_at "m.hx"); (case al => walk_at "m.bnd"); (case au => walk_at "m.bnd"); (case bl => walk_at "m.bnd"); (case bu => walk_at "m.bnd"); k_whole; (try dsimp only)))
local macro_rules | `(tactic| walk_at "truthy float") => `(tactic| (with_reducible refine' r_truthy ?x ?al ?au ?_; (case x => walk_at "m.hx"); (case al => walk_at "m.bnd"); (case au => walk_at "m.bnd"); k_whole; (try dsimp only)))
-- // and % by a positive divisor: / and % of Int
local macro_rules | `(tactic| walk_at "binaryOp Mod int int") => `(tactic| (with_reducible refine' r_mod_ii ?z ?_; (case z => first | decide | walk_at "m.bnd"); k_whole; (try dsimp only)))
local macro_rules | `(tactic| walk_at "binaryOp FloorDiv int int") => `(tactic| (with_reducible refine' r_fdiv_ii ?z ?y ?_; (case z => first | decide | walk_at "m.bnd"); (case y => first | decide | walk_at "m.bnd"); k_whole; (try dsimp only)))

local macro_rules | `(tactic| walk_at "m.ints") => `(tactic| first | exact IntsAre.nil | (apply IntsAre.cons; walk_at "m.ints"))
local macro_rules | `(tactic| walk_at "m.any") => `(tactic| (all_goals (intro hP9; (simp only [anyP, or_false] at hP9); (try dsimp only))))
local macro_rules | `(tactic| walk_at "compareOp In int ref") => `(tactic| (k_dflt first
  | (refine' r_in_T ?N ?m ?i ?_ ?_; (case N => k_asm); (case m => k_mem); (case i => walk_at "m.ints"))
  | (refine' r_in_L ?N ?m ?i ?_ ?_; (case N => k_asm); (case m => k_mem); (case i => walk_at "m.ints"))
  | (refine' r_in_K ?F ?X ?l ?i ?_ ?_; (case F => k_asm); (case X => k_asm); (case l => k_is); (case i => walk_at "m.ints"))); walk_at "m.any")
-- no joining of a call's ways: our claims do
local macro_rules | `(tactic| walk_at "eval Call") => `(tactic| (k_dflt (refine Call_ ?_)))
-- a name: the module's (but for «leap», a local of from_jd too), else a local's value
local macro_rules | `(tactic| walk_at "m.glob") => `(tactic| (
  (fail_if_success (with_reducible show wpAny _ _ (eval (Expr.Name (Str.ofString "leap") _) _) _ _ _));
  refine' q_glob ?F ?X ?T ?e ?_ ?a ?b ?d; (case F => k_asm); (case X => k_asm); (case T => k_asm); (case e => k_is); (case a => kernel_rfl); (case b => kernel_rfl); (case d => kernel_rfl); k_whole))
local macro_rules | `(tactic| walk_at "m.boot") => `(tactic| (
  refine' q_boot ?F ?X ?T ?e ?v ?n ?_ ?a ?b ?d; (case F => k_asm); (case X => k_asm); (case T => k_asm); (case e => k_is); (case v => k_dflt boot_fast); (case n => decide); (case a => kernel_rfl); (case b => kernel_rfl); (case d => kernel_rfl); k_whole))
local macro_rules | `(tactic| walk_at "m.loc") => `(tactic| (
  refine' q_loc ?F ?v ?_ ?a ?b ?d; (case F => k_dflt k_asm); (case v => k_dflt rfl); (case a => kernel_rfl); (case b => kernel_rfl); (case d => kernel_rfl); k_whole))
local macro_rules | `(tactic| walk_at "eval Name") => `(tactic| (k_here; first
  | (with_reducible walk_at "m.glob")
  | (with_reducible walk_at "m.loc")
  | (with_reducible walk_at "m.boot")))

local macro_rules | `(tactic| walk_at "m.useB") => `(tactic| (intro h9 tk9 F9 N9; refine ⟨fun hP9 => ?_, fun hP9 => ?_⟩ <;> (try dsimp only) <;> (try k_fold)))
local macro_rules | `(tactic| walk_at "m.useV") => `(tactic| (intro t9 h9 tk9 v9 hv9 F9 N9; (try dsimp only); (try k_fold)))
local macro_rules | `(tactic| walk_at "call ref") => `(tactic| (k_here; (with_reducible show wpAny _ _ (call (Value.ref 57) [Value.int _ _]) _ _ _); k_dflt (refine' use_cl (isleap_ok _ _ _ _) ?k1 ?k2 ?k3 ?k4 ?k5 ?kK ?kd ?ku ?_; walk_at "m.prem"; walk_at "m.useB")))


local macro_rules | `(tactic| walk_at "m.useLs") => `(tactic| (intro h9 tk9 x9 t91 t92 t93 t94 t95 t96 t97 F9 N9; (try dsimp only); (try k_fold)))
local macro_rules | `(tactic| walk_at "call ref") => `(tactic| (k_here; (with_reducible show wpAny _ _ (call (Value.ref 236) _) _ _ _); k_dflt (refine' use_cl (longs_ok _ _) ?k1 ?k2 ?k3 ?k4 ?k5 ?kK ?kd ?ku ?_; walk_at "m.prem"; walk_at "m.useLs")))
local macro_rules | `(tactic| walk_at "call ref") => `(tactic| (k_here; (with_reducible show wpAny _ _ (call (Value.ref 250) [Value.int _ _]) _ _ _); k_dflt (refine' use_cl (long_ok _ _ _ _) ?k1 ?k2 ?k3 ?k4 ?k5 ?kK ?kd ?ku ?_; walk_at "m.prem"; walk_at "m.useB")))

section
variable {M : Model} {A : Around} {E : Value → Shared → Prop} {s : Shared} {h₀ : Heap} {L a : Addr} {m : Str → Option Value} {cn : Str} {cs : Scope} {ccd : Value} {cl : List (Str × Addr)} {x : Str} {c : Addr} {o : Obj} {v : Value} {v₀ : Option Value} {news led : List (Addr × Obj)} {Q : Unit → Shared → Prop}
theorem storeC (F : Fr h₀ L s.heap m) (N : News h₀ L s.heap led) (hc : cl.lookup x = some c) (hd : o.data = .cell v₀) (hm : (c, o) ∈ led) (lt : ∀ p ∈ news, p.1 < L) (sub : ∀ p ∈ news, p ∈ led) (lc : L < c)
    (h : ∀ h' o', Fr h₀ L h' m → News h₀ L h' ((c, o') :: news) → o'.data = .cell (some v) → Q () { s with heap := h' })
    (hk : cs.kind = .function) (hx : (envX cn cs L a ccd cl).kindOf x = some .cell) : wpAny M A (storeName (envX cn cs L a ccd cl) x v) Q E s := by
  have N1 : News h₀ L s.heap ((c, o) :: news) := fun p hp => N p ((List.mem_cons.mp hp).elim (fun e => e ▸ hm) (sub p))
  exact storeX_C (v₀ := v₀) F N1 hc (UpdF.head fun p hp => Nat.ne_of_lt (Nat.lt_trans (lt p hp) lc)) hd h hk hx
end
local macro_rules | `(tactic| walk_at "storeName") => `(tactic| (k_here; k_dflt (refine' storeC ?F ?N ?c ?d ?mm ?lt ?sub ?lc ?_ ?a ?b; (case a => rfl); (case b => rfl); (case F => k_asm); (case N => k_asm); (case c => rfl); (case d => assumption); (case mm => k_mem); (case lt => assumption); (case sub => (intro qN hN; repeat (first | exact hN | refine List.mem_cons_of_mem _ ?_))); (case lc => exact Nat.lt_succ_self _); k_whole; intro h' o' F' N' d'; (try dsimp only at N'))))
theorem r_divmod {prog : Program} {w : World} {A : Around} {E : Value → Shared → Prop} {s : Shared} {Q : Value → Shared → Prop} {a b : Int} {t u : Tok} {h₀ : Heap} {L : Addr} {m : Str → Option Value} {news : List (Addr × Obj)} (F : Fr h₀ L s.heap m) (N : News h₀ L s.heap news) (hb : 0 < b) (hb2 : b < 2 ^ 29)
    (h : ∀ (q r : Int) (D : Addr) (h' : Heap) (tk : Nat) (t1 t2 : Tok), q = a / b → r = a % b → Fr h₀ L h' m → News h₀ L h' ((D, ({ cls := .type "tuple", data := .seq #[.int q t1, .int r t2] } : Obj)) :: news) → (∀ p ∈ news, p.1 < D) → Q (.ref D) { s with heap := h', toks := tk }) :
    wpAny (model prog w) A (call (.builtin "divmod") [.int a t, .int b u]) Q E s := by
  refine divmod_N F N (by omega) ?_ (.inl (PyProof.noPylong_small (by omega)))
  intro h' F' N'
  rw [Int.fdiv_eq_ediv_of_nonneg _ (by omega), Int.fmod_eq_emod_of_nonneg _ (by omega)] at N'
  exact h _ _ _ h' _ _ _ rfl rfl F' N' (fun p hp => Heap.lt_size (N p hp).1)
local macro_rules | `(tactic| walk_at "call builtin:divmod") => `(tactic| (k_here; k_dflt (refine' r_divmod ?F ?N ?b ?bb ?_; (case F => k_asm); (case N => k_asm); (case b => decide); (case bb => decide); k_whole); intro q9 r9 D9 h9 tk9 t91 t92 hq9 hr9 F9 N9 l9; (try dsimp only); (try k_lt l9)))

/-- how many of the long years lie up to the place p of the round -/
def cntL (p : Int) : Int := (([3, 6, 8, 11, 14, 17, 19] : List Int).filter fun n => decide (n ≤ p)).length

theorem r_len_le {prog : Program} {w : World} {A : Around} {E : Value → Shared → Prop} {s : Shared} {Q : Value → Shared → Prop} {D : Addr} {ys : List Value} {past : Int}
    (hl : s.heap.IsList D ys.toArray) (hn : ys.length = (([3, 6, 8, 11, 14, 17, 19] : List Int).filter fun n => decide (n ≤ past)).length)
    (h : 0 ≤ cntL past → cntL past ≤ 7 → Q (.int (cntL past) (s.toks + 1)) { s with toks := s.toks + 1 + 1 }) : wpAny (model prog w) A (call (.builtin "len") [.ref D]) Q E s := by
  have hb := List.length_filter_le (fun n => decide (n ≤ past)) ([3, 6, 8, 11, 14, 17, 19] : List Int)
  have e : ((ys.toArray.size : Nat) : Int) = cntL past := by rw [List.size_toArray, hn]; rfl
  have h7 : cntL past ≤ 7 := by
    unfold cntL
    simp only [List.length_cons, List.length_nil] at hb
    omega
  have h0 : 0 ≤ cntL past := by unfold cntL; omega
  refine PyProof.Rows.len_list hl (by rw [e]; omega) ?_
  rw [e]
  exact h h0 h7
local macro_rules | `(tactic| walk_at "eval ListComp") => `(tactic| (k_here; k_dflt (refine' comp_le [3, 6, 8, 11, 14, 17, 19] ?F ?N ?o ?a ?b ?c ?d ?e ?f ?g ?h ?i ?j ?k ?l ?mm ?n ?q ?_; (case F => k_asm); (case N => k_asm); (case o => assumption); (case a => with_unfolding_all rfl); (case b => with_unfolding_all rfl); (case c => decide); (case d => rfl); (case e => decide); (case f => rfl); (case g => (intro _; rfl)); (case h => (intro _; rfl)); (case i => (intro _; rfl)); (case j => rfl); (case k => decide); (case l => decide); (case mm => with_unfolding_all rfl); (case n => decide); (case q => (intro _; rfl)); k_whole)))
local macro_rules | `(tactic| walk_at "LeSrc") => `(tactic| ((rename Fr _ _ _ _ => lF'); (rename News _ _ _ _ => lN'); (refine ⟨_, [_, _, _, _, _, _, _], _, _, rfl, News.isList lN' (List.mem_cons_self ..), ?_, by assumption, lF', (fun qN hN => lN' qN (List.mem_cons_of_mem _ hN)), ?_⟩); (focus (walk_at "m.ints")); clear lF' lN'; intro D9 ys9 h9 tk9 F9 N9 hL9 hn9; (try dsimp only); (try k_fold)))
local macro_rules | `(tactic| walk_at "call builtin:len") => `(tactic| (k_here; k_dflt (refine' r_len_le ?l ?n ?_; (case l => assumption); (case n => assumption); k_whole; intro c09 c79; (try dsimp only))))

/-! the Hebrew new year: moons and postponements tell the same day as the project's delays -/
theorem cnt_moons {q r : Int} (h0 : 0 ≤ r) (h1 : r < 19) : 235 * q + 12 * r + cntL r = (235 * (19 * q + r + 1) - 234) / 19 := by
  have : r = 0 ∨ r = 1 ∨ r = 2 ∨ r = 3 ∨ r = 4 ∨ r = 5 ∨ r = 6 ∨ r = 7 ∨ r = 8 ∨ r = 9 ∨ r = 10 ∨ r = 11 ∨ r = 12 ∨ r = 13 ∨ r = 14 ∨ r = 15 ∨ r = 16 ∨ r = 17 ∨ r = 18 := by omega
  rcases this with rfl | rfl | rfl | rfl | rfl | rfl | rfl | rfl | rfl | rfl | rfl | rfl | rfl | rfl | rfl | rfl | rfl | rfl | rfl
  · rw [show cntL 0 = 0 from by decide]; omega
  · rw [show cntL 1 = 0 from by decide]; omega
  · rw [show cntL 2 = 0 from by decide]; omega
  · rw [show cntL 3 = 1 from by decide]; omega
  · rw [show cntL 4 = 1 from by decide]; omega
  · rw [show cntL 5 = 1 from by decide]; omega
  · rw [show cntL 6 = 2 from by decide]; omega
  · rw [show cntL 7 = 2 from by decide]; omega
  · rw [show cntL 8 = 3 from by decide]; omega
  · rw [show cntL 9 = 3 from by decide]; omega
  · rw [show cntL 10 = 3 from by decide]; omega
  · rw [show cntL 11 = 4 from by decide]; omega
  · rw [show cntL 12 = 4 from by decide]; omega
  · rw [show cntL 13 = 4 from by decide]; omega
  · rw [show cntL 14 = 5 from by decide]; omega
  · rw [show cntL 15 = 5 from by decide]; omega
  · rw [show cntL 16 = 5 from by decide]; omega
  · rw [show cntL 17 = 6 from by decide]; omega
  · rw [show cntL 18 = 6 from by decide]; omega
theorem moons_next (y : Int) : ((y * 7 + 1) % 19 < 7 → (235 * (y + 1) - 234) / 19 = (235 * y - 234) / 19 + 13) ∧ (¬ (y * 7 + 1) % 19 < 7 → (235 * (y + 1) - 234) / 19 = (235 * y - 234) / 19 + 12) := by
  obtain ⟨q, r, rfl, h0, h1⟩ : ∃ q r : Int, y = 19 * q + r ∧ 0 ≤ r ∧ r < 19 := ⟨y / 19, y % 19, by omega, by omega, by omega⟩
  have : r = 0 ∨ r = 1 ∨ r = 2 ∨ r = 3 ∨ r = 4 ∨ r = 5 ∨ r = 6 ∨ r = 7 ∨ r = 8 ∨ r = 9 ∨ r = 10 ∨ r = 11 ∨ r = 12 ∨ r = 13 ∨ r = 14 ∨ r = 15 ∨ r = 16 ∨ r = 17 ∨ r = 18 := by omega
  rcases this with rfl | rfl | rfl | rfl | rfl | rfl | rfl | rfl | rfl | rfl | rfl | rfl | rfl | rfl | rfl | rfl | rfl | rfl | rfl <;> constructor <;> intro h <;> omega
/-- a first day put off from three weekdays -/
def off3 (d : Int) : Int := if d % 7 = 2 ∨ d % 7 = 4 ∨ d % 7 = 6 then d + 1 else d
theorem d1_off (y : Int) : d1 y = off3 (d0 y) := by
  unfold d1 off3
  have : d0 y % 7 = 0 ∨ d0 y % 7 = 1 ∨ d0 y % 7 = 2 ∨ d0 y % 7 = 3 ∨ d0 y % 7 = 4 ∨ d0 y % 7 = 5 ∨ d0 y % 7 = 6 := by omega
  split <;> split <;> omega
theorem off3_of {d : Int} {v : Int} (h : d % 7 = v) (hv : v = 2 ∨ v = 4 ∨ v = 6) : off3 d = d + 1 := if_pos (by omega)
theorem off3_no {d : Int} {v : Int} (h : d % 7 = v) (hv : ¬ (v = 2 ∨ v = 4 ∨ v = 6)) : off3 d = d := if_neg (by omega)
/-- the weekday alone counts -/
theorem off3_add (w d : Int) : off3 (7 * w + d) = 7 * w + off3 d := by
  unfold off3
  have e : (7 * w + d) % 7 = d % 7 := by omega
  rw [e]
  split <;> omega
def newDay (D P : Int) (l l1 : Bool) : Int :=
  off3 (if 19440 ≤ P then D + 1 else if D % 7 = 1 ∧ 9924 ≤ P ∧ l = false then D + 1 else if D % 7 = 0 ∧ 16789 ≤ P ∧ l1 = true then D + 1 else D)
/-- the project's way, told by the weekday v, the parts' steps a, b, c and the two leap years -/
def prj (v a b c : Int) : Int := off3 (v + a) + (if off3 b - off3 (v + a) = 356 then 2 else if off3 (v + a) - off3 c = 382 then 1 else 0)
theorem newDay_ok {D P a b c : Int} {l l1 : Bool} (h0 : 0 ≤ P) (h1 : P < 25920) (ha : a = D + (P + 6480) / 25920)
    (hb : b = if l then D + 383 + (P + 29749) / 25920 else D + 354 + (P + 15996) / 25920) (hc : c = if l1 then D - 384 + (P + 9131) / 25920 else D - 355 + (P + 22884) / 25920) :
    off3 a + (if off3 b - off3 a = 356 then 2 else if off3 a - off3 c = 382 then 1 else 0) = newDay D P l l1 := by
  obtain ⟨w, v, hD, hv⟩ : ∃ w v : Int, D = 7 * w + v ∧ (v = 0 ∨ v = 1 ∨ v = 2 ∨ v = 3 ∨ v = 4 ∨ v = 5 ∨ v = 6) := ⟨D / 7, D % 7, by omega, by omega⟩
  subst hD
  have e1 : (P + 6480) / 25920 = if 19440 ≤ P then 1 else 0 := by split <;> omega
  have e2 : (P + 29749) / 25920 = if 22091 ≤ P then 2 else 1 := by split <;> omega
  have e3 : (P + 15996) / 25920 = if 9924 ≤ P then 1 else 0 := by split <;> omega
  have e4 : (P + 9131) / 25920 = if 16789 ≤ P then 1 else 0 := by split <;> omega
  have e5 : (P + 22884) / 25920 = if 3036 ≤ P then 1 else 0 := by split <;> omega
  rw [e1] at ha
  rw [e2, e3] at hb
  rw [e4, e5] at hc
  clear e1 e2 e3 e4 e5
  have sh : ∀ d : Int, 7 * w + v + d = 7 * w + (v + d) := fun d => by omega
  have hm : (7 * w + v) % 7 = v := by omega
  unfold newDay
  rw [hm]
  have key : ∀ p1 p2 p3 p4 p5 : Bool, (p1 = true → p2 = true) → (p2 = true → p3 = true) → (p3 = true → p4 = true) → (p4 = true → p5 = true) →
      ∀ v : Fin 7, ∀ l l1 : Bool,
      (off3 ((v.val : Int) + (if p2 then 1 else 0)) + (if off3 (if l then (v.val : Int) + 383 + (if p1 then 2 else 1) else (v.val : Int) + 354 + (if p4 then 1 else 0)) - off3 ((v.val : Int) + (if p2 then 1 else 0)) = 356 then 2
        else if off3 ((v.val : Int) + (if p2 then 1 else 0)) - off3 (if l1 then (v.val : Int) - 384 + (if p3 then 1 else 0) else (v.val : Int) - 355 + (if p5 then 1 else 0)) = 382 then 1 else 0) : Int)
      = off3 (if p2 then (v.val : Int) + 1 else if (v.val : Int) = 1 ∧ p4 = true ∧ l = false then (v.val : Int) + 1 else if (v.val : Int) = 0 ∧ p3 = true ∧ l1 = true then (v.val : Int) + 1 else (v.val : Int)) := by decide +kernel
  have k := key (decide (22091 ≤ P)) (decide (19440 ≤ P)) (decide (16789 ≤ P)) (decide (9924 ≤ P)) (decide (3036 ≤ P)) (by simp only [decide_eq_true_eq]; omega) (by simp only [decide_eq_true_eq]; omega) (by simp only [decide_eq_true_eq]; omega) (by simp only [decide_eq_true_eq]; omega)
    ⟨v.toNat, by omega⟩ l l1
  have ev : ((v.toNat : Nat) : Int) = v := by omega
  simp only [ev, decide_eq_true_eq] at k
  have ea : a = 7 * w + (v + if 19440 ≤ P then 1 else 0) := by rw [ha, sh]
  have eb : b = 7 * w + (if l = true then v + 383 + (if 22091 ≤ P then 2 else 1) else v + 354 + (if 9924 ≤ P then 1 else 0)) := by rw [hb]; split <;> omega
  have ec : c = 7 * w + (if l1 = true then v - 384 + (if 16789 ≤ P then 1 else 0) else v - 355 + (if 3036 ≤ P then 1 else 0)) := by rw [hc]; split <;> omega
  rw [ea, eb, ec, off3_add, off3_add, off3_add]
  have f1 : ∀ x z : Int, 7 * w + x - (7 * w + z) = x - z := fun x z => by omega
  rw [f1, f1]
  have f2 : (if 19440 ≤ P then 7 * w + v + 1 else if v = 1 ∧ 9924 ≤ P ∧ l = false then 7 * w + v + 1 else if v = 0 ∧ 16789 ≤ P ∧ l1 = true then 7 * w + v + 1 else 7 * w + v) =
      7 * w + (if 19440 ≤ P then v + 1 else if v = 1 ∧ 9924 ≤ P ∧ l = false then v + 1 else if v = 0 ∧ 16789 ≤ P ∧ l1 = true then v + 1 else v) := by
    (repeat' split) <;> omega
  rw [f2, off3_add, ← k]
  omega
theorem d0_of {y M D P : Int} (hM : (235 * y - 234) / 19 = M) (hT : 5604 + 765433 * M = 25920 * D + P) : d0 y = D + (P + 6480) / 25920 := by
  unfold d0
  rw [hM]
  omega
theorem ny_law {y q r D P : Int} (hq : q = (y - 1) / 19) (hr : r = (y - 1) % 19) (hD : D = (5 * 1080 + 204 + (235 * q + 12 * r + cntL r) * (29 * 25920 + 12 * 1080 + 793)) / 25920)
    (hP : P = (5 * 1080 + 204 + (235 * q + 12 * r + cntL r) * (29 * 25920 + 12 * 1080 + 793)) % 25920) (l l1 : Bool) (hl : l = true ↔ (y * 7 + 1) % 19 < 7) (hl1 : l1 = true ↔ ((y - 1) * 7 + 1) % 19 < 7) :
    ny y = newDay D P l l1 := by
  have hM : 235 * q + 12 * r + cntL r = (235 * y - 234) / 19 := by
    rw [cnt_moons (by omega) (by omega)]
    congr 1
    omega
  rw [hM] at hD hP
  generalize hMM : (235 * y - 234) / 19 = M at *
  have hT : 5604 + 765433 * M = 25920 * D + P := by omega
  have p0 : 0 ≤ P ∧ P < 25920 := by omega
  clear hD hP
  have n1 := moons_next y
  have n2 := moons_next (y - 1)
  have e1 : y - 1 + 1 = y := by omega
  rw [e1, hMM] at n2
  rw [hMM] at n1
  have hb : d0 (y + 1) = if l = true then D + 383 + (P + 29749) / 25920 else D + 354 + (P + 15996) / 25920 := by
    cases l
    · have g := n1.2 (fun c => Bool.false_ne_true (hl.mpr c))
      rw [if_neg Bool.false_ne_true, d0_of (D := D + 354) (P := P + 9516) g (by omega)]
      congr 2
      omega
    · have g := n1.1 (hl.mp rfl)
      rw [if_pos rfl, d0_of (D := D + 383) (P := P + 23269) g (by omega)]
      congr 2
      omega
  have hc : d0 (y - 1) = if l1 = true then D - 384 + (P + 9131) / 25920 else D - 355 + (P + 22884) / 25920 := by
    cases l1
    · have g := n2.2 (fun c => Bool.false_ne_true (hl1.mpr c))
      rw [if_neg Bool.false_ne_true, d0_of (D := D - 355) (P := P + 16404) rfl (by omega)]
      congr 2
      omega
    · have g := n2.1 (hl1.mp rfl)
      rw [if_pos rfl, d0_of (D := D - 384) (P := P + 2651) rfl (by omega)]
      congr 2
      omega
  have ha : d0 y = D + (P + 6480) / 25920 := d0_of hMM hT
  unfold ny d2
  rw [d1_off, d1_off, d1_off]
  exact newDay_ok p0.1 p0.2 ha hb hc

theorem lny_ok (w : World) (news : List (Addr × Obj)) (y : Int) (t : Tok) (hy : 3700 ≤ y ∧ y ≤ 13800) :
    Cl w 255 news [.int y t] 3 24 (RetI news (fun v => v = 347998 + ny y)) := by
  unfold Cl RetI
  k_fill
  intro p loose mean mg mb dp un gd cn cs a ccd cl outer A₀ base h₀ L m s Q E B F X N T hk hd' hu hret
  refine wpAny_call ?_
  k_dflt (refine' code_defC ?k1 ?k2 ?k3 ?k4 ?k5 ?kA ?kF ?kK ?k6 ?k7 ?k8 ?k9 ?kB ?kD ?_ ?c2 ?c3 ?c4)
  (case kA => exact rfl)
  (case kF => exact rfl)
  (case kK => assumption)
  (case k1 => k_asm)
  (case k2 => k_asm)
  (case k3 => k_asm)
  (case k4 => exact N)
  (case k5 => k_asm)
  (case k6 => k_dflt k_is)
  (case k7 => k_dflt k_is)
  (case k8 => ktr_room)
  (case k9 => exact BindsTo.of_eq rfl)
  (case kB => exact rfl)
  (case kD => decide +kernel)
  (case c2 => exact rfl)
  (case c3 => exact rfl)
  (case c4 => exact rfl)
  intro g' L' h' tk' cells' FG' F' N' Y' B' X' T' l1
  k_cells Y'
  (try simp only [List.cons_append, List.nil_append] at N')
  (try dsimp only)
  (try k_lift B')
  (try k_fold)
  k_steps
  all_goals refine endI (E := E) hret (by k_asm) (by walk_at "m.news") ?_
  all_goals (
    rw [ny_law (by assumption) (by assumption) (by assumption) (by assumption) (decide ((y * 7 + 1) % 19 < 7)) (decide (((y - 1) * 7 + 1) % 19 < 7)) decide_eq_true_iff decide_eq_true_iff]
    clear hret hu hd'
    unfold newDay
    simp only [decide_eq_true_eq, decide_eq_false_iff_not]
    unfold off3
    (repeat' split) <;> omega)

end Mine
end

section
open PySem PySem.W PyProof.Rows
set_option maxRecDepth 100000
set_option maxHeartbeats 8000000
set_option linter.unusedVariables false
set_option pp.maxSteps 3000
namespace Mine
theorem top_off_K3 : True := by
  w_top off
  trivial
open PySem PySem.Calls PyProof.Rows
-- small words of ours, as lines of walk_at
local macro_rules | `(tactic| walk_at "m.bools") => `(tactic| (simp only [decide_eq_true_eq, decide_eq_false_iff_not, Bool.not_eq_true, Bool.not_eq_false, Bool.and_eq_true, Bool.or_eq_true, Bool.not_eq_true', Bool.not_eq_false', beq_iff_eq, bne_iff_ne, beq_eq_false_iff_ne, bne_eq_false_iff_eq, Bool.and_eq_false_iff, Bool.or_eq_false_iff, ne_eq, Decidable.not_not] at *))
local macro_rules | `(tactic| walk_at "m.bnd") => `(tactic| first | omega | decide | ((try walk_at "m.bools"); omega) | (exfalso; (try walk_at "m.bools"); simp_all; omega))
local macro_rules | `(tactic| walk_at "m.hx") => `(tactic| first | with_reducible exact rfl | exact litH | exact litG | exact litHalf)
local macro_rules | `(tactic| walk_at "m.news") => `(tactic| first | k_asm | (refine' cb_drop ?cbN ?cbS; (case cbN => assumption); (case cbS => (intro qN hN; repeat (first | exact hN | refine List.mem_cons_of_mem _ ?_)))))
-- use a claim at a call
local macro_rules | `(tactic| walk_at "m.prem") => `(tactic| (
  (case k1 => k_asm); (case k2 => k_asm); (case k3 => k_asm); (case k4 => k_asm); (case k5 => k_asm);
  (case kK => first | exact rfl | assumption); (case kd => ktr_room); (case ku => ktr_units)))

-- floats
local macro_rules | `(tactic| walk_at "binaryOp Add float int") => `(tactic| first
  | (with_reducible refine' r_add_fi ?x ?al ?au ?nl ?nu ?_; (case x => walk_at "m.hx"); (case al => walk_at "m.bnd"); (case au => walk_at "m.bnd"); (case nl => walk_at "m.bnd"); (case nu => walk_at "m.bnd"); k_whole; (try dsimp only))
  | (with_reducible refine' add_fi_fits ?n ?_; (case n => exact fitsH (by walk_at "m.bnd")); k_whole; (try dsimp only)))
local macro_rules | `(tactic| walk_at "inplaceOp Add float int") => `(tactic| (with_reducible refine' r_iadd_fi rfl ?x ?al ?au ?nl ?nu ?_; (case x => walk_at "m.hx"); (case al => walk_at "m.bnd"); (case au => walk_at "m.bnd"); (case nl => walk_at "m.bnd"); (case nu => walk_at "m.bnd"); k_whole; (try dsimp only)))
local macro_rules | `(tactic| walk_at "binaryOp Add int float") => `(tactic| (with_reducible refine' r_add_if ?x ?al ?au ?nl ?nu ?_; (case x => walk_at "m.hx"); (case al => walk_at "m.bnd"); (case au => walk_at "m.bnd"); (case nl => walk_at "m.bnd"); (case nu => walk_at "m.bnd"); k_whole; (try dsimp only)))
local macro_rules | `(tactic| walk_at "binaryOp Sub float int") => `(tactic| (with_reducible refine' r_sub_fi ?x ?al ?au ?nl ?nu ?_; (case x => walk_at "m.hx"); (case al => walk_at "m.bnd"); (case au => walk_at "m.bnd"); (case nl => walk_at "m.bnd"); (case nu => walk_at "m.bnd"); k_whole; (try dsimp only)))
local macro_rules | `(tactic| walk_at "binaryOp Sub int float") => `(tactic| (with_reducible refine' r_sub_if ?x ?al ?au ?nl ?nu ?_; (case x => walk_at "m.hx"); (case al => walk_at "m.bnd"); (case au => walk_at "m.bnd"); (case nl => walk_at "m.bnd"); (case nu => walk_at "m.bnd"); k_whole; (try dsimp only)))
local macro_rules | `(tactic| walk_at "binaryOp Mult float int") => `(tactic| (with_reducible refine' r_mul_fi ?x ?al ?au ?z ?nl ?nu ?_; (case x => walk_at "m.hx"); (case al => walk_at "m.bnd"); (case au => walk_at "m.bnd"); (case z => walk_at "m.bnd"); (case nl => walk_at "m.bnd"); (case nu => walk_at "m.bnd"); k_whole; (try dsimp only)))
local macro_rules | `(tactic| walk_at "binaryOp Add float float") => `(tactic| (with_reducible refine' r_add_ff ?x ?y ?al ?au ?bl ?bu ?_; (case x => walk_at "m.hx"); (case y => walk_at "m.hx"); (case al => walk_at "m.bnd"); (case au => walk_at "m.bnd"); (case bl => walk_at "m.bnd"); (case bu => walk_at "m.bnd"); k_whole; (try dsimp only)))
local macro_rules | `(tactic| walk_at "binaryOp Sub float float") => `(tactic| (with_reducible refine' r_sub_ff ?x ?y ?al ?au ?bl ?bu ?_; (case x => walk_at "m.hx"); (case y => walk_at "m.hx"); (case al => walk_at "m.bnd"); (case au => walk_at "m.bnd"); (case bl => walk_at "m.bnd"); (case bu => walk_at "m.bnd"); k_whole; (try dsimp only)))
local macro_rules | `(tactic| walk_at "binaryOp Div float int") => `(tactic| (with_reducible refine' r_div_fi rfl ?x ?z ?nl ?nu ?_; (case x => walk_at "m.hx"); (case z => walk_at "m.bnd"); (case nl => walk_at "m.bnd"); (case nu => walk_at "m.bnd"); k_whole; (try dsimp only)))
local macro_rules | `(tactic| walk_at "binaryOp Div int int") => `(tactic| (with_reducible refine' r_div_ii rfl ?z ?nl ?nu ?_; (case z => walk_at "m.bnd"); (case nl => walk_at "m.bnd"); (case nu => walk_at "m.bnd"); k_whole; (try dsimp only)))
local macro_rules | `(tactic| walk_at "binaryOp Mod float int") => `(tactic| (with_reducible refine' r_mod_fi rfl ?x ?al ?au ?z ?nl ?nu ?_; (case x => walk_at "m.hx"); (case al => walk_at "m.bnd"); (case au => walk_at "m.bnd"); (case z => walk_at "m.bnd"); (case nl => walk_at "m.bnd"); (case nu => walk_at "m.bnd"); k_whole; (try dsimp only)))
local macro_rules | `(tactic| walk_at "call builtin:math.floor") => `(tactic| first
  | (with_reducible refine' r_floor_div rfl ?al ?au ?z ?n ?_; (case al => walk_at "m.bnd"); (case au => walk_at "m.bnd"); (case z => walk_at "m.bnd"); (case n => walk_at "m.bnd"); k_whole; (try dsimp only))
  | (with_reducible refine' r_floor_ii rfl ?al ?au ?z ?n ?_; (case al => walk_at "m.bnd"); (case au => walk_at "m.bnd"); (case z => walk_at "m.bnd"); (case n => walk_at "m.bnd"); k_whole; (try dsimp only))
  | (with_reducible refine' r_floor_m rfl ?m1 ?m2 ?j1 ?j2 ?d1 ?d2 ?_; (case m1 => walk_at "m.bnd"); (case m2 => walk_at "m.bnd"); (case j1 => walk_at "m.bnd"); (case j2 => walk_at "m.bnd"); (case d1 => walk_at "m.bnd"); (case d2 => walk_at "m.bnd"); k_whole; (try dsimp only))
  | (with_reducible refine' r_floor_H rfl ?x ?al ?au ?_; (case x => walk_at "m.hx"); (case al => walk_at "m.bnd"); (case au => walk_at "m.bnd"); k_whole; (try dsimp only)))
local macro_rules | `(tactic| walk_at "call builtin:math.trunc") => `(tactic| (with_reducible refine' r_trunc_H rfl ?x ?z ?al ?au ?_; (case x => walk_at "m.hx"); (case z => walk_at "m.bnd"); (case al => walk_at "m.bnd"); (case au => walk_at "m.bnd"); k_whole; (try dsimp only)))
local macro_rules | `(tactic| walk_at "call type:int") => `(tactic| (with_reducible refine' r_int_H rfl ?x ?z ?al ?au ?_; (case x => walk_at "m.hx"); (case z => walk_at "m.bnd"); (case al => walk_at "m.bnd"); (case au => walk_at "m.bnd"); k_whole; (try dsimp only)))
local macro_rules | `(tactic| walk_at "compareOp Lt float int") => `(tactic| (with_reducible refine' r_lt_fi ?x ?al ?au ?_; (case x => walk_at "m.hx"); (case al => walk_at "m.bnd"); (case au => walk_at "m.bnd"); k_whole; (try dsimp only)))
local macro_rules | `(tactic| walk_at "compareOp Eq float int") => `(tactic| (with_reducible refine' r_eq_fi ?x ?al ?au ?_; (case x => walk_at "m.hx"); (case al => walk_at "m.bnd"); (case au => walk_at "m.bnd"); k_whole; (try dsimp only)))
local macro_rules | `(tactic| walk_at "compareOp NotEq float int") => `(tactic| (with_reducible refine' r_ne_fi ?x ?al ?au ?_; (case x => walk_at "m.hx"); (case al => walk_at "m.bnd"); (case au => walk_at "m.bnd"); k_whole; (try dsimp only)))
local macro_rules | `(tactic| walk_at "compareOp Eq float float") => `(tactic| (with_reducible refine' r_eq_ff ?x ?y ?al ?au ?bl ?bu ?_; (case x => walk_at "m.hx"); (case y => walk_at "m.hx"); (case al => walk_at "m.bnd"); (case au => walk_at "m.bnd"); (case bl => walk_at "m.bnd"); (case bu => walk_at "m.bnd"); k_whole; (try dsimp only)))
local macro_rules | `(tactic| walk_at "compareOp NotEq float float") => `(tactic| (with_reducible refine' r_ne_ff ?x ?y ?al ?au ?bl ?bu ?_; (case x => walk_at "m.hx"); (case y => walk_at "m.hx"); (case al => walk_at "m.bnd"); (case au => walk_at "m.bnd"); (case bl => walk_at "m.bnd"); (case bu => walk_at "m.bnd"); k_whole; (try dsimp only)))
local macro_rules | `(tactic| walk_at "truthy float") => `(tactic| (with_reducible refine' r_truthy ?x ?al ?au ?_; (case x => walk_at "m.hx"); (case al => walk_at "m.bnd"); (case au => walk_at "m.bnd"); k_whole; (try dsimp only)))
-- // and % by a positive divisor: / and % of Int
local macro_rules | `(tactic| walk_at "binaryOp Mod int int") => `(tactic| (with_reducible refine' r_mod_ii ?z ?_; (case z => first | decide | walk_at "m.bnd"); k_whole; (try dsimp only)))
local macro_rules | `(tactic| walk_at "binaryOp FloorDiv int int") => `(tactic| (with_reducible refine' r_fdiv_ii ?z ?y ?_; (case z => first | decide | walk_at "m.bnd"); (case y => first | decide | walk_at "m.bnd"); k_whole; (try dsimp only)))

local macro_rules | `(tactic| walk_at "m.ints") => `(tactic| first | exact IntsAre.nil | (apply IntsAre.cons; walk_at "m.ints"))
local macro_rules | `(tactic| walk_at "m.any") => `(tactic| (all_goals (intro hP9; (simp only [anyP, or_false] at hP9); (try dsimp only))))
local macro_rules | `(tactic| walk_at "compareOp In int ref") => `(tactic| (k_dflt first
  | (refine' r_in_T ?N ?m ?i ?_ ?_; (case N => k_asm); (case m => k_mem); (case i => walk_at "m.ints"))
  | (refine' r_in_L ?N ?m ?i ?_ ?_; (case N => k_asm); (case m => k_mem); (case i => walk_at "m.ints"))
  | (refine' r_in_K ?F ?X ?l ?i ?_ ?_; (case F => k_asm); (case X => k_asm); (case l => k_is); (case i => walk_at "m.ints"))); walk_at "m.any")
-- no joining of a call's ways: our claims do
local macro_rules | `(tactic| walk_at "eval Call") => `(tactic| (k_dflt (refine Call_ ?_)))
-- a name: the module's (but for «leap», a local of from_jd too), else a local's value
local macro_rules | `(tactic| walk_at "m.glob") => `(tactic| (
  (fail_if_success (with_reducible show wpAny _ _ (eval (Expr.Name (Str.ofString "leap") _) _) _ _ _));
  refine' q_glob ?F ?X ?T ?e ?_ ?a ?b ?d; (case F => k_asm); (case X => k_asm); (case T => k_asm); (case e => k_is); (case a => kernel_rfl); (case b => kernel_rfl); (case d => kernel_rfl); k_whole))
local macro_rules | `(tactic| walk_at "m.boot") => `(tactic| (
  refine' q_boot ?F ?X ?T ?e ?v ?n ?_ ?a ?b ?d; (case F => k_asm); (case X => k_asm); (case T => k_asm); (case e => k_is); (case v => k_dflt boot_fast); (case n => decide); (case a => kernel_rfl); (case b => kernel_rfl); (case d => kernel_rfl); k_whole))
local macro_rules | `(tactic| walk_at "m.loc") => `(tactic| (
  refine' q_loc ?F ?v ?_ ?a ?b ?d; (case F => k_dflt k_asm); (case v => k_dflt rfl); (case a => kernel_rfl); (case b => kernel_rfl); (case d => kernel_rfl); k_whole))
local macro_rules | `(tactic| walk_at "eval Name") => `(tactic| (k_here; first
  | (with_reducible walk_at "m.glob")
  | (with_reducible walk_at "m.loc")
  | (with_reducible walk_at "m.boot")))

local macro_rules | `(tactic| walk_at "m.useB") => `(tactic| (intro h9 tk9 F9 N9; refine ⟨fun hP9 => ?_, fun hP9 => ?_⟩ <;> (try dsimp only) <;> (try k_fold)))
local macro_rules | `(tactic| walk_at "m.useV") => `(tactic| (intro t9 h9 tk9 v9 hv9 F9 N9; (try dsimp only); (try k_fold)))
local macro_rules | `(tactic| walk_at "call ref") => `(tactic| (k_here; (with_reducible show wpAny _ _ (call (Value.ref 57) [Value.int _ _]) _ _ _); k_dflt (refine' use_cl (isleap_ok _ _ _ _) ?k1 ?k2 ?k3 ?k4 ?k5 ?kK ?kd ?ku ?_; walk_at "m.prem"; walk_at "m.useB")))


local macro_rules | `(tactic| walk_at "m.useLs") => `(tactic| (intro h9 tk9 x9 t91 t92 t93 t94 t95 t96 t97 F9 N9; (try dsimp only); (try k_fold)))
local macro_rules | `(tactic| walk_at "call ref") => `(tactic| (k_here; (with_reducible show wpAny _ _ (call (Value.ref 236) _) _ _ _); k_dflt (refine' use_cl (longs_ok _ _) ?k1 ?k2 ?k3 ?k4 ?k5 ?kK ?kd ?ku ?_; walk_at "m.prem"; walk_at "m.useLs")))
local macro_rules | `(tactic| walk_at "call ref") => `(tactic| (k_here; (with_reducible show wpAny _ _ (call (Value.ref 250) [Value.int _ _]) _ _ _); k_dflt (refine' use_cl (long_ok _ _ _ _) ?k1 ?k2 ?k3 ?k4 ?k5 ?kK ?kd ?ku ?_; walk_at "m.prem"; walk_at "m.useB")))

local macro_rules | `(tactic| walk_at "call ref") => `(tactic| (k_here; (with_reducible show wpAny _ _ (call (Value.ref 255) [Value.int _ _]) _ _ _); k_dflt (refine' use_cl (lny_ok _ _ _ _ ?dom1) ?k1 ?k2 ?k3 ?k4 ?k5 ?kK ?kd ?ku ?_; (case dom1 => (refine ⟨?_, ?_⟩ <;> walk_at "m.bnd")); walk_at "m.prem"; walk_at "m.useV")))
local macro_rules | `(tactic| walk_at "eval IfExp") => `(tactic| (with_reducible refine' r_ifexp ?_; k_whole))

/-- the months' lengths in a row -/
theorem mlen_c (y : Int) : mlen y 1 = 30 ∧ mlen y 2 = 29 ∧ mlen y 3 = 30 ∧ mlen y 4 = 29 ∧ mlen y 5 = 30 ∧ mlen y 6 = 29 ∧ mlen y 7 = 30 ∧ mlen y 10 = 29 ∧ mlen y 11 = 30 ∧ mlen y 13 = 29 := by
  refine ⟨?_, ?_, ?_, ?_, ?_, ?_, ?_, ?_, ?_, ?_⟩ <;> (unfold mlen; simp)
theorem mlen_12 (y : Int) : mlen y 12 = if (y * 7 + 1) % 19 < 7 then 30 else 29 := by
  unfold mlen
  by_cases h : (y * 7 + 1) % 19 < 7 <;> simp [h]
theorem mlen_8 (y : Int) : mlen y 8 = if span y % 10 = 5 then 30 else 29 := by
  unfold mlen
  by_cases h : span y % 10 = 5 <;> simp [h]
theorem mlen_9 (y : Int) : mlen y 9 = if span y % 10 = 3 then 29 else 30 := by
  unfold mlen
  by_cases h : span y % 10 = 3 <;> simp [h]

/-- the law's number of a Hebrew date -/
def num (y m d : Int) : Int := 347997 + ny y + offs y m + d
theorem num_end1 {acc v v1 y mo d : Int} (he : acc = v + pref [(7, 30), (8, if ((v1 - v) % 10 == 5) = true then 30 else 29), (9, if ((v1 - v) % 10 == 3) = true then 29 else 30), (10, 29), (11, 30), (12, 30), (13, 29), (1, 30), (2, 29), (3, 30), (4, 29), (5, 30), (6, 29)] mo)
    (hv : v = 347998 + ny y) (hv1 : v1 = 347998 + ny (y + 1)) (hm : 1 ≤ mo ∧ mo ≤ 13) (hl : (y * 7 + 1) % 19 < 7) : acc + d - 1 = num y mo d := by
  have hs : v1 - v = span y := by unfold span; omega
  rw [hs] at he
  have c := mlen_c y
  have c8 := mlen_8 y
  have c9 := mlen_9 y
  have c12 := mlen_12 y
  rw [if_pos hl] at c12
  simp only [beq_iff_eq] at he
  rw [← c8, ← c9] at he
  unfold num
  have : mo = 1 ∨ mo = 2 ∨ mo = 3 ∨ mo = 4 ∨ mo = 5 ∨ mo = 6 ∨ mo = 7 ∨ mo = 8 ∨ mo = 9 ∨ mo = 10 ∨ mo = 11 ∨ mo = 12 ∨ mo = 13 := by omega
  rcases this with rfl | rfl | rfl | rfl | rfl | rfl | rfl | rfl | rfl | rfl | rfl | rfl | rfl <;> (simp [pref] at he; simp [offs, hl]; omega)
theorem num_end2 {acc v v1 y mo d : Int} (he : acc = v + pref [(7, 30), (8, if ((v1 - v) % 10 == 5) = true then 30 else 29), (9, if ((v1 - v) % 10 == 3) = true then 29 else 30), (10, 29), (11, 30), (12, 29), (1, 30), (2, 29), (3, 30), (4, 29), (5, 30), (6, 29)] mo)
    (hv : v = 347998 + ny y) (hv1 : v1 = 347998 + ny (y + 1)) (hm : 1 ≤ mo ∧ mo ≤ 13) (hl : ¬ (y * 7 + 1) % 19 < 7) (hl13 : mo = 13 → (y * 7 + 1) % 19 < 7) : acc + d - 1 = num y mo d := by
  have hs : v1 - v = span y := by unfold span; omega
  rw [hs] at he
  have c := mlen_c y
  have c8 := mlen_8 y
  have c9 := mlen_9 y
  have c12 := mlen_12 y
  rw [if_neg hl] at c12
  simp only [beq_iff_eq] at he
  rw [← c8, ← c9] at he
  unfold num
  have : mo = 1 ∨ mo = 2 ∨ mo = 3 ∨ mo = 4 ∨ mo = 5 ∨ mo = 6 ∨ mo = 7 ∨ mo = 8 ∨ mo = 9 ∨ mo = 10 ∨ mo = 11 ∨ mo = 12 := by
    by_cases h : mo = 13
    · exact absurd (hl13 h) hl
    · omega
  clear hl13
  rcases this with rfl | rfl | rfl | rfl | rfl | rfl | rfl | rfl | rfl | rfl | rfl | rfl <;> (simp [pref] at he; simp [offs, hl]; omega)

local macro_rules | `(tactic| walk_at "exec For Tuple BinOp cons nil") => `(tactic| (k_here; (rename Fr _ _ _ _ => lF'); (with_unfolding_all refine' For_turns lF' ?_; k_whole)))
local macro_rules | `(tactic| walk_at "m.pairs") => `(tactic| first | exact PairsIn.nil | (refine' PairsIn.cons ?pm ?pr; (case pm => k_mem); (case pr => walk_at "m.pairs")))
local macro_rules | `(tactic| walk_at "pyIter ref") => `(tactic| (k_here; (with_reducible show wpAny _ _ (pyIter (Value.ref _)) (fun it s₂ => TurnsAt _ _ _ _ _ _ _ _ _ it s₂) _ _); (rename Fr _ _ _ _ => lF'); (rename News _ _ _ _ => lN'); k_dflt (refine' pairs_loop (Str.ofString "first") [Str.ofString "other", Str.ofString "length"] _ _ ?hL ?hh ?m0 ?hc ?hd lF' lN' ?hy ?hmo ?hps ?hin ?_ ?_; (case hL => exact rfl); (case hh => exact rfl); (case m0 => k_mem); (case hc => exact rfl); (case hd => exact rfl); (case hy => exact rfl); (case hmo => assumption); (case hps => walk_at "m.pairs"); (case hin => (simp only [List.map_cons, List.map_nil, List.mem_cons, List.mem_nil_iff, or_false]; omega))); clear lF' lN'; (focus (intro a9 b9 acc9 T9 t91 t92 ta9 u9 h9 tk9 nd9 F9 N9; (try simp only [forget] at F9); (try dsimp only))); rotate_left; (focus (intro u9 acc9 ta9 h9 tk9 he9 F9 N9; (try simp only [forget] at F9); (try dsimp only))); rotate_right))
local macro_rules | `(tactic| walk_at "PairPost") => `(tactic| (dsimp only [PairPost]))
local macro_rules | `(tactic| walk_at "PairEnd") => `(tactic| ((rename Fr _ _ _ _ => lF'); (rename News _ _ _ _ => lN'); (refine pair_end lF' lN' (by first | assumption | omega) (by (intro qN hN; first | exact hN | repeat (first | exact hN | refine List.mem_cons_of_mem _ ?_))) (by rfl) (by (intro zN hN; simp only [List.mem_cons, List.mem_nil_iff, or_false, not_or] at hN; simp only [hN.1, hN.2.1, hN.2.2, if_false, ↓reduceIte])))))

theorem num_ok (w : World) (news : List (Addr × Obj)) (y mo d : Int) (t t2 t3 : Tok) (hy : 3703 ≤ y ∧ y ≤ 13796) (hm : 1 ≤ mo ∧ mo ≤ 13) (hl : mo = 13 → (y * 7 + 1) % 19 < 7) :
    Cl w 262 news [.int y t, .int mo t2, .int d t3] 4 32 (RetI news (fun v => v = num y mo d)) := by
  unfold Cl RetI
  k_fill
  intro p loose mean mg mb dp un gd cn cs a ccd cl outer A₀ base h₀ L m s Q E B F X N T hk hd' hu hret
  refine wpAny_call ?_
  k_dflt cell_enter
  k_steps
  all_goals refine endI (E := E) hret (by k_asm) (by walk_at "m.news") ?_
  all_goals first
    | exact num_end1 (by assumption) (by assumption) (by assumption) hm (by assumption)
    | exact num_end2 (by assumption) (by assumption) (by assumption) hm (by assumption) hl

end Mine
end

section
open PySem PySem.W PyProof.Rows
set_option maxRecDepth 100000
set_option maxHeartbeats 8000000
set_option linter.unusedVariables false
set_option pp.maxSteps 3000
namespace Mine
theorem top_off_K4 : True := by
  w_top off
  trivial
open PySem PySem.Calls PyProof.Rows
-- small words of ours, as lines of walk_at
local macro_rules | `(tactic| walk_at "m.bools") => `(tactic| (simp only [decide_eq_true_eq, decide_eq_false_iff_not, Bool.not_eq_true, Bool.not_eq_false, Bool.and_eq_true, Bool.or_eq_true, Bool.not_eq_true', Bool.not_eq_false', beq_iff_eq, bne_iff_ne, beq_eq_false_iff_ne, bne_eq_false_iff_eq, Bool.and_eq_false_iff, Bool.or_eq_false_iff, ne_eq, Decidable.not_not] at *))
local macro_rules | `(tactic| walk_at "m.bnd") => `(tactic| first | omega | decide | ((try walk_at "m.bools"); omega) | (exfalso; (try walk_at "m.bools"); simp_all; omega))
local macro_rules | `(tactic| walk_at "m.hx") => `(tactic| first | with_reducible exact rfl | exact litH | exact litG | exact litHalf)
local macro_rules | `(tactic| walk_at "m.news") => `(tactic| first | k_asm | (refine' cb_drop ?cbN ?cbS; (case cbN => assumption); (case cbS => (intro qN hN; repeat (first | exact hN | refine List.mem_cons_of_mem _ ?_)))))
-- use a claim at a call
local macro_rules | `(tactic| walk_at "m.prem") => `(tactic| (
  (case k1 => k_asm); (case k2 => k_asm); (case k3 => k_asm); (case k4 => k_asm); (case k5 => k_asm);
  (case kK => first | exact rfl | assumption); (case kd => ktr_room); (case ku => ktr_units)))

-- floats
local macro_rules | `(tactic| walk_at "binaryOp Add float int") => `(tactic| first
  | (with_reducible refine' r_add_fi ?x ?al ?au ?nl ?nu ?_; (case x => walk_at "m.hx"); (case al => walk_at "m.bnd"); (case au => walk_at "m.bnd"); (case nl => walk_at "m.bnd"); (case nu => walk_at "m.bnd"); k_whole; (try dsimp only))
  | (with_reducible refine' add_fi_fits ?n ?_; (case n => exact fitsH (by walk_at "m.bnd")); k_whole; (try dsimp only)))
local macro_rules | `(tactic| walk_at "inplaceOp Add float int") => `(tactic| (with_reducible refine' r_iadd_fi rfl ?x ?al ?au ?nl ?nu ?_; (case x => walk_at "m.hx"); (case al => walk_at "m.bnd"); (case au => walk_at "m.bnd"); (case nl => walk_at "m.bnd"); (case nu => walk_at "m.bnd"); k_whole; (try dsimp only)))
local macro_rules | `(tactic| walk_at "binaryOp Add int float") => `(tactic| (with_reducible refine' r_add_if ?x ?al ?au ?nl ?nu ?_; (case x => walk_at "m.hx"); (case al => walk_at "m.bnd"); (case au => walk_at "m.bnd"); (case nl => walk_at "m.bnd"); (case nu => walk_at "m.bnd"); k_whole; (try dsimp only)))
local macro_rules | `(tactic| walk_at "binaryOp Sub float int") => `(tactic| (with_reducible refine' r_sub_fi ?x ?al ?au ?nl ?nu ?_; (case x => walk_at "m.hx"); (case al => walk_at "m.bnd"); (case au => walk_at "m.bnd"); (case nl => walk_at "m.bnd"); (case nu => walk_at "m.bnd"); k_whole; (try dsimp only)))
local macro_rules | `(tactic| walk_at "binaryOp Sub int float") => `(tactic| (with_reducible refine' r_sub_if ?x ?al ?au ?nl ?nu ?_; (case x => walk_at "m.hx"); (case al => walk_at "m.bnd"); (case au => walk_at "m.bnd"); (case nl => walk_at "m.bnd"); (case nu => walk_at "m.bnd"); k_whole; (try dsimp only)))
local macro_rules | `(tactic| walk_at "binaryOp Mult float int") => `(tactic| (with_reducible refine' r_mul_fi ?x ?al ?au ?z ?nl ?nu ?_; (case x => walk_at "m.hx"); (case al => walk_at "m.bnd"); (case au => walk_at "m.bnd"); (case z => walk_at "m.bnd"); (case nl => walk_at "m.bnd"); (case nu => walk_at "m.bnd"); k_whole; (try dsimp only)))
local macro_rules | `(tactic| walk_at "binaryOp Add float float") => `(tactic| (with_reducible refine' r_add_ff ?x ?y ?al ?au ?bl ?bu ?_; (case x => walk_at "m.hx"); (case y => walk_at "m.hx"); (case al => walk_at "m.bnd"); (case au => walk_at "m.bnd"); (case bl => walk_at "m.bnd"); (case bu => walk_at "m.bnd"); k_whole; (try dsimp only)))
local macro_rules | `(tactic| walk_at "binaryOp Sub float float") => `(tactic| (with_reducible refine' r_sub_ff ?x ?y ?al ?au ?bl ?bu ?_; (case x => walk_at "m.hx"); (case y => walk_at "m.hx"); (case al => walk_at "m.bnd"); (case au => walk_at "m.bnd"); (case bl => walk_at "m.bnd"); (case bu => walk_at "m.bnd"); k_whole; (try dsimp only)))
local macro_rules | `(tactic| walk_at "binaryOp Div float int") => `(tactic| (with_reducible refine' r_div_fi rfl ?x ?z ?nl ?nu ?_; (case x => walk_at "m.hx"); (case z => walk_at "m.bnd"); (case nl => walk_at "m.bnd"); (case nu => walk_at "m.bnd"); k_whole; (try dsimp only)))
local macro_rules | `(tactic| walk_at "binaryOp Div int int") => `(tactic| (with_reducible refine' r_div_ii rfl ?z ?nl ?nu ?_; (case z => walk_at "m.bnd"); (case nl => walk_at "m.bnd"); (case nu => walk_at "m.bnd"); k_whole; (try dsimp only)))
local macro_rules | `(tactic| walk_at "binaryOp Mod float int") => `(tactic| (with_reducible refine' r_mod_fi rfl ?x ?al ?au ?z ?nl ?nu ?_; (case x => walk_at "m.hx"); (case al => walk_at "m.bnd"); (case au => walk_at "m.bnd"); (case z => walk_at "m.bnd"); (case nl => walk_at "m.bnd"); (case nu => walk_at "m.bnd"); k_whole; (try dsimp only)))
local macro_rules | `(tactic| walk_at "call builtin:math.floor") => `(tactic| first
  | (with_reducible refine' r_floor_div rfl ?al ?au ?z ?n ?_; (case al => walk_at "m.bnd"); (case au => walk_at "m.bnd"); (case z => walk_at "m.bnd"); (case n => walk_at "m.bnd"); k_whole; (try dsimp only))
  | (with_reducible refine' r_floor_ii rfl ?al ?au ?z ?n ?_; (case al => walk_at "m.bnd"); (case au => walk_at "m.bnd"); (case z => walk_at "m.bnd"); (case n => walk_at "m.bnd"); k_whole; (try dsimp only))
  | (with_reducible refine' r_floor_m rfl ?m1 ?m2 ?j1 ?j2 ?d1 ?d2 ?_; (case m1 => walk_at "m.bnd"); (case m2 => walk_at "m.bnd"); (case j1 => walk_at "m.bnd"); (case j2 => walk_at "m.bnd"); (case d1 => walk_at "m.bnd"); (case d2 => walk_at "m.bnd"); k_whole; (try dsimp only))
  | (with_reducible refine' r_floor_H rfl ?x ?al ?au ?_; (case x => walk_at "m.hx"); (case al => walk_at "m.bnd"); (case au => walk_at "m.bnd"); k_whole; (try dsimp only)))
local macro_rules | `(tactic| walk_at "call builtin:math.trunc") => `(tactic| (with_reducible refine' r_trunc_H rfl ?x ?z ?al ?au ?_; (case x => walk_at "m.hx"); (case z => walk_at "m.bnd"); (case al => walk_at "m.bnd"); (case au => walk_at "m.bnd"); k_whole; (try dsimp only)))
local macro_rules | `(tactic| walk_at "call type:int") => `(tactic| (with_reducible refine' r_int_H rfl ?x ?z ?al ?au ?_; (case x => walk_at "m.hx"); (case z => walk_at "m.bnd"); (case al => walk_at "m.bnd"); (case au => walk_at "m.bnd"); k_whole; (try dsimp only)))
local macro_rules | `(tactic| walk_at "compareOp Lt float int") => `(tactic| (with_reducible refine' r_lt_fi ?x ?al ?au ?_; (case x => walk_at "m.hx"); (case al => walk_at "m.bnd"); (case au => walk_at "m.bnd"); k_whole; (try dsimp only)))
local macro_rules | `(tactic| walk_at "compareOp Eq float int") => `(tactic| (with_reducible refine' r_eq_fi ?x ?al ?au ?_; (case x => walk_at "m.hx"); (case al => walk_at "m.bnd"); (case au => walk_at "m.bnd"); k_whole; (try dsimp only)))
local macro_rules | `(tactic| walk_at "compareOp NotEq float int") => `(tactic| (with_reducible refine' r_ne_fi ?x ?al ?au ?_; (case x => walk_at "m.hx"); (case al => walk_at "m.bnd"); (case au => walk_at "m.bnd"); k_whole; (try dsimp only)))
local macro_rules | `(tactic| walk_at "compareOp Eq float float") => `(tactic| (with_reducible refine' r_eq_ff ?x ?y ?al ?au ?bl ?bu ?_; (case x => walk_at "m.hx"); (case y => walk_at "m.hx"); (case al => walk_at "m.bnd"); (case au => walk_at "m.bnd"); (case bl => walk_at "m.bnd"); (case bu => walk_at "m.bnd"); k_whole; (try dsimp only)))
local macro_rules | `(tactic| walk_at "compareOp NotEq float float") => `(tactic| (with_reducible refine' r_ne_ff ?x ?y ?al ?au ?bl ?bu ?_; (case x => walk_at "m.hx"); (case y => walk_at "m.hx"); (case al => walk_at "m.bnd"); (case au => walk_at "m.bnd"); (case bl => walk_at "m.bnd"); (case bu => walk_at "m.bnd"); k_whole; (try dsimp only)))
local macro_rules | `(tactic| walk_at "truthy float") => `(tactic| (with_reducible refine' r_truthy ?x ?al ?au ?_; (case x => walk_at "m.hx"); (case al => walk_at "m.bnd"); (case au => walk_at "m.bnd"); k_whole; (try dsimp only)))
-- // and % by a positive divisor: / and % of Int
local macro_rules | `(tactic| walk_at "binaryOp Mod int int") => `(tactic| (with_reducible refine' r_mod_ii ?z ?_; (case z => first | decide | walk_at "m.bnd"); k_whole; (try dsimp only)))
local macro_rules | `(tactic| walk_at "binaryOp FloorDiv int int") => `(tactic| (with_reducible refine' r_fdiv_ii ?z ?y ?_; (case z => first | decide | walk_at "m.bnd"); (case y => first | decide | walk_at "m.bnd"); k_whole; (try dsimp only)))

local macro_rules | `(tactic| walk_at "m.ints") => `(tactic| first | exact IntsAre.nil | (apply IntsAre.cons; walk_at "m.ints"))
local macro_rules | `(tactic| walk_at "m.any") => `(tactic| (all_goals (intro hP9; (simp only [anyP, or_false] at hP9); (try dsimp only))))
local macro_rules | `(tactic| walk_at "compareOp In int ref") => `(tactic| (k_dflt first
  | (refine' r_in_T ?N ?m ?i ?_ ?_; (case N => k_asm); (case m => k_mem); (case i => walk_at "m.ints"))
  | (refine' r_in_L ?N ?m ?i ?_ ?_; (case N => k_asm); (case m => k_mem); (case i => walk_at "m.ints"))
  | (refine' r_in_K ?F ?X ?l ?i ?_ ?_; (case F => k_asm); (case X => k_asm); (case l => k_is); (case i => walk_at "m.ints"))); walk_at "m.any")
-- no joining of a call's ways: our claims do
local macro_rules | `(tactic| walk_at "eval Call") => `(tactic| (k_dflt (refine Call_ ?_)))
-- a name: the module's (but for «leap», a local of from_jd too), else a local's value
local macro_rules | `(tactic| walk_at "m.glob") => `(tactic| (
  (fail_if_success (with_reducible show wpAny _ _ (eval (Expr.Name (Str.ofString "leap") _) _) _ _ _));
  refine' q_glob ?F ?X ?T ?e ?_ ?a ?b ?d; (case F => k_asm); (case X => k_asm); (case T => k_asm); (case e => k_is); (case a => kernel_rfl); (case b => kernel_rfl); (case d => kernel_rfl); k_whole))
local macro_rules | `(tactic| walk_at "m.boot") => `(tactic| (
  refine' q_boot ?F ?X ?T ?e ?v ?n ?_ ?a ?b ?d; (case F => k_asm); (case X => k_asm); (case T => k_asm); (case e => k_is); (case v => k_dflt boot_fast); (case n => decide); (case a => kernel_rfl); (case b => kernel_rfl); (case d => kernel_rfl); k_whole))
local macro_rules | `(tactic| walk_at "m.loc") => `(tactic| (
  refine' q_loc ?F ?v ?_ ?a ?b ?d; (case F => k_dflt k_asm); (case v => k_dflt rfl); (case a => kernel_rfl); (case b => kernel_rfl); (case d => kernel_rfl); k_whole))
local macro_rules | `(tactic| walk_at "eval Name") => `(tactic| (k_here; first
  | (with_reducible walk_at "m.glob")
  | (with_reducible walk_at "m.loc")
  | (with_reducible walk_at "m.boot")))

local macro_rules | `(tactic| walk_at "call builtin:divmod") => `(tactic| (k_here; k_dflt (refine' r_divmod ?F ?N ?b ?bb ?_; (case F => k_asm); (case N => k_asm); (case b => decide); (case bb => decide); k_whole); intro q9 r9 D9 h9 tk9 t91 t92 hq9 hr9 F9 N9 l9; (try dsimp only); (try k_lt l9)))

/-- the law's number of a Gregorian year's first day -/
def fst (y : Int) : Int := 1721426 + 365 * (y - 1) + (y - 1) / 4 - (y - 1) / 100 + (y - 1) / 400
theorem fst_gjd (y : Int) : gjd y 1 1 = 2 * fst y - 1 := by
  rw [first_eq]
  unfold fst
  omega
theorem fst_ok (w : World) (news : List (Addr × Obj)) (y : Int) (t : Tok) :
    Cl w 269 news [.int y t] 1 8 (RetI news (fun v => v = fst y)) := by
  unfold Cl RetI
  k_fill
  intro p loose mean mg mb dp un gd cn cs a ccd cl outer A₀ base h₀ L m s Q E B F X N T hk hd' hu hret
  refine wpAny_call ?_
  k_dflt cell_enter
  k_steps
  all_goals refine endI (E := E) hret (by k_asm) (by walk_at "m.news") ?_
  all_goals (unfold fst; omega)

end Mine
end

section
open PySem PySem.W PyProof.Rows
set_option maxRecDepth 100000
set_option maxHeartbeats 8000000
set_option linter.unusedVariables false
set_option pp.maxSteps 3000
namespace Mine
theorem top_off_K5 : True := by
  w_top off
  trivial
open PySem PySem.Calls PyProof.Rows
-- small words of ours, as lines of walk_at
local macro_rules | `(tactic| walk_at "m.bools") => `(tactic| (simp only [decide_eq_true_eq, decide_eq_false_iff_not, Bool.not_eq_true, Bool.not_eq_false, Bool.and_eq_true, Bool.or_eq_true, Bool.not_eq_true', Bool.not_eq_false', beq_iff_eq, bne_iff_ne, beq_eq_false_iff_ne, bne_eq_false_iff_eq, Bool.and_eq_false_iff, Bool.or_eq_false_iff, ne_eq, Decidable.not_not] at *))
local macro_rules | `(tactic| walk_at "m.bnd") => `(tactic| first | omega | decide | ((try walk_at "m.bools"); omega) | (exfalso; (try walk_at "m.bools"); simp_all; omega))
local macro_rules | `(tactic| walk_at "m.hx") => `(tactic| first | with_reducible exact rfl | exact litH | exact litG | exact litHalf)
local macro_rules | `(tactic| walk_at "m.news") => `(tactic| first | k_asm | (refine' cb_drop ?cbN ?cbS; (case cbN => assumption); (case cbS => (intro qN hN; repeat (first | exact hN | refine List.mem_cons_of_mem _ ?_)))))
-- use a claim at a call
local macro_rules | `(tactic| walk_at "m.prem") => `(tactic| (
  (case k1 => k_asm); (case k2 => k_asm); (case k3 => k_asm); (case k4 => k_asm); (case k5 => k_asm);
  (case kK => first | exact rfl | assumption); (case kd => ktr_room); (case ku => ktr_units)))

-- floats
local macro_rules | `(tactic| walk_at "binaryOp Add float int") => `(tactic| first
  | (with_reducible refine' r_add_fi ?x ?al ?au ?nl ?nu ?_; (case x => walk_at "m.hx"); (case al => walk_at "m.bnd"); (case au => walk_at "m.bnd"); (case nl => walk_at "m.bnd"); (case nu => walk_at "m.bnd"); k_whole; (try dsimp only))
  | (with_reducible refine' add_fi_fits ?n ?_; (case n => exact fitsH (by walk_at "m.bnd")); k_whole; (try dsimp only)))
local macro_rules | `(tactic| walk_at "inplaceOp Add float int") => `(tactic| (with_reducible refine' r_iadd_fi rfl ?x ?al ?au ?nl ?nu ?_; (case x => walk_at "m.hx"); (case al => walk_at "m.bnd"); (case au => walk_at "m.bnd"); (case nl => walk_at "m.bnd"); (case nu => walk_at "m.bnd"); k_whole; (try dsimp only)))
local macro_rules | `(tactic| walk_at "binaryOp Add int float") => `(tactic| (with_reducible refine' r_add_if ?x ?al ?au ?nl ?nu ?_; (case x => walk_at "m.hx"); (case al => walk_at "m.bnd"); (case au => walk_at "m.bnd"); (case nl => walk_at "m.bnd"); (case nu => walk_at "m.bnd"); k_whole; (try dsimp only)))
local macro_rules | `(tactic| walk_at "binaryOp Sub float int") => `(tactic| (with_reducible refine' r_sub_fi ?x ?al ?au ?nl ?nu ?_; (case x => walk_at "m.hx"); (case al => walk_at "m.bnd"); (case au => walk_at "m.bnd"); (case nl => walk_at "m.bnd"); (case nu => walk_at "m.bnd"); k_whole; (try dsimp only)))
local macro_rules | `(tactic| walk_at "binaryOp Sub int float") => `(tactic| (with_reducible refine' r_sub_if ?x ?al ?au ?nl ?nu ?_; (case x => walk_at "m.hx"); (case al => walk_at "m.bnd"); (case au => walk_at "m.bnd"); (case nl => walk_at "m.bnd"); (case nu => walk_at "m.bnd"); k_whole; (try dsimp only)))
local macro_rules | `(tactic| walk_at "binaryOp Mult float int") => `(tactic| (with_reducible refine' r_mul_fi ?x ?al ?au ?z ?nl ?nu ?_; (case x => walk_at "m.hx"); (case al => walk_at "m.bnd"); (case au => walk_at "m.bnd"); (case z => walk_at "m.bnd"); (case nl => walk_at "m.bnd"); (case nu => walk_at "m.bnd"); k_whole; (try dsimp only)))
local macro_rules | `(tactic| walk_at "binaryOp Add float float") => `(tactic| (with_reducible refine' r_add_ff ?x ?y ?al ?au ?bl ?bu ?_; (case x => walk_at "m.hx"); (case y => walk_at "m.hx"); (case al => walk_at "m.bnd"); (case au => walk_at "m.bnd"); (case bl => walk_at "m.bnd"); (case bu => walk_at "m.bnd"); k_whole; (try dsimp only)))
local macro_rules | `(tactic| walk_at "binaryOp Sub float float") => `(tactic| (with_reducible refine' r_sub_ff ?x ?y ?al ?au ?bl ?bu ?_; (case x => walk_at "m.hx"); (case y => walk_at "m.hx"); (case al => walk_at "m.bnd"); (case au => walk_at "m.bnd"); (case bl => walk_at "m.bnd"); (case bu => walk_at "m.bnd"); k_whole; (try dsimp only)))
local macro_rules | `(tactic| walk_at "binaryOp Div float int") => `(tactic| (with_reducible refine' r_div_fi rfl ?x ?z ?nl ?nu ?_; (case x => walk_at "m.hx"); (case z => walk_at "m.bnd"); (case nl => walk_at "m.bnd"); (case nu => walk_at "m.bnd"); k_whole; (try dsimp only)))
local macro_rules | `(tactic| walk_at "binaryOp Div int int") => `(tactic| (with_reducible refine' r_div_ii rfl ?z ?nl ?nu ?_; (case z => walk_at "m.bnd"); (case nl => walk_at "m.bnd"); (case nu => walk_at "m.bnd"); k_whole; (try dsimp only)))
local macro_rules | `(tactic| walk_at "binaryOp Mod float int") => `(tactic| (with_reducible refine' r_mod_fi rfl ?x ?al ?au ?z ?nl ?nu ?_; (case x => walk_at "m.hx"); (case al => walk_at "m.bnd"); (case au => walk_at "m.bnd"); (case z => walk_at "m.bnd"); (case nl => walk_at "m.bnd"); (case nu => walk_at "m.bnd"); k_whole; (try dsimp only)))
local macro_rules | `(tactic| walk_at "call builtin:math.floor") => `(tactic| first
  | (with_reducible refine' r_floor_div rfl ?al ?au ?z ?n ?_; (case al => walk_at "m.bnd"); (case au => walk_at "m.bnd"); (case z => walk_at "m.bnd"); (case n => walk_at "m.bnd"); k_whole; (try dsimp only))
  | (with_reducible refine' r_floor_ii rfl ?al ?au ?z ?n ?_; (case al => walk_at "m.bnd"); (case au => walk_at "m.bnd"); (case z => walk_at "m.bnd"); (case n => walk_at "m.bnd"); k_whole; (try dsimp only))
  | (with_reducible refine' r_floor_m rfl ?m1 ?m2 ?j1 ?j2 ?d1 ?d2 ?_; (case m1 => walk_at "m.bnd"); (case m2 => walk_at "m.bnd"); (case j1 => walk_at "m.bnd"); (case j2 => walk_at "m.bnd"); (case d1 => walk_at "m.bnd"); (case d2 => walk_at "m.bnd"); k_whole; (try dsimp only))
  | (with_reducible refine' r_floor_H rfl ?x ?al ?au ?_; (case x => walk_at "m.hx"); (case al => walk_at "m.bnd"); (case au => walk_at "m.bnd"); k_whole; (try dsimp only)))
local macro_rules | `(tactic| walk_at "call builtin:math.trunc") => `(tactic| (with_reducible refine' r_trunc_H rfl ?x ?z ?al ?au ?_; (case x => walk_at "m.hx"); (case z => walk_at "m.bnd"); (case al => walk_at "m.bnd"); (case au => walk_at "m.bnd"); k_whole; (try dsimp only)))
local macro_rules | `(tactic| walk_at "call type:int") => `(tactic| (with_reducible refine' r_int_H rfl ?x ?z ?al ?au ?_; (case x => walk_at "m.hx"); (case z => walk_at "m.bnd"); (case al => walk_at "m.bnd"); (case au => walk_at "m.bnd"); k_whole; (try dsimp only)))
local macro_rules | `(tactic| walk_at "compareOp Lt float int") => `(tactic| (with_reducible refine' r_lt_fi ?x ?al ?au ?_; (case x => walk_at "m.hx"); (case al => walk_at "m.bnd"); (case au => walk_at "m.bnd"); k_whole; (try dsimp only)))
local macro_rules | `(tactic| walk_at "compareOp Eq float int") => `(tactic| (with_reducible refine' r_eq_fi ?x ?al ?au ?_; (case x => walk_at "m.hx"); (case al => walk_at "m.bnd"); (case au => walk_at "m.bnd"); k_whole; (try dsimp only)))
local macro_rules | `(tactic| walk_at "compareOp NotEq float int") => `(tactic| (with_reducible refine' r_ne_fi ?x ?al ?au ?_; (case x => walk_at "m.hx"); (case al => walk_at "m.bnd"); (case au => walk_at "m.bnd"); k_whole; (try dsimp only)))
local macro_rules | `(tactic| walk_at "compareOp Eq float float") => `(tactic| (with_reducible refine' r_eq_ff ?x ?y ?al ?au ?bl ?bu ?_; (case x => walk_at "m.hx"); (case y => walk_at "m.hx"); (case al => walk_at "m.bnd"); (case au => walk_at "m.bnd"); (case bl => walk_at "m.bnd"); (case bu => walk_at "m.bnd"); k_whole; (try dsimp only)))
local macro_rules | `(tactic| walk_at "compareOp NotEq float float") => `(tactic| (with_reducible refine' r_ne_ff ?x ?y ?al ?au ?bl ?bu ?_; (case x => walk_at "m.hx"); (case y => walk_at "m.hx"); (case al => walk_at "m.bnd"); (case au => walk_at "m.bnd"); (case bl => walk_at "m.bnd"); (case bu => walk_at "m.bnd"); k_whole; (try dsimp only)))
local macro_rules | `(tactic| walk_at "truthy float") => `(tactic| (with_reducible refine' r_truthy ?x ?al ?au ?_; (case x => walk_at "m.hx"); (case al => walk_at "m.bnd"); (case au => walk_at "m.bnd"); k_whole; (try dsimp only)))
-- // and % by a positive divisor: / and % of Int
local macro_rules | `(tactic| walk_at "binaryOp Mod int int") => `(tactic| (with_reducible refine' r_mod_ii ?z ?_; (case z => first | decide | walk_at "m.bnd"); k_whole; (try dsimp only)))
local macro_rules | `(tactic| walk_at "binaryOp FloorDiv int int") => `(tactic| (with_reducible refine' r_fdiv_ii ?z ?y ?_; (case z => first | decide | walk_at "m.bnd"); (case y => first | decide | walk_at "m.bnd"); k_whole; (try dsimp only)))

local macro_rules | `(tactic| walk_at "m.ints") => `(tactic| first | exact IntsAre.nil | (apply IntsAre.cons; walk_at "m.ints"))
local macro_rules | `(tactic| walk_at "m.any") => `(tactic| (all_goals (intro hP9; (simp only [anyP, or_false] at hP9); (try dsimp only))))
local macro_rules | `(tactic| walk_at "compareOp In int ref") => `(tactic| (k_dflt first
  | (refine' r_in_T ?N ?m ?i ?_ ?_; (case N => k_asm); (case m => k_mem); (case i => walk_at "m.ints"))
  | (refine' r_in_L ?N ?m ?i ?_ ?_; (case N => k_asm); (case m => k_mem); (case i => walk_at "m.ints"))
  | (refine' r_in_K ?F ?X ?l ?i ?_ ?_; (case F => k_asm); (case X => k_asm); (case l => k_is); (case i => walk_at "m.ints"))); walk_at "m.any")
-- no joining of a call's ways: our claims do
local macro_rules | `(tactic| walk_at "eval Call") => `(tactic| (k_dflt (refine Call_ ?_)))
-- a name: the module's (but for «leap», a local of from_jd too), else a local's value
local macro_rules | `(tactic| walk_at "m.glob") => `(tactic| (
  (fail_if_success (with_reducible show wpAny _ _ (eval (Expr.Name (Str.ofString "leap") _) _) _ _ _));
  refine' q_glob ?F ?X ?T ?e ?_ ?a ?b ?d; (case F => k_asm); (case X => k_asm); (case T => k_asm); (case e => k_is); (case a => kernel_rfl); (case b => kernel_rfl); (case d => kernel_rfl); k_whole))
local macro_rules | `(tactic| walk_at "m.boot") => `(tactic| (
  refine' q_boot ?F ?X ?T ?e ?v ?n ?_ ?a ?b ?d; (case F => k_asm); (case X => k_asm); (case T => k_asm); (case e => k_is); (case v => k_dflt boot_fast); (case n => decide); (case a => kernel_rfl); (case b => kernel_rfl); (case d => kernel_rfl); k_whole))
local macro_rules | `(tactic| walk_at "m.loc") => `(tactic| (
  refine' q_loc ?F ?v ?_ ?a ?b ?d; (case F => k_dflt k_asm); (case v => k_dflt rfl); (case a => kernel_rfl); (case b => kernel_rfl); (case d => kernel_rfl); k_whole))
local macro_rules | `(tactic| walk_at "eval Name") => `(tactic| (k_here; first
  | (with_reducible walk_at "m.glob")
  | (with_reducible walk_at "m.loc")
  | (with_reducible walk_at "m.boot")))

local macro_rules | `(tactic| walk_at "m.useB") => `(tactic| (intro h9 tk9 F9 N9; refine ⟨fun hP9 => ?_, fun hP9 => ?_⟩ <;> (try dsimp only) <;> (try k_fold)))
local macro_rules | `(tactic| walk_at "m.useV") => `(tactic| (intro t9 h9 tk9 v9 hv9 F9 N9; (try dsimp only); (try k_fold)))
local macro_rules | `(tactic| walk_at "call ref") => `(tactic| (k_here; (with_reducible show wpAny _ _ (call (Value.ref 57) [Value.int _ _]) _ _ _); k_dflt (refine' use_cl (isleap_ok _ _ _ _) ?k1 ?k2 ?k3 ?k4 ?k5 ?kK ?kd ?ku ?_; walk_at "m.prem"; walk_at "m.useB")))


local macro_rules | `(tactic| walk_at "m.useS") => `(tactic| (intro t9 h9 tk9 v9 hv9 F9 N9; subst hv9; (try dsimp only); (try k_fold)))
local macro_rules | `(tactic| walk_at "call ref") => `(tactic| (k_here; (with_reducible show wpAny _ _ (call (Value.ref 269) [Value.int _ _]) _ _ _); k_dflt (refine' use_cl (fst_ok _ _ _ _) ?k1 ?k2 ?k3 ?k4 ?k5 ?kK ?kd ?ku ?_; walk_at "m.prem"; walk_at "m.useS")))

theorem fst_lt (y : Int) : fst y + 365 ≤ fst (y + 1) ∧ fst (y + 1) ≤ fst y + 366 ∧ (LeapG y → fst (y + 1) = fst y + 366) ∧ (¬ LeapG y → fst (y + 1) = fst y + 365) := by
  unfold fst LeapG
  refine ⟨by omega, by omega, fun h => by omega, fun h => by omega⟩
/-- the months' lengths of a Gregorian year, the second one's x -/
def lens (x : Int) : List Int := [31, x, 31, 30, 31, 30, 31, 31, 30, 31, 30, 31]
def cum (x m : Int) : Int := ((lens x).take (m - 1).toNat).sum
theorem twelve {m : Int} (h : 1 ≤ m ∧ m ≤ 12) : m = 1 ∨ m = 2 ∨ m = 3 ∨ m = 4 ∨ m = 5 ∨ m = 6 ∨ m = 7 ∨ m = 8 ∨ m = 9 ∨ m = 10 ∨ m = 11 ∨ m = 12 := by omega
theorem cum_next {x m : Int} (h : 1 ≤ m ∧ m ≤ 12) : cum x (m + 1) = cum x m + (lens x).getD (m - 1).toNat 0 := by
  rcases twelve h with rfl | rfl | rfl | rfl | rfl | rfl | rfl | rfl | rfl | rfl | rfl | rfl <;> simp [cum, lens] <;> omega
theorem cum_le {x m : Int} (h : 1 ≤ m ∧ m ≤ 12) (hx : 28 ≤ x) : cum x m + (lens x).getD (m - 1).toNat 0 ≤ x + 337 ∧ 28 ≤ (lens x).getD (m - 1).toNat 0 ∧ (m = 12 → cum x m + (lens x).getD (m - 1).toNat 0 = x + 337) := by
  rcases twelve h with rfl | rfl | rfl | rfl | rfl | rfl | rfl | rfl | rfl | rfl | rfl | rfl <;> simp [cum, lens] <;> omega
theorem cum_gjd {y x m d : Int} (hx : x = fst (y + 1) - fst y - 337) (h : 1 ≤ m ∧ m ≤ 12) (hd : 1 ≤ d) (hl : d ≤ (lens x).getD (m - 1).toNat 0) : DayOk y m d ∧ gjd y m d = 2 * (fst y + cum x m + d - 1) - 1 := by
  have f := fst_lt y
  have g := fst_gjd y
  rw [first_eq] at g
  have hx2 : (LeapG y ∧ x = 29) ∨ (¬ LeapG y ∧ x = 28) := by
    by_cases hl : LeapG y
    · exact .inl ⟨hl, by have := f.2.2.1 hl; omega⟩
    · exact .inr ⟨hl, by have := f.2.2.2 hl; omega⟩
  clear f hx
  rcases hx2 with ⟨hL, rfl⟩ | ⟨hL, rfl⟩
  · have hL' : y % 4 = 0 ∧ (y % 100 ≠ 0 ∨ y % 400 = 0) := hL
    rcases twelve h with rfl | rfl | rfl | rfl | rfl | rfl | rfl | rfl | rfl | rfl | rfl | rfl <;> simp [lens] at hl <;> (refine ⟨?_, ?_⟩; (unfold DayOk; omega); (unfold gjd; rw [show cum 29 _ = _ from rfl]; simp [cum, lens, hL]; omega))
  · have hL' : ¬ (y % 4 = 0 ∧ (y % 100 ≠ 0 ∨ y % 400 = 0)) := hL
    rcases twelve h with rfl | rfl | rfl | rfl | rfl | rfl | rfl | rfl | rfl | rfl | rfl | rfl <;> simp [lens] at hl <;> (refine ⟨?_, ?_⟩; (unfold DayOk; omega); (unfold gjd; rw [show cum 28 _ = _ from rfl]; simp [cum, lens, hL]; omega))
theorem news_skip {h₀ h : Heap} {L : Addr} {a b : Addr × Obj} {r : List (Addr × Obj)} (N : News h₀ L h (a :: b :: r)) : News h₀ L h (a :: r) := fun q hq => N q (by
  rcases List.mem_cons.mp hq with e | e
  · rw [e]; exact List.mem_cons_self ..
  · exact List.mem_cons_of_mem _ (List.mem_cons_of_mem _ e))

local macro_rules | `(tactic| walk_at "subscriptTail Name BinOp ref int") => `(tactic| (k_here; k_dflt (refine' r_item_L ?N ?m ?i ?h0 ?h1 ?h2 ?_ ?hs ?hg; (case N => k_asm); (case m => k_mem); (case i => walk_at "m.ints"); (case h0 => walk_at "m.bnd"); (case h1 => (simp only [List.length_cons, List.length_nil]; walk_at "m.bnd")); (case h2 => walk_at "m.bnd"); (case hs => with_unfolding_all rfl); (case hg => (intro _; with_unfolding_all rfl)); k_whole); intro t9; (try dsimp only)))

theorem ldate_ok (w : World) (news : List (Addr × Obj)) (n : Int) (t : Tok) (hn1 : 1700000 < n ∧ n < 6000000) :
    Cl w 276 news [.int n t] 3 24 (RetD news (GDate (2 * n - 1))) := by
  unfold Cl RetD
  k_fill
  intro p loose mean mg mb dp un gd cn cs a ccd cl outer A₀ base h₀ L m s Q E B F X N T hk hd' hu hret
  refine wpAny_call ?_
  k_dflt cell_enter
  iterate 40 (all_goals first | ((fail_if_success (with_reducible show wpAny _ _ (exec (Stmt.While _ _ _ _) _) _ _ _)); first | (k_unfold; (try dsimp only)) | (k_end; wrow_close) | walk1 | (dsimp only; walk1)) | skip)
  (rename Fr _ _ _ _ => lF'); (rename News _ _ _ _ => lN')
  k_dflt (refine' while1 (Str.ofString "year") (fun _ => True) (fun k => (fst k - n).toNat) lF' lN' (by rfl) trivial ?_)
  clear lF' lN'
  intro y9 t9 h9 tk9 _ F9 N9
  (try dsimp only)
  iterate 40 (all_goals first | ((fail_if_success (with_reducible show wpAny _ _ (exec (Stmt.While _ _ _ _) _) _ _ _)); first | (k_unfold; (try dsimp only)) | (k_end; wrow_close) | walk1 | (dsimp only; walk1)) | skip)
  · have q1 := fst_lt (y9 - 1)
    have e1 : y9 - 1 + 1 = y9 := by omega
    rw [e1] at q1
    exact one_end (by k_asm) (by k_asm) (fun _ hp => hp) (by rfl) (by intro z hz; simp only [List.mem_cons, List.mem_nil_iff, or_false] at hz; simp only [hz, if_false]) trivial (by omega)
  have hlo : fst y9 ≤ n := by omega
  (rename Fr _ _ _ _ => lF'); (rename News _ _ _ _ => lN')
  k_dflt (refine' while1 (Str.ofString "year") (fun k => fst k ≤ n) (fun k => (n - fst k).toNat) lF' lN' (by rfl) hlo ?_)
  clear lF' lN' hlo
  intro y8 t8 h8 tk8 hlo F8 N8
  (try dsimp only)
  iterate 130 (all_goals first | ((fail_if_success (with_reducible show wpAny _ _ (exec (Stmt.While _ _ _ _) _) _ _ _)); first | (k_unfold; (try dsimp only)) | (k_end; wrow_close) | walk1 | (dsimp only; walk1)) | skip)
  · have q1 := fst_lt y8
    exact one_end (by k_asm) (by k_asm) (fun _ hp => hp) (by rfl) (by intro z hz; simp only [List.mem_cons, List.mem_nil_iff, or_false] at hz; simp only [hz, if_false]) (by omega) (by omega)
  have hhi : n < fst (y8 + 1) := by omega
  have hx := fst_lt y8
  (rename Fr _ _ _ _ => lF'); (rename News _ _ _ _ => lN')
  k_dflt (refine' while2 (Str.ofString "day") (Str.ofString "month") (fun d m => (1 ≤ m ∧ m ≤ 12) ∧ 1 ≤ d ∧ d + cum (fst (y8 + 1) - fst y8 - 337) m = n - fst y8 + 1) (fun d m => (12 - m).toNat) lF' lN' (by rfl) (by rfl) ?hP ?_)
  case hP =>
    have c0 : cum (fst (y8 + 1) - fst y8 - 337) 1 = 0 := rfl
    refine ⟨by omega, by omega, ?_⟩
    rw [c0]
    omega
  clear lF' lN'
  intro d9 m9 td9 tm9 h9 tk9 hP9 F9 N9
  obtain ⟨hm9, hd9, hc9⟩ := hP9
  have c1 := cum_next (x := fst (y8 + 1) - fst y8 - 337) hm9
  have c2 := cum_le (x := fst (y8 + 1) - fst y8 - 337) hm9 (by omega)
  have c3 : d9 ≤ (lens (fst (y8 + 1) - fst y8 - 337)).getD (m9 - 1).toNat 0 → DayOk y8 m9 d9 ∧ gjd y8 m9 d9 = 2 * n - 1 := fun h => by
    have c := cum_gjd (x := fst (y8 + 1) - fst y8 - 337) (y := y8) rfl hm9 hd9 h
    refine ⟨c.1, c.2.trans ?_⟩
    omega
  unfold lens at c1 c2 c3
  (try dsimp only)
  k_steps
  · refine two_end (by k_asm) (by k_asm) (fun _ hp => hp) (by rfl) (by rfl) (by intro z hz; simp only [List.mem_cons, List.mem_nil_iff, or_false, not_or] at hz; simp only [hz.1, hz.2, if_false]) ⟨?_, ?_, ?_⟩ ?_ <;> omega
  · have c4 := c3 (by omega)
    (rename News _ _ _ _ => lN')
    refine endD (E := E) hret (by k_asm) (news_skip lN') ⟨hm9, ?_, c4.1, c4.2⟩
    have b1 : fst y8 = 1721426 + 365 * (y8 - 1) + (y8 - 1) / 4 - (y8 - 1) / 100 + (y8 - 1) / 400 := rfl
    have b2 : fst (y8 + 1) = 1721426 + 365 * (y8 + 1 - 1) + (y8 + 1 - 1) / 4 - (y8 + 1 - 1) / 100 + (y8 + 1 - 1) / 400 := rfl
    clear c1 c2 c3 c4
    omega

end Mine
end

section
open PySem PySem.W PyProof.Rows
set_option maxRecDepth 100000
set_option maxHeartbeats 8000000
set_option linter.unusedVariables false
set_option pp.maxSteps 3000
namespace Mine
theorem top_off_K6 : True := by
  w_top off
  trivial
open PySem PySem.Calls PyProof.Rows
theorem hjd_num (y m d : Int) : hjd y m d = 2 * num y m d - 1 := by
  unfold hjd nyH num
  omega
theorem inY_num {y m d gy : Int} : InY (hjd y m d) gy ↔ fst gy ≤ num y m d ∧ num y m d < fst (gy + 1) := by
  rw [hjd_num]
  unfold InY
  rw [fst_gjd, fst_gjd]
  omega
theorem fst_rng {gy : Int} (h : 1 ≤ gy ∧ gy ≤ 9999) : 1721426 ≤ fst gy ∧ fst (gy + 1) ≤ 5373485 := by
  unfold fst
  omega
/-- what the law's search hands back -/
def FoundN (gy m d v : Int) : Prop := Found gy m d (2 * v - 1) ∧ 1721426 ≤ v ∧ v < 5373485
theorem found_n1 {gy m d v : Int} (hy : 1 ≤ gy ∧ gy ≤ 9999) (hv : v = num (gy + 3760) m d) (h1 : fst gy ≤ v) (h2 : v < fst (gy + 1)) : FoundN gy m d v := by
  have r := fst_rng hy
  subst hv
  exact ⟨.inl ⟨inY_num.mpr ⟨h1, h2⟩, (hjd_num _ _ _).symm⟩, by omega, by omega⟩
theorem found_n2 {gy m d v v' : Int} (hy : 1 ≤ gy ∧ gy ≤ 9999) (hv' : v' = num (gy + 3760) m d) (hn : ¬ (fst gy ≤ v' ∧ v' < fst (gy + 1))) (hv : v = num (gy + 3761) m d) (h1 : fst gy ≤ v) (h2 : v < fst (gy + 1)) : FoundN gy m d v := by
  have r := fst_rng hy
  subst hv
  subst hv'
  exact ⟨.inr ⟨fun c => hn (inY_num.mp c), inY_num.mpr ⟨h1, h2⟩, (hjd_num _ _ _).symm⟩, by omega, by omega⟩
theorem lost_n {gy m d v v' : Int} (hv' : v' = num (gy + 3760) m d) (hn : ¬ (fst gy ≤ v' ∧ v' < fst (gy + 1))) (hv : v = num (gy + 3761) m d) (hn2 : ¬ (fst gy ≤ v ∧ v < fst (gy + 1))) : Lost gy m d := by
  subst hv
  subst hv'
  exact ⟨fun c => hn (inY_num.mp c), fun c => hn2 (inY_num.mp c)⟩
abbrev RetF (news : List (Addr × Obj)) (P : Int → Prop) (R : Prop) (h₀ : Heap) (L : Addr) (m : Str → Option Value) (s : Shared) (Q E : Value → Shared → Prop) : Prop :=
  ∀ (h' : Heap) (tk' : Nat) (t : Tok), Fr h₀ L h' m → News h₀ L h' news → (∀ v, P v → Q (.int v t) { s with heap := h', toks := tk' }) ∧ (R → Q (.str (Str.ofString "refused") t) { s with heap := h', toks := tk' })

-- small words of ours, as lines of walk_at
local macro_rules | `(tactic| walk_at "m.bools") => `(tactic| (simp only [decide_eq_true_eq, decide_eq_false_iff_not, Bool.not_eq_true, Bool.not_eq_false, Bool.and_eq_true, Bool.or_eq_true, Bool.not_eq_true', Bool.not_eq_false', beq_iff_eq, bne_iff_ne, beq_eq_false_iff_ne, bne_eq_false_iff_eq, Bool.and_eq_false_iff, Bool.or_eq_false_iff, ne_eq, Decidable.not_not] at *))
local macro_rules | `(tactic| walk_at "m.bnd") => `(tactic| first | omega | decide | ((try walk_at "m.bools"); omega) | (exfalso; (try walk_at "m.bools"); simp_all; omega))
local macro_rules | `(tactic| walk_at "m.hx") => `(tactic| first | with_reducible exact rfl | exact litH | exact litG | exact litHalf)
local macro_rules | `(tactic| walk_at "m.news") => `(tactic| first | k_asm | (refine' cb_drop ?cbN ?cbS; (case cbN => assumption); (case cbS => (intro qN hN; repeat (first | exact hN | refine List.mem_cons_of_mem _ ?_)))))
-- use a claim at a call
local macro_rules | `(tactic| walk_at "m.prem") => `(tactic| (
  (case k1 => k_asm); (case k2 => k_asm); (case k3 => k_asm); (case k4 => k_asm); (case k5 => k_asm);
  (case kK => first | exact rfl | assumption); (case kd => ktr_room); (case ku => ktr_units)))

-- floats
local macro_rules | `(tactic| walk_at "binaryOp Add float int") => `(tactic| first
  | (with_reducible refine' r_add_fi ?x ?al ?au ?nl ?nu ?_; (case x => walk_at "m.hx"); (case al => walk_at "m.bnd"); (case au => walk_at "m.bnd"); (case nl => walk_at "m.bnd"); (case nu => walk_at "m.bnd"); k_whole; (try dsimp only))
  | (with_reducible refine' add_fi_fits ?n ?_; (case n => exact fitsH (by walk_at "m.bnd")); k_whole; (try dsimp only)))
local macro_rules | `(tactic| walk_at "inplaceOp Add float int") => `(tactic| (with_reducible refine' r_iadd_fi rfl ?x ?al ?au ?nl ?nu ?_; (case x => walk_at "m.hx"); (case al => walk_at "m.bnd"); (case au => walk_at "m.bnd"); (case nl => walk_at "m.bnd"); (case nu => walk_at "m.bnd"); k_whole; (try dsimp only)))
local macro_rules | `(tactic| walk_at "binaryOp Add int float") => `(tactic| (with_reducible refine' r_add_if ?x ?al ?au ?nl ?nu ?_; (case x => walk_at "m.hx"); (case al => walk_at "m.bnd"); (case au => walk_at "m.bnd"); (case nl => walk_at "m.bnd"); (case nu => walk_at "m.bnd"); k_whole; (try dsimp only)))
local macro_rules | `(tactic| walk_at "binaryOp Sub float int") => `(tactic| (with_reducible refine' r_sub_fi ?x ?al ?au ?nl ?nu ?_; (case x => walk_at "m.hx"); (case al => walk_at "m.bnd"); (case au => walk_at "m.bnd"); (case nl => walk_at "m.bnd"); (case nu => walk_at "m.bnd"); k_whole; (try dsimp only)))
local macro_rules | `(tactic| walk_at "binaryOp Sub int float") => `(tactic| (with_reducible refine' r_sub_if ?x ?al ?au ?nl ?nu ?_; (case x => walk_at "m.hx"); (case al => walk_at "m.bnd"); (case au => walk_at "m.bnd"); (case nl => walk_at "m.bnd"); (case nu => walk_at "m.bnd"); k_whole; (try dsimp only)))
local macro_rules | `(tactic| walk_at "binaryOp Mult float int") => `(tactic| (with_reducible refine' r_mul_fi ?x ?al ?au ?z ?nl ?nu ?_; (case x => walk_at "m.hx"); (case al => walk_at "m.bnd"); (case au => walk_at "m.bnd"); (case z => walk_at "m.bnd"); (case nl => walk_at "m.bnd"); (case nu => walk_at "m.bnd"); k_whole; (try dsimp only)))
local macro_rules | `(tactic| walk_at "binaryOp Add float float") => `(tactic| (with_reducible refine' r_add_ff ?x ?y ?al ?au ?bl ?bu ?_; (case x => walk_at "m.hx"); (case y => walk_at "m.hx"); (case al => walk_at "m.bnd"); (case au => walk_at "m.bnd"); (case bl => walk_at "m.bnd"); (case bu => walk_at "m.bnd"); k_whole; (try dsimp only)))
local macro_rules | `(tactic| walk_at "binaryOp Sub float float") => `(tactic| (with_reducible refine' r_sub_ff ?x ?y ?al ?au ?bl ?bu ?_; (case x => walk_at "m.hx"); (case y => walk_at "m.hx"); (case al => walk_at "m.bnd"); (case au => walk_at "m.bnd"); (case bl => walk_at "m.bnd"); (case bu => walk_at "m.bnd"); k_whole; (try dsimp only)))
local macro_rules | `(tactic| walk_at "binaryOp Div float int") => `(tactic| (with_reducible refine' r_div_fi rfl ?x ?z ?nl ?nu ?_; (case x => walk_at "m.hx"); (case z => walk_at "m.bnd"); (case nl => walk_at "m.bnd"); (case nu => walk_at "m.bnd"); k_whole; (try dsimp only)))
local macro_rules | `(tactic| walk_at "binaryOp Div int int") => `(tactic| (with_reducible refine' r_div_ii rfl ?z ?nl ?nu ?_; (case z => walk_at "m.bnd"); (case nl => walk_at "m.bnd"); (case nu => walk_at "m.bnd"); k_whole; (try dsimp only)))
local macro_rules | `(tactic| walk_at "binaryOp Mod float int") => `(tactic| (with_reducible refine' r_mod_fi rfl ?x ?al ?au ?z ?nl ?nu ?_; (case x => walk_at "m.hx"); (case al => walk_at "m.bnd"); (case au => walk_at "m.bnd"); (case z => walk_at "m.bnd"); (case nl => walk_at "m.bnd"); (case nu => walk_at "m.bnd"); k_whole; (try dsimp only)))
local macro_rules | `(tactic| walk_at "call builtin:math.floor") => `(tactic| first
  | (with_reducible refine' r_floor_div rfl ?al ?au ?z ?n ?_; (case al => walk_at "m.bnd"); (case au => walk_at "m.bnd"); (case z => walk_at "m.bnd"); (case n => walk_at "m.bnd"); k_whole; (try dsimp only))
  | (with_reducible refine' r_floor_ii rfl ?al ?au ?z ?n ?_; (case al => walk_at "m.bnd"); (case au => walk_at "m.bnd"); (case z => walk_at "m.bnd"); (case n => walk_at "m.bnd"); k_whole; (try dsimp only))
  | (with_reducible refine' r_floor_m rfl ?m1 ?m2 ?j1 ?j2 ?d1 ?d2 ?_; (case m1 => walk_at "m.bnd"); (case m2 => walk_at "m.bnd"); (case j1 => walk_at "m.bnd"); (case j2 => walk_at "m.bnd"); (case d1 => walk_at "m.bnd"); (case d2 => walk_at "m.bnd"); k_whole; (try dsimp only))
  | (with_reducible refine' r_floor_H rfl ?x ?al ?au ?_; (case x => walk_at "m.hx"); (case al => walk_at "m.bnd"); (case au => walk_at "m.bnd"); k_whole; (try dsimp only)))
local macro_rules | `(tactic| walk_at "call builtin:math.trunc") => `(tactic| (with_reducible refine' r_trunc_H rfl ?x ?z ?al ?au ?_; (case x => walk_at "m.hx"); (case z => walk_at "m.bnd"); (case al => walk_at "m.bnd"); (case au => walk_at "m.bnd"); k_whole; (try dsimp only)))
local macro_rules | `(tactic| walk_at "call type:int") => `(tactic| (with_reducible refine' r_int_H rfl ?x ?z ?al ?au ?_; (case x => walk_at "m.hx"); (case z => walk_at "m.bnd"); (case al => walk_at "m.bnd"); (case au => walk_at "m.bnd"); k_whole; (try dsimp only)))
local macro_rules | `(tactic| walk_at "compareOp Lt float int") => `(tactic| (with_reducible refine' r_lt_fi ?x ?al ?au ?_; (case x => walk_at "m.hx"); (case al => walk_at "m.bnd"); (case au => walk_at "m.bnd"); k_whole; (try dsimp only)))
local macro_rules | `(tactic| walk_at "compareOp Eq float int") => `(tactic| (with_reducible refine' r_eq_fi ?x ?al ?au ?_; (case x => walk_at "m.hx"); (case al => walk_at "m.bnd"); (case au => walk_at "m.bnd"); k_whole; (try dsimp only)))
local macro_rules | `(tactic| walk_at "compareOp NotEq float int") => `(tactic| (with_reducible refine' r_ne_fi ?x ?al ?au ?_; (case x => walk_at "m.hx"); (case al => walk_at "m.bnd"); (case au => walk_at "m.bnd"); k_whole; (try dsimp only)))
local macro_rules | `(tactic| walk_at "compareOp Eq float float") => `(tactic| (with_reducible refine' r_eq_ff ?x ?y ?al ?au ?bl ?bu ?_; (case x => walk_at "m.hx"); (case y => walk_at "m.hx"); (case al => walk_at "m.bnd"); (case au => walk_at "m.bnd"); (case bl => walk_at "m.bnd"); (case bu => walk_at "m.bnd"); k_whole; (try dsimp only)))
local macro_rules | `(tactic| walk_at "compareOp NotEq float float") => `(tactic| (with_reducible refine' r_ne_ff ?x ?y ?al ?au ?bl ?bu ?_; (case x => walk_at "m.hx"); (case y => walk_at "m.hx"); (case al => walk_at "m.bnd"); (case au => walk_at "m.bnd"); (case bl => walk_at "m.bnd"); (case bu => walk_at "m.bnd"); k_whole; (try dsimp only)))
local macro_rules | `(tactic| walk_at "truthy float") => `(tactic| (with_reducible refine' r_truthy ?x ?al ?au ?_; (case x => walk_at "m.hx"); (case al => walk_at "m.bnd"); (case au => walk_at "m.bnd"); k_whole; (try dsimp only)))
-- // and % by a positive divisor: / and % of Int
local macro_rules | `(tactic| walk_at "binaryOp Mod int int") => `(tactic| (with_reducible refine' r_mod_ii ?z ?_; (case z => first | decide | walk_at "m.bnd"); k_whole; (try dsimp only)))
local macro_rules | `(tactic| walk_at "binaryOp FloorDiv int int") => `(tactic| (with_reducible refine' r_fdiv_ii ?z ?y ?_; (case z => first | decide | walk_at "m.bnd"); (case y => first | decide | walk_at "m.bnd"); k_whole; (try dsimp only)))

local macro_rules | `(tactic| walk_at "m.ints") => `(tactic| first | exact IntsAre.nil | (apply IntsAre.cons; walk_at "m.ints"))
local macro_rules | `(tactic| walk_at "m.any") => `(tactic| (all_goals (intro hP9; (simp only [anyP, or_false] at hP9); (try dsimp only))))
local macro_rules | `(tactic| walk_at "compareOp In int ref") => `(tactic| (k_dflt first
  | (refine' r_in_T ?N ?m ?i ?_ ?_; (case N => k_asm); (case m => k_mem); (case i => walk_at "m.ints"))
  | (refine' r_in_L ?N ?m ?i ?_ ?_; (case N => k_asm); (case m => k_mem); (case i => walk_at "m.ints"))
  | (refine' r_in_K ?F ?X ?l ?i ?_ ?_; (case F => k_asm); (case X => k_asm); (case l => k_is); (case i => walk_at "m.ints"))); walk_at "m.any")
-- no joining of a call's ways: our claims do
local macro_rules | `(tactic| walk_at "eval Call") => `(tactic| (k_dflt (refine Call_ ?_)))
-- a name: the module's (but for «leap», a local of from_jd too), else a local's value
local macro_rules | `(tactic| walk_at "m.glob") => `(tactic| (
  (fail_if_success (with_reducible show wpAny _ _ (eval (Expr.Name (Str.ofString "leap") _) _) _ _ _));
  refine' q_glob ?F ?X ?T ?e ?_ ?a ?b ?d; (case F => k_asm); (case X => k_asm); (case T => k_asm); (case e => k_is); (case a => kernel_rfl); (case b => kernel_rfl); (case d => kernel_rfl); k_whole))
local macro_rules | `(tactic| walk_at "m.boot") => `(tactic| (
  refine' q_boot ?F ?X ?T ?e ?v ?n ?_ ?a ?b ?d; (case F => k_asm); (case X => k_asm); (case T => k_asm); (case e => k_is); (case v => k_dflt boot_fast); (case n => decide); (case a => kernel_rfl); (case b => kernel_rfl); (case d => kernel_rfl); k_whole))
local macro_rules | `(tactic| walk_at "m.loc") => `(tactic| (
  refine' q_loc ?F ?v ?_ ?a ?b ?d; (case F => k_dflt k_asm); (case v => k_dflt rfl); (case a => kernel_rfl); (case b => kernel_rfl); (case d => kernel_rfl); k_whole))
local macro_rules | `(tactic| walk_at "eval Name") => `(tactic| (k_here; first
  | (with_reducible walk_at "m.glob")
  | (with_reducible walk_at "m.loc")
  | (with_reducible walk_at "m.boot")))

local macro_rules | `(tactic| walk_at "m.useB") => `(tactic| (intro h9 tk9 F9 N9; refine ⟨fun hP9 => ?_, fun hP9 => ?_⟩ <;> (try dsimp only) <;> (try k_fold)))
local macro_rules | `(tactic| walk_at "m.useV") => `(tactic| (intro t9 h9 tk9 v9 hv9 F9 N9; (try dsimp only); (try k_fold)))
local macro_rules | `(tactic| walk_at "call ref") => `(tactic| (k_here; (with_reducible show wpAny _ _ (call (Value.ref 57) [Value.int _ _]) _ _ _); k_dflt (refine' use_cl (isleap_ok _ _ _ _) ?k1 ?k2 ?k3 ?k4 ?k5 ?kK ?kd ?ku ?_; walk_at "m.prem"; walk_at "m.useB")))


local macro_rules | `(tactic| walk_at "m.useS") => `(tactic| (intro t9 h9 tk9 v9 hv9 F9 N9; subst hv9; (try dsimp only); (try k_fold)))
local macro_rules | `(tactic| walk_at "call ref") => `(tactic| (k_here; (with_reducible show wpAny _ _ (call (Value.ref 269) [Value.int _ _]) _ _ _); k_dflt (refine' use_cl (fst_ok _ _ _ _) ?k1 ?k2 ?k3 ?k4 ?k5 ?kK ?kd ?ku ?_; walk_at "m.prem"; walk_at "m.useS")))

local macro_rules | `(tactic| walk_at "call ref") => `(tactic| (k_here; (with_reducible show wpAny _ _ (call (Value.ref 262) [Value.int _ _, Value.int _ _, Value.int _ _]) _ _ _); k_dflt (refine' use_cl (num_ok _ _ _ _ _ _ _ _ ?dom1 ?dom2 ?dom3) ?k1 ?k2 ?k3 ?k4 ?k5 ?kK ?kd ?ku ?_; (case dom1 => (refine ⟨?_, ?_⟩ <;> walk_at "m.bnd")); (case dom2 => assumption); (case dom3 => walk_at "m.m13"); walk_at "m.prem"; walk_at "m.useV")))
local macro_rules | `(tactic| walk_at "m.m13") => `(tactic| (intro c13; (rename (_ = (13 : Int) → _ ∧ _) => c14); (have c15 := c14 c13); omega))

-- a loop over a tuple of two, the ledger's tail a letter
local macro_rules | `(tactic| walk_at "pyIter ref") => `(tactic| (k_here; (with_reducible show wpAny _ _ (pyIter (Value.ref _)) (fun it s₂ => TurnsAt _ _ _ _ _ _ _ _ _ it s₂) _ _); (rename Fr _ _ _ _ => lF'); (rename News _ _ _ _ => lN'); (with_unfolding_all refine iter_tupTurns (vs := [_, _]) (by rfl) lF' lN' (List.Mem.head _) (by rfl) (by rfl) ?_); clear lF'; intro i' l1))
local macro_rules | `(tactic| walk_at "m.mem") => `(tactic| first | exact List.Mem.head _ | (refine List.mem_cons_of_mem _ ?_; walk_at "m.mem"))
local macro_rules | `(tactic| walk_at "UnrEndW") => `(tactic| ((rename (∀ p ∈ _, _ < _) => hlt9); (refine unr_end1 (by assumption) (by assumption) hlt9 (by walk_at "m.mem") (by (intro qN hN; repeat (first | exact hN | refine List.mem_cons_of_mem _ ?_))) ⟨And.intro (List.Mem.head _) trivial, ?_⟩)))

theorem lfound_ok (w : World) (news : List (Addr × Obj)) (gy mo d : Int) (t t2 t3 : Tok) (hy : 1 ≤ gy ∧ gy ≤ 9999) (hm : 1 ≤ mo ∧ mo ≤ 13) (h13 : mo = 13 → ((gy + 3760) * 7 + 1) % 19 < 7 ∧ fst gy ≤ num (gy + 3760) mo d ∧ num (gy + 3760) mo d < fst (gy + 1)) :
    Cl w 283 news [.int gy t, .int mo t2, .int d t3] 5 40 (RetF news (FoundN gy mo d) (Lost gy mo d)) := by
  unfold Cl RetF
  k_fill
  intro p loose mean mg mb dp un gd cn cs a ccd cl outer A₀ base h₀ L m s Q E B F X N T hk hd' hu hret
  refine wpAny_call ?_
  k_dflt cell_enter
  k_steps
  all_goals first
    | exact (hret _ _ _ (by k_asm) (by walk_at "m.news")).1 _ (found_n1 hy (by assumption) (by omega) (by omega))
    | exact (hret _ _ _ (by k_asm) (by walk_at "m.news")).1 _ (found_n2 hy (by assumption) (by omega) (by assumption) (by omega) (by omega))
    | exact (hret _ _ _ (by k_asm) (by walk_at "m.news")).2 (lost_n (by assumption) (by omega) (by assumption) (by omega))

end Mine
end

section
open PySem PySem.W PyProof.Rows
set_option maxRecDepth 100000
set_option maxHeartbeats 8000000
set_option linter.unusedVariables false
set_option pp.maxSteps 3000
namespace Mine
theorem top_off_K7 : True := by
  w_top off
  trivial
open PySem PySem.Calls PyProof.Rows
-- small words of ours, as lines of walk_at
local macro_rules | `(tactic| walk_at "m.bools") => `(tactic| (simp only [decide_eq_true_eq, decide_eq_false_iff_not, Bool.not_eq_true, Bool.not_eq_false, Bool.and_eq_true, Bool.or_eq_true, Bool.not_eq_true', Bool.not_eq_false', beq_iff_eq, bne_iff_ne, beq_eq_false_iff_ne, bne_eq_false_iff_eq, Bool.and_eq_false_iff, Bool.or_eq_false_iff, ne_eq, Decidable.not_not] at *))
local macro_rules | `(tactic| walk_at "m.bnd") => `(tactic| first | omega | decide | ((try walk_at "m.bools"); omega) | (exfalso; (try walk_at "m.bools"); simp_all; omega))
local macro_rules | `(tactic| walk_at "m.hx") => `(tactic| first | with_reducible exact rfl | exact litH | exact litG | exact litHalf)
local macro_rules | `(tactic| walk_at "m.news") => `(tactic| first | k_asm | (refine' cb_drop ?cbN ?cbS; (case cbN => assumption); (case cbS => (intro qN hN; repeat (first | exact hN | refine List.mem_cons_of_mem _ ?_)))))
-- use a claim at a call
local macro_rules | `(tactic| walk_at "m.prem") => `(tactic| (
  (case k1 => k_asm); (case k2 => k_asm); (case k3 => k_asm); (case k4 => k_asm); (case k5 => k_asm);
  (case kK => first | exact rfl | assumption); (case kd => ktr_room); (case ku => ktr_units)))

-- floats
local macro_rules | `(tactic| walk_at "binaryOp Add float int") => `(tactic| first
  | (with_reducible refine' r_add_fi ?x ?al ?au ?nl ?nu ?_; (case x => walk_at "m.hx"); (case al => walk_at "m.bnd"); (case au => walk_at "m.bnd"); (case nl => walk_at "m.bnd"); (case nu => walk_at "m.bnd"); k_whole; (try dsimp only))
  | (with_reducible refine' add_fi_fits ?n ?_; (case n => exact fitsH (by walk_at "m.bnd")); k_whole; (try dsimp only)))
local macro_rules | `(tactic| walk_at "inplaceOp Add float int") => `(tactic| (with_reducible refine' r_iadd_fi rfl ?x ?al ?au ?nl ?nu ?_; (case x => walk_at "m.hx"); (case al => walk_at "m.bnd"); (case au => walk_at "m.bnd"); (case nl => walk_at "m.bnd"); (case nu => walk_at "m.bnd"); k_whole; (try dsimp only)))
local macro_rules | `(tactic| walk_at "binaryOp Add int float") => `(tactic| (with_reducible refine' r_add_if ?x ?al ?au ?nl ?nu ?_; (case x => walk_at "m.hx"); (case al => walk_at "m.bnd"); (case au => walk_at "m.bnd"); (case nl => walk_at "m.bnd"); (case nu => walk_at "m.bnd"); k_whole; (try dsimp only)))
local macro_rules | `(tactic| walk_at "binaryOp Sub float int") => `(tactic| (with_reducible refine' r_sub_fi ?x ?al ?au ?nl ?nu ?_; (case x => walk_at "m.hx"); (case al => walk_at "m.bnd"); (case au => walk_at "m.bnd"); (case nl => walk_at "m.bnd"); (case nu => walk_at "m.bnd"); k_whole; (try dsimp only)))
local macro_rules | `(tactic| walk_at "binaryOp Sub int float") => `(tactic| (with_reducible refine' r_sub_if ?x ?al ?au ?nl ?nu ?_; (case x => walk_at "m.hx"); (case al => walk_at "m.bnd"); (case au => walk_at "m.bnd"); (case nl => walk_at "m.bnd"); (case nu => walk_at "m.bnd"); k_whole; (try dsimp only)))
local macro_rules | `(tactic| walk_at "binaryOp Mult float int") => `(tactic| (with_reducible refine' r_mul_fi ?x ?al ?au ?z ?nl ?nu ?_; (case x => walk_at "m.hx"); (case al => walk_at "m.bnd"); (case au => walk_at "m.bnd"); (case z => walk_at "m.bnd"); (case nl => walk_at "m.bnd"); (case nu => walk_at "m.bnd"); k_whole; (try dsimp only)))
local macro_rules | `(tactic| walk_at "binaryOp Add float float") => `(tactic| (with_reducible refine' r_add_ff ?x ?y ?al ?au ?bl ?bu ?_; (case x => walk_at "m.hx"); (case y => walk_at "m.hx"); (case al => walk_at "m.bnd"); (case au => walk_at "m.bnd"); (case bl => walk_at "m.bnd"); (case bu => walk_at "m.bnd"); k_whole; (try dsimp only)))
local macro_rules | `(tactic| walk_at "binaryOp Sub float float") => `(tactic| (with_reducible refine' r_sub_ff ?x ?y ?al ?au ?bl ?bu ?_; (case x => walk_at "m.hx"); (case y => walk_at "m.hx"); (case al => walk_at "m.bnd"); (case au => walk_at "m.bnd"); (case bl => walk_at "m.bnd"); (case bu => walk_at "m.bnd"); k_whole; (try dsimp only)))
local macro_rules | `(tactic| walk_at "binaryOp Div float int") => `(tactic| (with_reducible refine' r_div_fi rfl ?x ?z ?nl ?nu ?_; (case x => walk_at "m.hx"); (case z => walk_at "m.bnd"); (case nl => walk_at "m.bnd"); (case nu => walk_at "m.bnd"); k_whole; (try dsimp only)))
local macro_rules | `(tactic| walk_at "binaryOp Div int int") => `(tactic| (with_reducible refine' r_div_ii rfl ?z ?nl ?nu ?_; (case z => walk_at "m.bnd"); (case nl => walk_at "m.bnd"); (case nu => walk_at "m.bnd"); k_whole; (try dsimp only)))
local macro_rules | `(tactic| walk_at "binaryOp Mod float int") => `(tactic| (with_reducible refine' r_mod_fi rfl ?x ?al ?au ?z ?nl ?nu ?_; (case x => walk_at "m.hx"); (case al => walk_at "m.bnd"); (case au => walk_at "m.bnd"); (case z => walk_at "m.bnd"); (case nl => walk_at "m.bnd"); (case nu => walk_at "m.bnd"); k_whole; (try dsimp only)))
local macro_rules | `(tactic| walk_at "call builtin:math.floor") => `(tactic| first
  | (with_reducible refine' r_floor_div rfl ?al ?au ?z ?n ?_; (case al => walk_at "m.bnd"); (case au => walk_at "m.bnd"); (case z => walk_at "m.bnd"); (case n => walk_at "m.bnd"); k_whole; (try dsimp only))
  | (with_reducible refine' r_floor_ii rfl ?al ?au ?z ?n ?_; (case al => walk_at "m.bnd"); (case au => walk_at "m.bnd"); (case z => walk_at "m.bnd"); (case n => walk_at "m.bnd"); k_whole; (try dsimp only))
  | (with_reducible refine' r_floor_m rfl ?m1 ?m2 ?j1 ?j2 ?d1 ?d2 ?_; (case m1 => walk_at "m.bnd"); (case m2 => walk_at "m.bnd"); (case j1 => walk_at "m.bnd"); (case j2 => walk_at "m.bnd"); (case d1 => walk_at "m.bnd"); (case d2 => walk_at "m.bnd"); k_whole; (try dsimp only))
  | (with_reducible refine' r_floor_H rfl ?x ?al ?au ?_; (case x => walk_at "m.hx"); (case al => walk_at "m.bnd"); (case au => walk_at "m.bnd"); k_whole; (try dsimp only)))
local macro_rules | `(tactic| walk_at "call builtin:math.trunc") => `(tactic| (with_reducible refine' r_trunc_H rfl ?x ?z ?al ?au ?_; (case x => walk_at "m.hx"); (case z => walk_at "m.bnd"); (case al => walk_at "m.bnd"); (case au => walk_at "m.bnd"); k_whole; (try dsimp only)))
local macro_rules | `(tactic| walk_at "call type:int") => `(tactic| (with_reducible refine' r_int_H rfl ?x ?z ?al ?au ?_; (case x => walk_at "m.hx"); (case z => walk_at "m.bnd"); (case al => walk_at "m.bnd"); (case au => walk_at "m.bnd"); k_whole; (try dsimp only)))
local macro_rules | `(tactic| walk_at "compareOp Lt float int") => `(tactic| (with_reducible refine' r_lt_fi ?x ?al ?au ?_; (case x => walk_at "m.hx"); (case al => walk_at "m.bnd"); (case au => walk_at "m.bnd"); k_whole; (try dsimp only)))
local macro_rules | `(tactic| walk_at "compareOp Eq float int") => `(tactic| (with_reducible refine' r_eq_fi ?x ?al ?au ?_; (case x => walk_at "m.hx"); (case al => walk_at "m.bnd"); (case au => walk_at "m.bnd"); k_whole; (try dsimp only)))
local macro_rules | `(tactic| walk_at "compareOp NotEq float int") => `(tactic| (with_reducible refine' r_ne_fi ?x ?al ?au ?_; (case x => walk_at "m.hx"); (case al => walk_at "m.bnd"); (case au => walk_at "m.bnd"); k_whole; (try dsimp only)))
local macro_rules | `(tactic| walk_at "compareOp Eq float float") => `(tactic| (with_reducible refine' r_eq_ff ?x ?y ?al ?au ?bl ?bu ?_; (case x => walk_at "m.hx"); (case y => walk_at "m.hx"); (case al => walk_at "m.bnd"); (case au => walk_at "m.bnd"); (case bl => walk_at "m.bnd"); (case bu => walk_at "m.bnd"); k_whole; (try dsimp only)))
local macro_rules | `(tactic| walk_at "compareOp NotEq float float") => `(tactic| (with_reducible refine' r_ne_ff ?x ?y ?al ?au ?bl ?bu ?_; (case x => walk_at "m.hx"); (case y => walk_at "m.hx"); (case al => walk_at "m.bnd"); (case au => walk_at "m.bnd"); (case bl => walk_at "m.bnd"); (case bu => walk_at "m.bnd"); k_whole; (try dsimp only)))
local macro_rules | `(tactic| walk_at "truthy float") => `(tactic| (with_reducible refine' r_truthy ?x ?al ?au ?_; (case x => walk_at "m.hx"); (case al => walk_at "m.bnd"); (case au => walk_at "m.bnd"); k_whole; (try dsimp only)))
-- // and % by a positive divisor: / and % of Int
local macro_rules | `(tactic| walk_at "binaryOp Mod int int") => `(tactic| (with_reducible refine' r_mod_ii ?z ?_; (case z => first | decide | walk_at "m.bnd"); k_whole; (try dsimp only)))
local macro_rules | `(tactic| walk_at "binaryOp FloorDiv int int") => `(tactic| (with_reducible refine' r_fdiv_ii ?z ?y ?_; (case z => first | decide | walk_at "m.bnd"); (case y => first | decide | walk_at "m.bnd"); k_whole; (try dsimp only)))

local macro_rules | `(tactic| walk_at "m.ints") => `(tactic| first | exact IntsAre.nil | (apply IntsAre.cons; walk_at "m.ints"))
local macro_rules | `(tactic| walk_at "m.any") => `(tactic| (all_goals (intro hP9; (simp only [anyP, or_false] at hP9); (try dsimp only))))
local macro_rules | `(tactic| walk_at "compareOp In int ref") => `(tactic| (k_dflt first
  | (refine' r_in_T ?N ?m ?i ?_ ?_; (case N => k_asm); (case m => k_mem); (case i => walk_at "m.ints"))
  | (refine' r_in_L ?N ?m ?i ?_ ?_; (case N => k_asm); (case m => k_mem); (case i => walk_at "m.ints"))
  | (refine' r_in_K ?F ?X ?l ?i ?_ ?_; (case F => k_asm); (case X => k_asm); (case l => k_is); (case i => walk_at "m.ints"))); walk_at "m.any")
-- no joining of a call's ways: our claims do
local macro_rules | `(tactic| walk_at "eval Call") => `(tactic| (k_dflt (refine Call_ ?_)))
-- a name: the module's (but for «leap», a local of from_jd too), else a local's value
local macro_rules | `(tactic| walk_at "m.glob") => `(tactic| (
  (fail_if_success (with_reducible show wpAny _ _ (eval (Expr.Name (Str.ofString "leap") _) _) _ _ _));
  refine' q_glob ?F ?X ?T ?e ?_ ?a ?b ?d; (case F => k_asm); (case X => k_asm); (case T => k_asm); (case e => k_is); (case a => kernel_rfl); (case b => kernel_rfl); (case d => kernel_rfl); k_whole))
local macro_rules | `(tactic| walk_at "m.boot") => `(tactic| (
  refine' q_boot ?F ?X ?T ?e ?v ?n ?_ ?a ?b ?d; (case F => k_asm); (case X => k_asm); (case T => k_asm); (case e => k_is); (case v => k_dflt boot_fast); (case n => decide); (case a => kernel_rfl); (case b => kernel_rfl); (case d => kernel_rfl); k_whole))
local macro_rules | `(tactic| walk_at "m.loc") => `(tactic| (
  refine' q_loc ?F ?v ?_ ?a ?b ?d; (case F => k_dflt k_asm); (case v => k_dflt rfl); (case a => kernel_rfl); (case b => kernel_rfl); (case d => kernel_rfl); k_whole))
local macro_rules | `(tactic| walk_at "eval Name") => `(tactic| (k_here; first
  | (with_reducible walk_at "m.glob")
  | (with_reducible walk_at "m.loc")
  | (with_reducible walk_at "m.boot")))

local macro_rules | `(tactic| walk_at "m.useB") => `(tactic| (intro h9 tk9 F9 N9; refine ⟨fun hP9 => ?_, fun hP9 => ?_⟩ <;> (try dsimp only) <;> (try k_fold)))
local macro_rules | `(tactic| walk_at "m.useV") => `(tactic| (intro t9 h9 tk9 v9 hv9 F9 N9; (try dsimp only); (try k_fold)))
local macro_rules | `(tactic| walk_at "call ref") => `(tactic| (k_here; (with_reducible show wpAny _ _ (call (Value.ref 57) [Value.int _ _]) _ _ _); k_dflt (refine' use_cl (isleap_ok _ _ _ _) ?k1 ?k2 ?k3 ?k4 ?k5 ?kK ?kd ?ku ?_; walk_at "m.prem"; walk_at "m.useB")))


local macro_rules | `(tactic| walk_at "call ref") => `(tactic| (k_here; (with_reducible show wpAny _ _ (call (Value.ref 64) [Value.int _ _, Value.int _ _, Value.int _ _]) _ _ _); k_dflt (refine' use_cl (legal_ok _ _ _ _ _ _ _ _ ?dom) ?k1 ?k2 ?k3 ?k4 ?k5 ?kK ?kd ?ku ?_; (case dom => first | assumption | (unfold DayOk; omega)); walk_at "m.prem"; (intro t9 h9 tk9 F9 N9; (try dsimp only); (try k_fold)))))


local macro_rules | `(tactic| walk_at "call ref") => `(tactic| (k_here; (with_reducible show wpAny _ _ (call (Value.ref 71) [Value.int _ _, Value.int _ _, Value.int _ _]) _ _ _); k_dflt (refine' use_cl (gtojd_ok _ _ _ _ _ _ _ _ ?dom1 ?dom2 ?dom3) ?k1 ?k2 ?k3 ?k4 ?k5 ?kK ?kd ?ku ?_; (case dom1 => first | with_reducible assumption | decide | (refine ⟨?_, ?_⟩ <;> walk_at "m.bnd")); (case dom2 => first | with_reducible assumption | decide | (refine ⟨?_, ?_⟩ <;> walk_at "m.bnd")); (case dom3 => first | assumption | (unfold DayOk; omega)); walk_at "m.prem"; walk_at "m.useV")))

local macro_rules | `(tactic| walk_at "m.useD") => `(tactic| (intro h9 tk9 x9 y9 mo9 d9 t91 t92 t93 hD9 F9 N9; (have hD91 := hD9.1); (have hD92 := hD9.2.1); (have hD93 := hD9.2.2.1); (try dsimp only); (try k_fold)))
local macro_rules | `(tactic| walk_at "call ref") => `(tactic| (k_here; (with_reducible show wpAny _ _ (call (Value.ref 78) [Value.float _ _]) _ _ _); k_dflt (refine' use_cl (fromjd_ok _ _ _ _ _ ?hx ?dom1 ?dom2 ?dom3) ?k1 ?k2 ?k3 ?k4 ?k5 ?kK ?kd ?ku ?_; (case hx => walk_at "m.hx"); (case dom1 => walk_at "m.bnd"); (case dom2 => walk_at "m.bnd"); (case dom3 => walk_at "m.bnd"); walk_at "m.prem"; walk_at "m.useD")))

local macro_rules | `(tactic| walk_at "call ref") => `(tactic| (k_here; (with_reducible show wpAny _ _ (call (Value.ref 85) [Value.int _ _]) _ _ _); k_dflt (refine' use_cl (leap_ok _ _ _ _) ?k1 ?k2 ?k3 ?k4 ?k5 ?kK ?kd ?ku ?_; walk_at "m.prem"; walk_at "m.useB")))

local macro_rules | `(tactic| walk_at "call ref") => `(tactic| (k_here; (with_reducible show wpAny _ _ (call (Value.ref 92) [Value.int _ _]) _ _ _); k_dflt (refine' use_cl (months_ok _ _ _ _) ?k1 ?k2 ?k3 ?k4 ?k5 ?kK ?kd ?ku ?_; walk_at "m.prem"; walk_at "m.useV")))
local macro_rules | `(tactic| walk_at "call ref") => `(tactic| (k_here; (with_reducible show wpAny _ _ (call (Value.ref 99) [Value.int _ _]) _ _ _); k_dflt (refine' use_cl (delay1_ok _ _ _ _ ?dom1) ?k1 ?k2 ?k3 ?k4 ?k5 ?kK ?kd ?ku ?_; (case dom1 => first | with_reducible assumption | decide | (refine ⟨?_, ?_⟩ <;> walk_at "m.bnd")); walk_at "m.prem"; walk_at "m.useV")))

local macro_rules | `(tactic| walk_at "call ref") => `(tactic| (k_here; (with_reducible show wpAny _ _ (call (Value.ref 106) [Value.int _ _]) _ _ _); k_dflt (refine' use_cl (delay2_ok _ _ _ _ ?dom1) ?k1 ?k2 ?k3 ?k4 ?k5 ?kK ?kd ?ku ?_; (case dom1 => first | with_reducible assumption | decide | (refine ⟨?_, ?_⟩ <;> walk_at "m.bnd")); walk_at "m.prem"; walk_at "m.useV")))

local macro_rules | `(tactic| walk_at "call ref") => `(tactic| (k_here; (with_reducible show wpAny _ _ (call (Value.ref 134) [Value.int _ _, Value.int 7 _, Value.int 1 _]) _ _ _); k_dflt (refine' use_cl (th7_ok _ _ _ _ _ _ ?dom1) ?k1 ?k2 ?k3 ?k4 ?k5 ?kK ?kd ?ku ?_; (case dom1 => first | with_reducible assumption | decide | (refine ⟨?_, ?_⟩ <;> walk_at "m.bnd")); walk_at "m.prem"; walk_at "m.useV")))

local macro_rules | `(tactic| walk_at "call ref") => `(tactic| (k_here; (with_reducible show wpAny _ _ (call (Value.ref 113) [Value.int _ _]) _ _ _); k_dflt (refine' use_cl (yd_ok _ _ _ _ ?dom1) ?k1 ?k2 ?k3 ?k4 ?k5 ?kK ?kd ?ku ?_; (case dom1 => first | with_reducible assumption | decide | (refine ⟨?_, ?_⟩ <;> walk_at "m.bnd")); walk_at "m.prem"; walk_at "m.useV")))

local macro_rules | `(tactic| walk_at "call ref") => `(tactic| (k_here; (with_reducible show wpAny _ _ (call (Value.ref 120) [Value.int _ _, Value.int _ _]) _ _ _); k_dflt (refine' use_cl (mlen_ok _ _ _ _ _ _ ?dom1 ?dom2) ?k1 ?k2 ?k3 ?k4 ?k5 ?kK ?kd ?ku ?_; (case dom1 => first | with_reducible assumption | decide | (refine ⟨?_, ?_⟩ <;> walk_at "m.bnd")); (case dom2 => first | with_reducible assumption | decide | (refine ⟨?_, ?_⟩ <;> walk_at "m.bnd")); walk_at "m.prem"; walk_at "m.useV")))

local macro_rules | `(tactic| walk_at "m.useM") => `(tactic| (intro t9 h9 tk9 v9 hv9 F9 N9; (try simp only [Nat.zero_add, Nat.reduceAdd, Int.natCast_zero, Int.natCast_one, Int.cast_ofNat_Int, Int.reduceAdd, Int.add_zero] at hv9); (try dsimp only); (try k_fold)))
local macro_rules | `(tactic| walk_at "call ref") => `(tactic| (k_here; (with_reducible show wpAny _ _ (call (Value.ref 127) [Value.int _ _, Value.int _ _]) _ _ _); k_dflt (refine' use_cl (mdays_ok _ _ _ _ _ _ ?dom1 ?dom2) ?k1 ?k2 ?k3 ?k4 ?k5 ?kK ?kd ?ku ?_; (case dom1 => first | with_reducible assumption | decide | (refine ⟨?_, ?_⟩ <;> walk_at "m.bnd")); (case dom2 => first | with_reducible assumption | decide | (refine ⟨?_, ?_⟩ <;> walk_at "m.bnd")); walk_at "m.prem"; walk_at "m.useM")))

local macro_rules | `(tactic| walk_at "call ref") => `(tactic| (k_here; (with_reducible show wpAny _ _ (call (Value.ref 134) [Value.int _ _, Value.int _ _, Value.int _ _]) _ _ _); k_dflt (refine' use_cl (th_ok _ _ _ _ _ _ _ _ ?dom1 ?dom2 ?dom3) ?k1 ?k2 ?k3 ?k4 ?k5 ?kK ?kd ?ku ?_; (case dom1 => first | with_reducible assumption | decide | (refine ⟨?_, ?_⟩ <;> walk_at "m.bnd")); (case dom2 => first | with_reducible assumption | decide | (refine ⟨?_, ?_⟩ <;> walk_at "m.bnd")); (case dom3 => first | with_reducible assumption | decide | (refine ⟨?_, ?_⟩ <;> walk_at "m.bnd")); walk_at "m.prem"; walk_at "m.useV")))

local macro_rules | `(tactic| walk_at "call ref") => `(tactic| (k_here; (with_reducible show wpAny _ _ (call (Value.ref 141) [Value.int _ _, Value.int _ _, Value.int _ _]) _ _ _); k_dflt (refine' use_clE (gy_ok _ _ _ _ _ _ _ _ ?dom1 ?dom2 ?dom3) ?k1 ?k2 ?k3 ?k4 ?k5 ?kK ?kd ?ku ?_ ?_; (case dom1 => first | with_reducible assumption | (refine ⟨?_, ?_⟩ <;> walk_at "m.bnd")); (case dom2 => first | with_reducible assumption | decide | (refine ⟨?_, ?_⟩ <;> walk_at "m.bnd")); (case dom3 => first | with_reducible assumption | decide | (refine ⟨?_, ?_⟩ <;> walk_at "m.bnd")); walk_at "m.prem"; rotate_left; walk_at "m.useV"; rotate_right; walk_at "m.useE")))
local macro_rules | `(tactic| walk_at "m.useE") => `(tactic| (intro hL9 g9 e9 h9 tk9 F9 R9 U9; (try dsimp only); (try k_fold)))

local macro_rules | `(tactic| walk_at "call ref") => `(tactic| (k_here; (with_reducible show wpAny _ _ (call (Value.ref 49) [Value.float _ _]) _ _ _); k_dflt (refine' use_cl (jwday_ok _ _ _ _ _ ?hx ?dom1 ?dom2 ?dom3) ?k1 ?k2 ?k3 ?k4 ?k5 ?kK ?kd ?ku ?_; (case hx => walk_at "m.hx"); (case dom1 => walk_at "m.bnd"); (case dom2 => walk_at "m.bnd"); (case dom3 => walk_at "m.bnd"); walk_at "m.prem"; walk_at "m.useV")))


local macro_rules | `(tactic| walk_at "m.ev") => `(tactic| first | exact Or.inl ⟨rfl, rfl⟩ | exact Or.inr rfl | assumption)
local macro_rules | `(tactic| walk_at "call ref") => `(tactic| (k_here; (with_reducible show wpAny _ _ (call (Value.ref 149) [Value.int _ _, _]) _ _ _); k_dflt (refine' use_clE (hanukkah_ok _ _ _ _ _ _ ?dom1 ?dom2) ?k1 ?k2 ?k3 ?k4 ?k5 ?kK ?kd ?ku ?_ ?_; (case dom1 => first | with_reducible assumption | (refine ⟨?_, ?_⟩ <;> walk_at "m.bnd")); (case dom2 => walk_at "m.ev"); walk_at "m.prem"; rotate_left; walk_at "m.useF"; rotate_right; walk_at "m.useE")))
local macro_rules | `(tactic| walk_at "call ref") => `(tactic| (k_here; (with_reducible show wpAny _ _ (call (Value.ref 165) [Value.int _ _, _]) _ _ _); k_dflt (refine' use_clE (rosh_ok _ _ _ _ _ _ ?dom1 ?dom2) ?k1 ?k2 ?k3 ?k4 ?k5 ?kK ?kd ?ku ?_ ?_; (case dom1 => first | with_reducible assumption | (refine ⟨?_, ?_⟩ <;> walk_at "m.bnd")); (case dom2 => walk_at "m.ev"); walk_at "m.prem"; rotate_left; walk_at "m.useF"; rotate_right; walk_at "m.useE")))
local macro_rules | `(tactic| walk_at "call ref") => `(tactic| (k_here; (with_reducible show wpAny _ _ (call (Value.ref 173) [Value.int _ _, _]) _ _ _); k_dflt (refine' use_clE (yom_ok _ _ _ _ _ _ ?dom1 ?dom2) ?k1 ?k2 ?k3 ?k4 ?k5 ?kK ?kd ?ku ?_ ?_; (case dom1 => first | with_reducible assumption | (refine ⟨?_, ?_⟩ <;> walk_at "m.bnd")); (case dom2 => walk_at "m.ev"); walk_at "m.prem"; rotate_left; walk_at "m.useF"; rotate_right; walk_at "m.useE")))
local macro_rules | `(tactic| walk_at "call ref") => `(tactic| (k_here; (with_reducible show wpAny _ _ (call (Value.ref 181) [Value.int _ _, _]) _ _ _); k_dflt (refine' use_clE (pass_ok _ _ _ _ _ _ ?dom1 ?dom2) ?k1 ?k2 ?k3 ?k4 ?k5 ?kK ?kd ?ku ?_ ?_; (case dom1 => first | with_reducible assumption | (refine ⟨?_, ?_⟩ <;> walk_at "m.bnd")); (case dom2 => walk_at "m.ev"); walk_at "m.prem"; rotate_left; walk_at "m.useF"; rotate_right; walk_at "m.useE")))
local macro_rules | `(tactic| walk_at "call ref") => `(tactic| (k_here; (with_reducible show wpAny _ _ (call (Value.ref 189) [Value.int _ _, _]) _ _ _); k_dflt (refine' use_clE (shav_ok _ _ _ _ _ _ ?dom1 ?dom2) ?k1 ?k2 ?k3 ?k4 ?k5 ?kK ?kd ?ku ?_ ?_; (case dom1 => first | with_reducible assumption | (refine ⟨?_, ?_⟩ <;> walk_at "m.bnd")); (case dom2 => walk_at "m.ev"); walk_at "m.prem"; rotate_left; walk_at "m.useF"; rotate_right; walk_at "m.useE")))
local macro_rules | `(tactic| walk_at "call ref") => `(tactic| (k_here; (with_reducible show wpAny _ _ (call (Value.ref 197) [Value.int _ _, _]) _ _ _); k_dflt (refine' use_clE (sukk_ok _ _ _ _ _ _ ?dom1 ?dom2) ?k1 ?k2 ?k3 ?k4 ?k5 ?kK ?kd ?ku ?_ ?_; (case dom1 => first | with_reducible assumption | (refine ⟨?_, ?_⟩ <;> walk_at "m.bnd")); (case dom2 => walk_at "m.ev"); walk_at "m.prem"; rotate_left; walk_at "m.useF"; rotate_right; walk_at "m.useE")))
local macro_rules | `(tactic| walk_at "call ref") => `(tactic| (k_here; (with_reducible show wpAny _ _ (call (Value.ref 205) [Value.int _ _, _]) _ _ _); k_dflt (refine' use_clE (shem_ok _ _ _ _ _ _ ?dom1 ?dom2) ?k1 ?k2 ?k3 ?k4 ?k5 ?kK ?kd ?ku ?_ ?_; (case dom1 => first | with_reducible assumption | (refine ⟨?_, ?_⟩ <;> walk_at "m.bnd")); (case dom2 => walk_at "m.ev"); walk_at "m.prem"; rotate_left; walk_at "m.useF"; rotate_right; walk_at "m.useE")))
local macro_rules | `(tactic| walk_at "call ref") => `(tactic| (k_here; (with_reducible show wpAny _ _ (call (Value.ref 213) [Value.int _ _, _]) _ _ _); k_dflt (refine' use_clE (lag_ok _ _ _ _ _ _ ?dom1 ?dom2) ?k1 ?k2 ?k3 ?k4 ?k5 ?kK ?kd ?ku ?_ ?_; (case dom1 => first | with_reducible assumption | (refine ⟨?_, ?_⟩ <;> walk_at "m.bnd")); (case dom2 => walk_at "m.ev"); walk_at "m.prem"; rotate_left; walk_at "m.useF"; rotate_right; walk_at "m.useE")))
local macro_rules | `(tactic| walk_at "call ref") => `(tactic| (k_here; (with_reducible show wpAny _ _ (call (Value.ref 221) [Value.int _ _, _]) _ _ _); k_dflt (refine' use_clE (tub_ok _ _ _ _ _ _ ?dom1 ?dom2) ?k1 ?k2 ?k3 ?k4 ?k5 ?kK ?kd ?ku ?_ ?_; (case dom1 => first | with_reducible assumption | (refine ⟨?_, ?_⟩ <;> walk_at "m.bnd")); (case dom2 => walk_at "m.ev"); walk_at "m.prem"; rotate_left; walk_at "m.useF"; rotate_right; walk_at "m.useE")))
local macro_rules | `(tactic| walk_at "m.useF") => `(tactic| (intro h9 tk9 x9 y9 mo9 d9 t91 t92 t93 hD9 F9 N9; (try dsimp only); (try k_fold)))

local macro_rules | `(tactic| walk_at "call ref") => `(tactic| (k_here; (with_reducible show wpAny _ _ (call (Value.ref 157) [Value.int _ _, _]) _ _ _); k_dflt (refine' use_clE (purim_ok _ _ _ _ _ _ ?dom1 ?dom2) ?k1 ?k2 ?k3 ?k4 ?k5 ?kK ?kd ?ku ?_ ?_; (case dom1 => first | with_reducible assumption | (refine ⟨?_, ?_⟩ <;> walk_at "m.bnd")); (case dom2 => walk_at "m.ev"); walk_at "m.prem"; rotate_left; walk_at "m.useF"; rotate_right; walk_at "m.useE")))
local macro_rules | `(tactic| walk_at "call ref") => `(tactic| (k_here; (with_reducible show wpAny _ _ (call (Value.ref 229) [Value.int _ _, _]) _ _ _); k_dflt (refine' use_clE (tisha_ok _ _ _ _ _ _ ?dom1 ?dom2) ?k1 ?k2 ?k3 ?k4 ?k5 ?kK ?kd ?ku ?_ ?_; (case dom1 => first | with_reducible assumption | (refine ⟨?_, ?_⟩ <;> walk_at "m.bnd")); (case dom2 => walk_at "m.ev"); walk_at "m.prem"; rotate_left; walk_at "m.useF"; rotate_right; walk_at "m.useE")))

/-! the law's feasts (the first law) -/
def LF (k gy : Int) (eb : Bool) (y m d : Int) : Prop :=
  (k = 0 ∧ Feast gy 9 25 eb y m d) ∨ (k = 1 ∧ Feast gy (pm gy) 14 eb y m d) ∨ (k = 2 ∧ Feast gy 7 1 eb y m d) ∨ (k = 3 ∧ Feast gy 7 10 eb y m d) ∨ (k = 4 ∧ Feast gy 1 15 eb y m d) ∨ (k = 5 ∧ Feast gy 3 6 eb y m d) ∨
  (k = 6 ∧ Feast gy 7 15 eb y m d) ∨ (k = 7 ∧ Feast gy 7 22 eb y m d) ∨ (k = 8 ∧ Feast gy 2 18 eb y m d) ∨ (k = 9 ∧ Feast gy 11 15 eb y m d) ∨ (k = 10 ∧ Tisha gy eb y m d)
def LL (k gy : Int) : Prop :=
  (k = 0 ∧ Lost gy 9 25) ∨ (k = 1 ∧ Lost gy (pm gy) 14) ∨ (k = 2 ∧ Lost gy 7 1) ∨ (k = 3 ∧ Lost gy 7 10) ∨ (k = 4 ∧ Lost gy 1 15) ∨ (k = 5 ∧ Lost gy 3 6) ∨
  (k = 6 ∧ Lost gy 7 15) ∨ (k = 7 ∧ Lost gy 7 22) ∨ (k = 8 ∧ Lost gy 2 18) ∨ (k = 9 ∧ Lost gy 11 15) ∨ (k = 10 ∧ Lost gy 5 9)

local macro_rules | `(tactic| walk_at "m.or") => `(tactic| first | exact .inl ⟨by omega, by assumption⟩ | exact ⟨by omega, by assumption⟩ | (refine .inr ?_; walk_at "m.or"))
theorem lawfeast_ok (w : World) (news : List (Addr × Obj)) (k gy : Int) (ev : Value) (eb : Bool) (t t2 : Tok) (hk0 : 0 ≤ k ∧ k ≤ 10) (hy : 1 ≤ gy ∧ gy ≤ 9999) (hev : EvOk ev eb) :
    ClE w 290 news [.int k t, .int gy t2, ev] 10 80 (LL k gy) (RetD news (LF k gy eb)) := by
  unfold ClE RetD RaisesV
  k_fill
  intro p loose mean mg mb dp un gd cn cs a ccd cl outer A₀ base h₀ L m s Q E B F X N T hk hd' hu hE hret
  refine wpAny_call ?_
  k_dflt cell_enter
  k_steps
  all_goals first
    | (refine endD (E := E) hret (by k_asm) (by walk_at "m.news") ?_; unfold LF; walk_at "m.or")
    | exact hE (by unfold LL; walk_at "m.or") _ _ _ _ (by assumption) (raised_drop (by assumption) (by (intro qN hN; repeat (first | exact hN | refine List.mem_cons_of_mem _ ?_)))) (by assumption)

end Mine
end

section
open PySem PySem.W PyProof.Rows
set_option maxRecDepth 100000
set_option maxHeartbeats 8000000
set_option linter.unusedVariables false
set_option pp.maxSteps 3000
namespace Mine
theorem top_off_K8d : True := by
  w_top off
  trivial
open PySem PySem.Calls PyProof.Rows
/-! one date for one day -/
def monOf (yd : Int) (lp : Bool) : Int :=
  (12 * (yd + (if yd < 58 + (if lp then 1 else 0) then 0 else if lp then 1 else 2)) + 373) / 367
def dayChk2 (m d : Int) (lp : Bool) : Bool :=
  monOf ((367 * m - 362) / 12 + (if m ≤ 2 then 0 else if lp then -1 else -2) + d - 1) lp == m
theorem dayChk2_all : ∀ m : Fin 12, ∀ d : Fin 31, ∀ lp : Bool,
    ((m.val == 1 && (29 ≤ d.val || (28 ≤ d.val && !lp))) || ((m.val == 3 || m.val == 5 || m.val == 8 || m.val == 10) && 30 ≤ d.val) || dayChk2 (1 + m.val) (1 + d.val) lp) = true := by decide +kernel
theorem mon_of_date {a y m d : Int} (h : GDate a y m d) (lp : Bool) (hlp : lp = true ↔ LeapG y) : monOf ((a - gjd y 1 1) / 2) lp = m := by
  obtain ⟨⟨m1, m2⟩, _, hd, ha⟩ := h
  unfold DayOk at hd
  obtain ⟨d1, d2, d3, d4, d5⟩ := hd
  have chk := dayChk2_all ⟨(m - 1).toNat, by omega⟩ ⟨(d - 1).toNat, by omega⟩ lp
  have e1 : (1 + (((m - 1).toNat : Nat) : Int)) = m := by omega
  have e2 : (1 + (((d - 1).toNat : Nat) : Int)) = d := by omega
  simp only [e1, e2] at chk
  have c : dayChk2 m d lp = true := by
    rcases Bool.or_eq_true_iff.mp chk with c | c
    · rcases Bool.or_eq_true_iff.mp c with c | c
      · exfalso
        simp only [Bool.and_eq_true, Bool.or_eq_true, beq_iff_eq, decide_eq_true_eq, Bool.not_eq_true'] at c
        obtain ⟨c1, c2⟩ := c
        rcases c2 with c2 | ⟨c2, c3⟩
        · have := d3 (by omega); omega
        · subst c3
          have := d4 (by omega) (fun g => Bool.false_ne_true (hlp.mpr g)); omega
      · exfalso
        simp only [Bool.and_eq_true, Bool.or_eq_true, beq_iff_eq, decide_eq_true_eq] at c
        have := d5 (by omega); omega
    · exact c
  unfold dayChk2 at c
  have c' := beq_iff_eq.mp c
  have e : (a - gjd y 1 1) / 2 = (367 * m - 362) / 12 + (if m ≤ 2 then 0 else if lp then -1 else -2) + d - 1 := by
    rw [first_eq, ← ha]
    unfold gjd
    cases lp
    · have hn : ¬ LeapG y := fun g => Bool.false_ne_true (hlp.mpr g)
      simp only [if_neg hn, Bool.false_eq_true, if_false]
      split <;> omega
    · have hn : LeapG y := hlp.mp rfl
      simp only [if_pos hn, if_true]
      split <;> omega
  rw [e]
  exact c'
theorem date_unique {a y m d y' m' d' : Int} (h : GDate a y m d) (h' : GDate a y' m' d') : y = y' ∧ m = m' ∧ d = d' := by
  have hy : y = y' := inY_unique (date_in h) (date_in h')
  subst hy
  have hm : m = m' := by
    by_cases hl : LeapG y
    · rw [← mon_of_date h true ⟨fun _ => hl, fun _ => rfl⟩, mon_of_date h' true ⟨fun _ => hl, fun _ => rfl⟩]
    · rw [← mon_of_date h false ⟨fun c => absurd c Bool.false_ne_true, fun c => absurd c hl⟩, mon_of_date h' false ⟨fun c => absurd c Bool.false_ne_true, fun c => absurd c hl⟩]
  subst hm
  refine ⟨rfl, rfl, ?_⟩
  have e := h.2.2.2
  have e' := h'.2.2.2
  unfold gjd at e e'
  omega

-- small words of ours, as lines of walk_at
local macro_rules | `(tactic| walk_at "m.bools") => `(tactic| (simp only [decide_eq_true_eq, decide_eq_false_iff_not, Bool.not_eq_true, Bool.not_eq_false, Bool.and_eq_true, Bool.or_eq_true, Bool.not_eq_true', Bool.not_eq_false', beq_iff_eq, bne_iff_ne, beq_eq_false_iff_ne, bne_eq_false_iff_eq, Bool.and_eq_false_iff, Bool.or_eq_false_iff, ne_eq, Decidable.not_not] at *))
local macro_rules | `(tactic| walk_at "m.bnd") => `(tactic| first | omega | decide | ((try walk_at "m.bools"); omega) | (exfalso; (try walk_at "m.bools"); simp_all; omega))
local macro_rules | `(tactic| walk_at "m.hx") => `(tactic| first | with_reducible exact rfl | exact litH | exact litG | exact litHalf)
local macro_rules | `(tactic| walk_at "m.news") => `(tactic| first | k_asm | (refine' cb_drop ?cbN ?cbS; (case cbN => assumption); (case cbS => (intro qN hN; repeat (first | exact hN | refine List.mem_cons_of_mem _ ?_)))))
-- use a claim at a call
local macro_rules | `(tactic| walk_at "m.prem") => `(tactic| (
  (case k1 => k_asm); (case k2 => k_asm); (case k3 => k_asm); (case k4 => k_asm); (case k5 => k_asm);
  (case kK => first | exact rfl | assumption); (case kd => ktr_room); (case ku => ktr_units)))

-- floats
local macro_rules | `(tactic| walk_at "binaryOp Add float int") => `(tactic| first
  | (with_reducible refine' r_add_fi ?x ?al ?au ?nl ?nu ?_; (case x => walk_at "m.hx"); (case al => walk_at "m.bnd"); (case au => walk_at "m.bnd"); (case nl => walk_at "m.bnd"); (case nu => walk_at "m.bnd"); k_whole; (try dsimp only))
  | (with_reducible refine' add_fi_fits ?n ?_; (case n => exact fitsH (by walk_at "m.bnd")); k_whole; (try dsimp only)))
local macro_rules | `(tactic| walk_at "inplaceOp Add float int") => `(tactic| (with_reducible refine' r_iadd_fi rfl ?x ?al ?au ?nl ?nu ?_; (case x => walk_at "m.hx"); (case al => walk_at "m.bnd"); (case au => walk_at "m.bnd"); (case nl => walk_at "m.bnd"); (case nu => walk_at "m.bnd"); k_whole; (try dsimp only)))
local macro_rules | `(tactic| walk_at "binaryOp Add int float") => `(tactic| (with_reducible refine' r_add_if ?x ?al ?au ?nl ?nu ?_; (case x => walk_at "m.hx"); (case al => walk_at "m.bnd"); (case au => walk_at "m.bnd"); (case nl => walk_at "m.bnd"); (case nu => walk_at "m.bnd"); k_whole; (try dsimp only)))
local macro_rules | `(tactic| walk_at "binaryOp Sub float int") => `(tactic| (with_reducible refine' r_sub_fi ?x ?al ?au ?nl ?nu ?_; (case x => walk_at "m.hx"); (case al => walk_at "m.bnd"); (case au => walk_at "m.bnd"); (case nl => walk_at "m.bnd"); (case nu => walk_at "m.bnd"); k_whole; (try dsimp only)))
local macro_rules | `(tactic| walk_at "binaryOp Sub int float") => `(tactic| (with_reducible refine' r_sub_if ?x ?al ?au ?nl ?nu ?_; (case x => walk_at "m.hx"); (case al => walk_at "m.bnd"); (case au => walk_at "m.bnd"); (case nl => walk_at "m.bnd"); (case nu => walk_at "m.bnd"); k_whole; (try dsimp only)))
local macro_rules | `(tactic| walk_at "binaryOp Mult float int") => `(tactic| (with_reducible refine' r_mul_fi ?x ?al ?au ?z ?nl ?nu ?_; (case x => walk_at "m.hx"); (case al => walk_at "m.bnd"); (case au => walk_at "m.bnd"); (case z => walk_at "m.bnd"); (case nl => walk_at "m.bnd"); (case nu => walk_at "m.bnd"); k_whole; (try dsimp only)))
local macro_rules | `(tactic| walk_at "binaryOp Add float float") => `(tactic| (with_reducible refine' r_add_ff ?x ?y ?al ?au ?bl ?bu ?_; (case x => walk_at "m.hx"); (case y => walk_at "m.hx"); (case al => walk_at "m.bnd"); (case au => walk_at "m.bnd"); (case bl => walk_at "m.bnd"); (case bu => walk_at "m.bnd"); k_whole; (try dsimp only)))
local macro_rules | `(tactic| walk_at "binaryOp Sub float float") => `(tactic| (with_reducible refine' r_sub_ff ?x ?y ?al ?au ?bl ?bu ?_; (case x => walk_at "m.hx"); (case y => walk_at "m.hx"); (case al => walk_at "m.bnd"); (case au => walk_at "m.bnd"); (case bl => walk_at "m.bnd"); (case bu => walk_at "m.bnd"); k_whole; (try dsimp only)))
local macro_rules | `(tactic| walk_at "binaryOp Div float int") => `(tactic| (with_reducible refine' r_div_fi rfl ?x ?z ?nl ?nu ?_; (case x => walk_at "m.hx"); (case z => walk_at "m.bnd"); (case nl => walk_at "m.bnd"); (case nu => walk_at "m.bnd"); k_whole; (try dsimp only)))
local macro_rules | `(tactic| walk_at "binaryOp Div int int") => `(tactic| (with_reducible refine' r_div_ii rfl ?z ?nl ?nu ?_; (case z => walk_at "m.bnd"); (case nl => walk_at "m.bnd"); (case nu => walk_at "m.bnd"); k_whole; (try dsimp only)))
local macro_rules | `(tactic| walk_at "binaryOp Mod float int") => `(tactic| (with_reducible refine' r_mod_fi rfl ?x ?al ?au ?z ?nl ?nu ?_; (case x => walk_at "m.hx"); (case al => walk_at "m.bnd"); (case au => walk_at "m.bnd"); (case z => walk_at "m.bnd"); (case nl => walk_at "m.bnd"); (case nu => walk_at "m.bnd"); k_whole; (try dsimp only)))
local macro_rules | `(tactic| walk_at "call builtin:math.floor") => `(tactic| first
  | (with_reducible refine' r_floor_div rfl ?al ?au ?z ?n ?_; (case al => walk_at "m.bnd"); (case au => walk_at "m.bnd"); (case z => walk_at "m.bnd"); (case n => walk_at "m.bnd"); k_whole; (try dsimp only))
  | (with_reducible refine' r_floor_ii rfl ?al ?au ?z ?n ?_; (case al => walk_at "m.bnd"); (case au => walk_at "m.bnd"); (case z => walk_at "m.bnd"); (case n => walk_at "m.bnd"); k_whole; (try dsimp only))
  | (with_reducible refine' r_floor_m rfl ?m1 ?m2 ?j1 ?j2 ?d1 ?d2 ?_; (case m1 => walk_at "m.bnd"); (case m2 => walk_at "m.bnd"); (case j1 => walk_at "m.bnd"); (case j2 => walk_at "m.bnd"); (case d1 => walk_at "m.bnd"); (case d2 => walk_at "m.bnd"); k_whole; (try dsimp only))
  | (with_reducible refine' r_floor_H rfl ?x ?al ?au ?_; (case x => walk_at "m.hx"); (case al => walk_at "m.bnd"); (case au => walk_at "m.bnd"); k_whole; (try dsimp only)))
local macro_rules | `(tactic| walk_at "call builtin:math.trunc") => `(tactic| (with_reducible refine' r_trunc_H rfl ?x ?z ?al ?au ?_; (case x => walk_at "m.hx"); (case z => walk_at "m.bnd"); (case al => walk_at "m.bnd"); (case au => walk_at "m.bnd"); k_whole; (try dsimp only)))
local macro_rules | `(tactic| walk_at "call type:int") => `(tactic| (with_reducible refine' r_int_H rfl ?x ?z ?al ?au ?_; (case x => walk_at "m.hx"); (case z => walk_at "m.bnd"); (case al => walk_at "m.bnd"); (case au => walk_at "m.bnd"); k_whole; (try dsimp only)))
local macro_rules | `(tactic| walk_at "compareOp Lt float int") => `(tactic| (with_reducible refine' r_lt_fi ?x ?al ?au ?_; (case x => walk_at "m.hx"); (case al => walk_at "m.bnd"); (case au => walk_at "m.bnd"); k_whole; (try dsimp only)))
local macro_rules | `(tactic| walk_at "compareOp Eq float int") => `(tactic| (with_reducible refine' r_eq_fi ?x ?al ?au ?_; (case x => walk_at "m.hx"); (case al => walk_at "m.bnd"); (case au => walk_at "m.bnd"); k_whole; (try dsimp only)))
local macro_rules | `(tactic| walk_at "compareOp NotEq float int") => `(tactic| (with_reducible refine' r_ne_fi ?x ?al ?au ?_; (case x => walk_at "m.hx"); (case al => walk_at "m.bnd"); (case au => walk_at "m.bnd"); k_whole; (try dsimp only)))
local macro_rules | `(tactic| walk_at "compareOp Eq float float") => `(tactic| (with_reducible refine' r_eq_ff ?x ?y ?al ?au ?bl ?bu ?_; (case x => walk_at "m.hx"); (case y => walk_at "m.hx"); (case al => walk_at "m.bnd"); (case au => walk_at "m.bnd"); (case bl => walk_at "m.bnd"); (case bu => walk_at "m.bnd"); k_whole; (try dsimp only)))
local macro_rules | `(tactic| walk_at "compareOp NotEq float float") => `(tactic| (with_reducible refine' r_ne_ff ?x ?y ?al ?au ?bl ?bu ?_; (case x => walk_at "m.hx"); (case y => walk_at "m.hx"); (case al => walk_at "m.bnd"); (case au => walk_at "m.bnd"); (case bl => walk_at "m.bnd"); (case bu => walk_at "m.bnd"); k_whole; (try dsimp only)))
local macro_rules | `(tactic| walk_at "truthy float") => `(tactic| (with_reducible refine' r_truthy ?x ?al ?au ?_; (case x => walk_at "m.hx"); (case al => walk_at "m.bnd"); (case au => walk_at "m.bnd"); k_whole; (try dsimp only)))
-- // and % by a positive divisor: / and % of Int
local macro_rules | `(tactic| walk_at "binaryOp Mod int int") => `(tactic| (with_reducible refine' r_mod_ii ?z ?_; (case z => first | decide | walk_at "m.bnd"); k_whole; (try dsimp only)))
local macro_rules | `(tactic| walk_at "binaryOp FloorDiv int int") => `(tactic| (with_reducible refine' r_fdiv_ii ?z ?y ?_; (case z => first | decide | walk_at "m.bnd"); (case y => first | decide | walk_at "m.bnd"); k_whole; (try dsimp only)))

local macro_rules | `(tactic| walk_at "m.ints") => `(tactic| first | exact IntsAre.nil | (apply IntsAre.cons; walk_at "m.ints"))
local macro_rules | `(tactic| walk_at "m.any") => `(tactic| (all_goals (intro hP9; (simp only [anyP, or_false] at hP9); (try dsimp only))))
local macro_rules | `(tactic| walk_at "compareOp In int ref") => `(tactic| (k_dflt first
  | (refine' r_in_T ?N ?m ?i ?_ ?_; (case N => k_asm); (case m => k_mem); (case i => walk_at "m.ints"))
  | (refine' r_in_L ?N ?m ?i ?_ ?_; (case N => k_asm); (case m => k_mem); (case i => walk_at "m.ints"))
  | (refine' r_in_K ?F ?X ?l ?i ?_ ?_; (case F => k_asm); (case X => k_asm); (case l => k_is); (case i => walk_at "m.ints"))); walk_at "m.any")
-- no joining of a call's ways: our claims do
local macro_rules | `(tactic| walk_at "eval Call") => `(tactic| (k_dflt (refine Call_ ?_)))
-- a name: the module's (but for «leap», a local of from_jd too), else a local's value
local macro_rules | `(tactic| walk_at "m.glob") => `(tactic| (
  (fail_if_success (with_reducible show wpAny _ _ (eval (Expr.Name (Str.ofString "leap") _) _) _ _ _));
  refine' q_glob ?F ?X ?T ?e ?_ ?a ?b ?d; (case F => k_asm); (case X => k_asm); (case T => k_asm); (case e => k_is); (case a => kernel_rfl); (case b => kernel_rfl); (case d => kernel_rfl); k_whole))
local macro_rules | `(tactic| walk_at "m.boot") => `(tactic| (
  refine' q_boot ?F ?X ?T ?e ?v ?n ?_ ?a ?b ?d; (case F => k_asm); (case X => k_asm); (case T => k_asm); (case e => k_is); (case v => k_dflt boot_fast); (case n => decide); (case a => kernel_rfl); (case b => kernel_rfl); (case d => kernel_rfl); k_whole))
local macro_rules | `(tactic| walk_at "m.loc") => `(tactic| (
  refine' q_loc ?F ?v ?_ ?a ?b ?d; (case F => k_dflt k_asm); (case v => k_dflt rfl); (case a => kernel_rfl); (case b => kernel_rfl); (case d => kernel_rfl); k_whole))
local macro_rules | `(tactic| walk_at "eval Name") => `(tactic| (k_here; first
  | (with_reducible walk_at "m.glob")
  | (with_reducible walk_at "m.loc")
  | (with_reducible walk_at "m.boot")))

theorem found_lost {gy m d v : Int} (h : Found gy m d v) (l : Lost gy m d) : False := by
  rcases h with ⟨i, _⟩ | ⟨_, i, _⟩
  · exact l.1 i
  · exact l.2 i
theorem found_eq {gy m d v v' : Int} (h : Found gy m d v) (h' : Found gy m d v') : v = v' := by
  rcases h with ⟨i, e⟩ | ⟨n, i, e⟩ <;> rcases h' with ⟨i', e'⟩ | ⟨n', i', e'⟩
  · rw [e, e']
  · exact absurd i n'
  · exact absurd i' n
  · rw [e, e']
/-- the feasts' months and days -/
def daysL : List (Int × Int) := [(9, 25), (12, 14), (7, 1), (7, 10), (1, 15), (3, 6), (7, 15), (7, 22), (2, 18), (11, 15), (5, 9)]
def moD (k : Int) : Int := (daysL.getD k.toNat (0, 0)).1
def daD (k : Int) : Int := (daysL.getD k.toNat (0, 0)).2
theorem eleven {k : Int} (h : 0 ≤ k ∧ k ≤ 10) : k = 0 ∨ k = 1 ∨ k = 2 ∨ k = 3 ∨ k = 4 ∨ k = 5 ∨ k = 6 ∨ k = 7 ∨ k = 8 ∨ k = 9 ∨ k = 10 := by omega
theorem day_rng {k : Int} (h : 0 ≤ k ∧ k ≤ 10) : (1 ≤ moD k ∧ moD k ≤ 12) ∧ 1 ≤ daD k ∧ daD k ≤ 29 := by
  rcases eleven h with rfl | rfl | rfl | rfl | rfl | rfl | rfl | rfl | rfl | rfl | rfl <;> decide
def mo1 (k gy : Int) : Int := if k = 1 ∧ ((gy + 3760) * 7 + 1) % 19 < 7 then 13 else moD k
theorem mo1_ne {k gy : Int} (h : k ≠ 1) : mo1 k gy = moD k := if_neg (fun c => h c.1)
theorem mo1_pm (gy : Int) : mo1 1 gy = pm gy := by
  unfold mo1 pm
  by_cases h : ((gy + 3760) * 7 + 1) % 19 < 7
  · rw [if_pos ⟨rfl, h⟩, if_pos h]
  · rw [if_neg (fun c => h c.2), if_neg h]; rfl
theorem feast_one {k gy mo da y m d : Int} {eb : Bool} (hk : k ≠ 10) (hm : mo = mo1 k gy) (hd : da = daD k) (h : Feast gy mo da eb y m d) :
    ∃ v, Found gy (mo1 k gy) (daD k) v ∧ GDate ((if k = 10 ∧ (v + 1) / 2 % 7 = 5 then v + 2 else v) - (if eb then 2 else 0)) y m d := by
  obtain ⟨v, h1, h2⟩ := h
  subst hm
  subst hd
  refine ⟨v, h1, ?_⟩
  rw [if_neg (fun c => hk c.1)]
  exact h2
theorem lf_one {k gy y m d : Int} {eb : Bool} (h : LF k gy eb y m d) : ∃ v, Found gy (mo1 k gy) (daD k) v ∧ GDate ((if k = 10 ∧ (v + 1) / 2 % 7 = 5 then v + 2 else v) - (if eb then 2 else 0)) y m d := by
  rcases h with ⟨rfl, h⟩ | ⟨rfl, h⟩ | ⟨rfl, h⟩ | ⟨rfl, h⟩ | ⟨rfl, h⟩ | ⟨rfl, h⟩ | ⟨rfl, h⟩ | ⟨rfl, h⟩ | ⟨rfl, h⟩ | ⟨rfl, h⟩ | ⟨rfl, h⟩
  · exact feast_one (by decide) (by rw [mo1_ne (by decide)]; rfl) rfl h
  · exact feast_one (by decide) (mo1_pm gy).symm rfl h
  · exact feast_one (by decide) (by rw [mo1_ne (by decide)]; rfl) rfl h
  · exact feast_one (by decide) (by rw [mo1_ne (by decide)]; rfl) rfl h
  · exact feast_one (by decide) (by rw [mo1_ne (by decide)]; rfl) rfl h
  · exact feast_one (by decide) (by rw [mo1_ne (by decide)]; rfl) rfl h
  · exact feast_one (by decide) (by rw [mo1_ne (by decide)]; rfl) rfl h
  · exact feast_one (by decide) (by rw [mo1_ne (by decide)]; rfl) rfl h
  · exact feast_one (by decide) (by rw [mo1_ne (by decide)]; rfl) rfl h
  · exact feast_one (by decide) (by rw [mo1_ne (by decide)]; rfl) rfl h
  · obtain ⟨v, h1, h2⟩ := h
    refine ⟨v, ?_, ?_⟩
    · rw [mo1_ne (by decide)]
      exact h1
    · simp only [true_and]
      exact h2
theorem ll_one {k gy : Int} (h : LL k gy) : Lost gy (mo1 k gy) (daD k) := by
  rcases h with ⟨rfl, h⟩ | ⟨rfl, h⟩ | ⟨rfl, h⟩ | ⟨rfl, h⟩ | ⟨rfl, h⟩ | ⟨rfl, h⟩ | ⟨rfl, h⟩ | ⟨rfl, h⟩ | ⟨rfl, h⟩ | ⟨rfl, h⟩ | ⟨rfl, h⟩
  · rw [mo1_ne (by decide)]; exact h
  · rw [mo1_pm]; exact h
  · rw [mo1_ne (by decide)]; exact h
  · rw [mo1_ne (by decide)]; exact h
  · rw [mo1_ne (by decide)]; exact h
  · rw [mo1_ne (by decide)]; exact h
  · rw [mo1_ne (by decide)]; exact h
  · rw [mo1_ne (by decide)]; exact h
  · rw [mo1_ne (by decide)]; exact h
  · rw [mo1_ne (by decide)]; exact h
  · rw [mo1_ne (by decide)]; exact h
/-- the law's date is the project's -/
theorem feast_same {k gy mo da v n y1 m1 d1 y m d : Int} {eb : Bool} (hL : LF k gy eb y1 m1 d1) (hF : FoundN gy mo da v) (hm : mo = mo1 k gy) (hd : da = daD k) (hD : GDate (2 * n - 1) y m d)
    (hn : n = (if k = 10 ∧ v % 7 = 5 then v + 1 else v) - (if eb = true then 1 else 0)) : y1 = y ∧ m1 = m ∧ d1 = d := by
  obtain ⟨u, hu, hG⟩ := lf_one hL
  subst hm
  subst hd
  have e := found_eq hu hF.1
  subst e
  refine date_unique (a := (if k = 10 ∧ (2 * v - 1 + 1) / 2 % 7 = 5 then 2 * v - 1 + 2 else 2 * v - 1) - (if eb = true then 2 else 0)) hG ?_
  have e2 : (2 * v - 1 + 1) / 2 = v := by omega
  rw [e2]
  have e3 : (if k = 10 ∧ v % 7 = 5 then 2 * v - 1 + 2 else 2 * v - 1) - (if eb = true then 2 else 0) = 2 * n - 1 := by
    rw [hn]
    split <;> split <;> omega
  rw [e3]
  exact hD
theorem feast_not {k gy mo da v : Int} (hL : LL k gy) (hF : FoundN gy mo da v) (hm : mo = mo1 k gy) (hd : da = daD k) : False := by
  subst hm
  subst hd
  exact found_lost hF.1 (ll_one hL)
theorem feast_not2 {k gy mo da y m d : Int} {eb : Bool} (hL : LF k gy eb y m d) (hF : Lost gy mo da) (hm : mo = mo1 k gy) (hd : da = daD k) : False := by
  obtain ⟨u, hu, _⟩ := lf_one hL
  subst hm
  subst hd
  exact found_lost hu hF
theorem ny_rng {y : Int} : d0 y ≤ ny y ∧ ny y ≤ d0 y + 3 := by
  have h1 : d0 y ≤ d1 y ∧ d1 y ≤ d0 y + 1 := by unfold d1; split <;> omega
  have h2 : 0 ≤ d2 y ∧ d2 y ≤ 2 := by unfold d2; split <;> (try split) <;> omega
  unfold ny
  omega
/-- Purim of a leap year lies in its Gregorian year -/
theorem purim_in {gy : Int} (hy : 1 ≤ gy ∧ gy ≤ 9999) (hl : ((gy + 3760) * 7 + 1) % 19 < 7) : fst gy ≤ num (gy + 3760) 13 14 ∧ num (gy + 3760) 13 14 < fst (gy + 1) := by
  have c := mlen_c (gy + 3760)
  have c8 := mlen_8 (gy + 3760)
  have c9 := mlen_9 (gy + 3760)
  have c12 := mlen_12 (gy + 3760)
  rw [if_pos hl] at c12
  have b8 : 29 ≤ mlen (gy + 3760) 8 ∧ mlen (gy + 3760) 8 ≤ 30 := by rw [c8]; split <;> omega
  have b9 : 29 ≤ mlen (gy + 3760) 9 ∧ mlen (gy + 3760) 9 ≤ 30 := by rw [c9]; split <;> omega
  have n := ny_rng (y := gy + 3760)
  have ho : offs (gy + 3760) 13 = mlen (gy + 3760) 7 + mlen (gy + 3760) 8 + mlen (gy + 3760) 9 + mlen (gy + 3760) 10 + mlen (gy + 3760) 11 + mlen (gy + 3760) 12 := rfl
  unfold num
  rw [ho]
  unfold d0 at n
  unfold fst
  clear c8 c9 hl
  generalize ny (gy + 3760) = N at *
  generalize mlen (gy + 3760) 8 = L8 at *
  generalize mlen (gy + 3760) 9 = L9 at *
  generalize mlen (gy + 3760) 7 = L7 at *
  generalize mlen (gy + 3760) 10 = L10 at *
  generalize mlen (gy + 3760) 11 = L11 at *
  generalize mlen (gy + 3760) 12 = L12 at *
  omega
theorem r_item_pairs {prog : Program} {w : World} {A : Around} {E : Value → Shared → Prop} {s : Shared} {Q : Value → Shared → Prop} {h₀ : Heap} {L l : Addr} {news nd : List (Addr × Obj)} {vs : List Value} {n : Nat} {k : Int} {u : Tok} {value slice : Expr}
    (N : News h₀ L s.heap ((l, W.listOf vs.toArray n) :: nd)) (hps : PairsIn nd vs daysL) (sub : ∀ p ∈ news, p ∈ nd) (hk : 0 ≤ k ∧ k ≤ 10)
    (h : ∀ T a b t t', a = moD k → b = daD k → (1 ≤ a ∧ a ≤ 12) → (1 ≤ b ∧ b ≤ 29) → News h₀ L s.heap ((T, pairObj a b t t') :: news) → Q (.ref T) s)
    (hs : subscripted slice false (.ref l) (.int k u) = operate [.ref l, .int k u] (getItem (.ref l) (.int k u))) :
    wpAny (model prog w) A (subscriptTail value slice (.ref l) (.int k u)) Q E s := by
  have hlen : vs.length = 11 := hps.length
  have hk2 : k.toNat < vs.length := by omega
  obtain ⟨T, a, b, t, t', e, hm, hd⟩ := hps.get (i := k.toNat) (v := vs[k.toNat]) (by simp [hk2])
  have hget : daysL[k.toNat]? = some (a, b) := by rw [← List.head?_drop, hd]; rfl
  have hD : daysL.getD k.toNat (0, 0) = (a, b) := by rw [List.getD_eq_getElem?_getD, hget]; rfl
  have r := day_rng hk
  have ea : a = moD k := by unfold moD; rw [hD]
  have eb : b = daD k := by unfold daD; rw [hD]
  have hx : vs[k.toNat]? = some (.ref T) := by rw [← e]; simp [hk2]
  refine kba_turn (value' := Expr.Name (Str.ofString "_") ⟨0, 0, 0, 0⟩) (fun _ => rfl) (item_listL (N.isList (List.mem_cons_self ..)) hk.1 (by omega) hx (h T a b t t' ea eb (by rw [ea]; exact r.1) (by rw [eb]; exact r.2) ?_) hs (fun _ => rfl))
  intro p hp
  rcases List.mem_cons.mp hp with rfl | hp
  · exact N _ (List.mem_cons_of_mem _ hm)
  · exact N p (List.mem_cons_of_mem _ (sub p hp))
abbrev RetP (news : List (Addr × Obj)) (h₀ : Heap) (L : Addr) (m : Str → Option Value) (s : Shared) (Q E : Value → Shared → Prop) : Prop :=
  ∀ (h' : Heap) (tk' : Nat) (x : Addr) (vs : List Value) (nd : List (Addr × Obj)), Fr h₀ L h' m → News h₀ L h' ((x, W.listOf vs.toArray 0) :: nd) → PairsIn nd vs daysL → (∀ p ∈ news, p ∈ nd) → Q (.ref x) { s with heap := h', toks := tk' }
local macro_rules | `(tactic| walk_at "m.pairs") => `(tactic| first | exact PairsIn.nil | (refine' PairsIn.cons ?pm ?pr; (case pm => k_mem); (case pr => walk_at "m.pairs")))
theorem ldays_ok (w : World) (news : List (Addr × Obj)) : Cl w 243 news [] 1 8 (RetP news) := by
  unfold Cl RetP
  k_fill
  intro p loose mean mg mb dp un gd cn cs a ccd cl outer A₀ base h₀ L m s Q E B F X N T hk hd' hu hret
  refine wpAny_call ?_
  k_dflt cell_enter
  k_steps
  all_goals (
    refine hret _ _ _ _ _ (by k_asm) (by k_asm) ?_ ?_
    · unfold daysL
      walk_at "m.pairs"
    · intro qN hN
      repeat (first | exact hN | refine List.mem_cons_of_mem _ ?_))
theorem found_lostR {gy m d v : Int} {R : Prop} (h : Found gy m d v ∧ R) (l : Lost gy m d) : False := found_lost h.1 l
theorem found_eqR {gy m d v v' : Int} {R : Prop} (h : Found gy m d v ∧ R) (h' : FoundN gy m d v') : v = 2 * v' - 1 := found_eq h.1 h'.1
theorem two_kinds {x y : Int} {t1 t2 : Tok} {v : Value} (h : v ∈ [Value.int (x % 11) t1, Value.int (y % 11) t2]) : ∃ k t, v = .int k t ∧ 0 ≤ k ∧ k ≤ 10 := by
  rcases List.mem_cons.mp h with e | h
  · exact ⟨_, _, e, by omega, by omega⟩
  · exact ⟨_, _, List.mem_singleton.mp h, by omega, by omega⟩
theorem purim_13 {k b gy : Int} (hy : 1 ≤ gy ∧ gy ≤ 9999) (hk : k = 1) (hb : b = daD k) (hl : ((gy + 3760) * 7 + 1) % 19 < 7) : ((gy + 3760) * 7 + 1) % 19 < 7 ∧ fst gy ≤ num (gy + 3760) 13 b ∧ num (gy + 3760) 13 b < fst (gy + 1) := by
  subst hk
  have e : b = 14 := hb
  subst e
  exact ⟨hl, purim_in hy hl⟩
theorem same_t {k gy mo da v n y1 m1 d1 y m d : Int} {eb : Bool} (hL : LF k gy eb y1 m1 d1) (hF : FoundN gy mo da v) (hm : mo = mo1 k gy) (hd : da = daD k) (hD : GDate (2 * n - 1) y m d) (he : eb = true)
    (hn : n = (if k = 10 ∧ v % 7 = 5 then v + 1 else v) - 1) : y1 = y ∧ m1 = m ∧ d1 = d := feast_same hL hF hm hd hD (by rw [if_pos he]; exact hn)
theorem same_f {k gy mo da v n y1 m1 d1 y m d : Int} {eb : Bool} (hL : LF k gy eb y1 m1 d1) (hF : FoundN gy mo da v) (hm : mo = mo1 k gy) (hd : da = daD k) (hD : GDate (2 * n - 1) y m d) (he : eb = false)
    (hn : n = (if k = 10 ∧ v % 7 = 5 then v + 1 else v)) : y1 = y ∧ m1 = m ∧ d1 = d := feast_same hL hF hm hd hD (by subst he; rw [hn]; simp)
section
variable {prog : Program} {w : World} {A : Around} {E : Value → Shared → Prop} {s : Shared} {Q : Value → Shared → Prop} {x y : UInt64} {a b n : Int} {t u : Tok}
theorem r_ne_ffE (hx : x = H a) (hy : y = H b) (hal : -1000000000000 ≤ a) (hau : a ≤ 1000000000000) (e : a = b) (h : Q (.bool false) s) : wpAny (model prog w) A (compareOp .NotEq (.float x t) (.float y u)) Q E s :=
  r_ne_ff hx hy hal hau (by omega) (by omega) (by rw [decide_eq_true e]; exact h)
end
theorem lawfeast_b (w : World) (news : List (Addr × Obj)) (k gy : Int) (eb : Bool) (t t2 : Tok) (hk0 : 0 ≤ k ∧ k ≤ 10) (hy : 1 ≤ gy ∧ gy ≤ 9999) :
    ClE w 290 news [.int k t, .int gy t2, .bool eb] 10 80 (LL k gy) (RetD news (LF k gy eb)) := lawfeast_ok w news k gy (.bool eb) eb t t2 hk0 hy (.inr rfl)

end Mine
end

section
open PySem PySem.W PyProof.Rows
set_option maxRecDepth 100000
set_option maxHeartbeats 8000000
set_option linter.unusedVariables false
set_option pp.maxSteps 3000
namespace Mine
theorem top_off_K8 : True := by
  w_top off
  trivial
open PySem PySem.Calls PyProof.Rows
-- small words of ours, as lines of walk_at
local macro_rules | `(tactic| walk_at "m.bools") => `(tactic| (simp only [decide_eq_true_eq, decide_eq_false_iff_not, Bool.not_eq_true, Bool.not_eq_false, Bool.and_eq_true, Bool.or_eq_true, Bool.not_eq_true', Bool.not_eq_false', beq_iff_eq, bne_iff_ne, beq_eq_false_iff_ne, bne_eq_false_iff_eq, Bool.and_eq_false_iff, Bool.or_eq_false_iff, ne_eq, Decidable.not_not] at *))
local macro_rules | `(tactic| walk_at "m.bnd") => `(tactic| first | omega | decide | ((try walk_at "m.bools"); omega) | (exfalso; (try walk_at "m.bools"); simp_all; omega))
local macro_rules | `(tactic| walk_at "m.hx") => `(tactic| first | with_reducible exact rfl | exact litH | exact litG | exact litHalf)
local macro_rules | `(tactic| walk_at "m.news") => `(tactic| first | k_asm | (refine' cb_drop ?cbN ?cbS; (case cbN => assumption); (case cbS => (intro qN hN; repeat (first | exact hN | refine List.mem_cons_of_mem _ ?_)))))
-- use a claim at a call
local macro_rules | `(tactic| walk_at "m.prem") => `(tactic| (
  (case k1 => k_asm); (case k2 => k_asm); (case k3 => k_asm); (case k4 => k_asm); (case k5 => k_asm);
  (case kK => first | exact rfl | assumption); (case kd => ktr_room); (case ku => ktr_units)))

-- floats
local macro_rules | `(tactic| walk_at "binaryOp Add float int") => `(tactic| first
  | (with_reducible refine' r_add_fi ?x ?al ?au ?nl ?nu ?_; (case x => walk_at "m.hx"); (case al => walk_at "m.bnd"); (case au => walk_at "m.bnd"); (case nl => walk_at "m.bnd"); (case nu => walk_at "m.bnd"); k_whole; (try dsimp only))
  | (with_reducible refine' add_fi_fits ?n ?_; (case n => exact fitsH (by walk_at "m.bnd")); k_whole; (try dsimp only)))
local macro_rules | `(tactic| walk_at "inplaceOp Add float int") => `(tactic| (with_reducible refine' r_iadd_fi rfl ?x ?al ?au ?nl ?nu ?_; (case x => walk_at "m.hx"); (case al => walk_at "m.bnd"); (case au => walk_at "m.bnd"); (case nl => walk_at "m.bnd"); (case nu => walk_at "m.bnd"); k_whole; (try dsimp only)))
local macro_rules | `(tactic| walk_at "binaryOp Add int float") => `(tactic| (with_reducible refine' r_add_if ?x ?al ?au ?nl ?nu ?_; (case x => walk_at "m.hx"); (case al => walk_at "m.bnd"); (case au => walk_at "m.bnd"); (case nl => walk_at "m.bnd"); (case nu => walk_at "m.bnd"); k_whole; (try dsimp only)))
local macro_rules | `(tactic| walk_at "binaryOp Sub float int") => `(tactic| (with_reducible refine' r_sub_fi ?x ?al ?au ?nl ?nu ?_; (case x => walk_at "m.hx"); (case al => walk_at "m.bnd"); (case au => walk_at "m.bnd"); (case nl => walk_at "m.bnd"); (case nu => walk_at "m.bnd"); k_whole; (try dsimp only)))
local macro_rules | `(tactic| walk_at "binaryOp Sub int float") => `(tactic| (with_reducible refine' r_sub_if ?x ?al ?au ?nl ?nu ?_; (case x => walk_at "m.hx"); (case al => walk_at "m.bnd"); (case au => walk_at "m.bnd"); (case nl => walk_at "m.bnd"); (case nu => walk_at "m.bnd"); k_whole; (try dsimp only)))
local macro_rules | `(tactic| walk_at "binaryOp Mult float int") => `(tactic| (with_reducible refine' r_mul_fi ?x ?al ?au ?z ?nl ?nu ?_; (case x => walk_at "m.hx"); (case al => walk_at "m.bnd"); (case au => walk_at "m.bnd"); (case z => walk_at "m.bnd"); (case nl => walk_at "m.bnd"); (case nu => walk_at "m.bnd"); k_whole; (try dsimp only)))
local macro_rules | `(tactic| walk_at "binaryOp Add float float") => `(tactic| (with_reducible refine' r_add_ff ?x ?y ?al ?au ?bl ?bu ?_; (case x => walk_at "m.hx"); (case y => walk_at "m.hx"); (case al => walk_at "m.bnd"); (case au => walk_at "m.bnd"); (case bl => walk_at "m.bnd"); (case bu => walk_at "m.bnd"); k_whole; (try dsimp only)))
local macro_rules | `(tactic| walk_at "binaryOp Sub float float") => `(tactic| (with_reducible refine' r_sub_ff ?x ?y ?al ?au ?bl ?bu ?_; (case x => walk_at "m.hx"); (case y => walk_at "m.hx"); (case al => walk_at "m.bnd"); (case au => walk_at "m.bnd"); (case bl => walk_at "m.bnd"); (case bu => walk_at "m.bnd"); k_whole; (try dsimp only)))
local macro_rules | `(tactic| walk_at "binaryOp Div float int") => `(tactic| (with_reducible refine' r_div_fi rfl ?x ?z ?nl ?nu ?_; (case x => walk_at "m.hx"); (case z => walk_at "m.bnd"); (case nl => walk_at "m.bnd"); (case nu => walk_at "m.bnd"); k_whole; (try dsimp only)))
local macro_rules | `(tactic| walk_at "binaryOp Div int int") => `(tactic| (with_reducible refine' r_div_ii rfl ?z ?nl ?nu ?_; (case z => walk_at "m.bnd"); (case nl => walk_at "m.bnd"); (case nu => walk_at "m.bnd"); k_whole; (try dsimp only)))
local macro_rules | `(tactic| walk_at "binaryOp Mod float int") => `(tactic| (with_reducible refine' r_mod_fi rfl ?x ?al ?au ?z ?nl ?nu ?_; (case x => walk_at "m.hx"); (case al => walk_at "m.bnd"); (case au => walk_at "m.bnd"); (case z => walk_at "m.bnd"); (case nl => walk_at "m.bnd"); (case nu => walk_at "m.bnd"); k_whole; (try dsimp only)))
local macro_rules | `(tactic| walk_at "call builtin:math.floor") => `(tactic| first
  | (with_reducible refine' r_floor_div rfl ?al ?au ?z ?n ?_; (case al => walk_at "m.bnd"); (case au => walk_at "m.bnd"); (case z => walk_at "m.bnd"); (case n => walk_at "m.bnd"); k_whole; (try dsimp only))
  | (with_reducible refine' r_floor_ii rfl ?al ?au ?z ?n ?_; (case al => walk_at "m.bnd"); (case au => walk_at "m.bnd"); (case z => walk_at "m.bnd"); (case n => walk_at "m.bnd"); k_whole; (try dsimp only))
  | (with_reducible refine' r_floor_m rfl ?m1 ?m2 ?j1 ?j2 ?d1 ?d2 ?_; (case m1 => walk_at "m.bnd"); (case m2 => walk_at "m.bnd"); (case j1 => walk_at "m.bnd"); (case j2 => walk_at "m.bnd"); (case d1 => walk_at "m.bnd"); (case d2 => walk_at "m.bnd"); k_whole; (try dsimp only))
  | (with_reducible refine' r_floor_H rfl ?x ?al ?au ?_; (case x => walk_at "m.hx"); (case al => walk_at "m.bnd"); (case au => walk_at "m.bnd"); k_whole; (try dsimp only)))
local macro_rules | `(tactic| walk_at "call builtin:math.trunc") => `(tactic| (with_reducible refine' r_trunc_H rfl ?x ?z ?al ?au ?_; (case x => walk_at "m.hx"); (case z => walk_at "m.bnd"); (case al => walk_at "m.bnd"); (case au => walk_at "m.bnd"); k_whole; (try dsimp only)))
local macro_rules | `(tactic| walk_at "call type:int") => `(tactic| (with_reducible refine' r_int_H rfl ?x ?z ?al ?au ?_; (case x => walk_at "m.hx"); (case z => walk_at "m.bnd"); (case al => walk_at "m.bnd"); (case au => walk_at "m.bnd"); k_whole; (try dsimp only)))
local macro_rules | `(tactic| walk_at "compareOp Lt float int") => `(tactic| (with_reducible refine' r_lt_fi ?x ?al ?au ?_; (case x => walk_at "m.hx"); (case al => walk_at "m.bnd"); (case au => walk_at "m.bnd"); k_whole; (try dsimp only)))
local macro_rules | `(tactic| walk_at "compareOp Eq float int") => `(tactic| (with_reducible refine' r_eq_fi ?x ?al ?au ?_; (case x => walk_at "m.hx"); (case al => walk_at "m.bnd"); (case au => walk_at "m.bnd"); k_whole; (try dsimp only)))
local macro_rules | `(tactic| walk_at "compareOp NotEq float int") => `(tactic| (with_reducible refine' r_ne_fi ?x ?al ?au ?_; (case x => walk_at "m.hx"); (case al => walk_at "m.bnd"); (case au => walk_at "m.bnd"); k_whole; (try dsimp only)))
local macro_rules | `(tactic| walk_at "compareOp Eq float float") => `(tactic| (with_reducible refine' r_eq_ff ?x ?y ?al ?au ?bl ?bu ?_; (case x => walk_at "m.hx"); (case y => walk_at "m.hx"); (case al => walk_at "m.bnd"); (case au => walk_at "m.bnd"); (case bl => walk_at "m.bnd"); (case bu => walk_at "m.bnd"); k_whole; (try dsimp only)))
local macro_rules | `(tactic| walk_at "compareOp NotEq float float") => `(tactic| (with_reducible refine' r_ne_ff ?x ?y ?al ?au ?bl ?bu ?_; (case x => walk_at "m.hx"); (case y => walk_at "m.hx"); (case al => walk_at "m.bnd"); (case au => walk_at "m.bnd"); (case bl => walk_at "m.bnd"); (case bu => walk_at "m.bnd"); k_whole; (try dsimp only)))
local macro_rules | `(tactic| walk_at "truthy float") => `(tactic| (with_reducible refine' r_truthy ?x ?al ?au ?_; (case x => walk_at "m.hx"); (case al => walk_at "m.bnd"); (case au => walk_at "m.bnd"); k_whole; (try dsimp only)))
-- // and % by a positive divisor: / and % of Int
local macro_rules | `(tactic| walk_at "binaryOp Mod int int") => `(tactic| (with_reducible refine' r_mod_ii ?z ?_; (case z => first | decide | walk_at "m.bnd"); k_whole; (try dsimp only)))
local macro_rules | `(tactic| walk_at "binaryOp FloorDiv int int") => `(tactic| (with_reducible refine' r_fdiv_ii ?z ?y ?_; (case z => first | decide | walk_at "m.bnd"); (case y => first | decide | walk_at "m.bnd"); k_whole; (try dsimp only)))

local macro_rules | `(tactic| walk_at "m.ints") => `(tactic| first | exact IntsAre.nil | (apply IntsAre.cons; walk_at "m.ints"))
local macro_rules | `(tactic| walk_at "m.any") => `(tactic| (all_goals (intro hP9; (simp only [anyP, or_false] at hP9); (try dsimp only))))
local macro_rules | `(tactic| walk_at "compareOp In int ref") => `(tactic| (k_dflt first
  | (refine' r_in_T ?N ?m ?i ?_ ?_; (case N => k_asm); (case m => k_mem); (case i => walk_at "m.ints"))
  | (refine' r_in_L ?N ?m ?i ?_ ?_; (case N => k_asm); (case m => k_mem); (case i => walk_at "m.ints"))
  | (refine' r_in_K ?F ?X ?l ?i ?_ ?_; (case F => k_asm); (case X => k_asm); (case l => k_is); (case i => walk_at "m.ints"))); walk_at "m.any")
-- no joining of a call's ways: our claims do
local macro_rules | `(tactic| walk_at "eval Call") => `(tactic| (k_dflt (refine Call_ ?_)))
-- a name: the module's (but for «leap», a local of from_jd too), else a local's value
local macro_rules | `(tactic| walk_at "m.glob") => `(tactic| (
  (fail_if_success (with_reducible show wpAny _ _ (eval (Expr.Name (Str.ofString "leap") _) _) _ _ _));
  refine' q_glob ?F ?X ?T ?e ?_ ?a ?b ?d; (case F => k_asm); (case X => k_asm); (case T => k_asm); (case e => k_is); (case a => kernel_rfl); (case b => kernel_rfl); (case d => kernel_rfl); k_whole))
local macro_rules | `(tactic| walk_at "m.boot") => `(tactic| (
  refine' q_boot ?F ?X ?T ?e ?v ?n ?_ ?a ?b ?d; (case F => k_asm); (case X => k_asm); (case T => k_asm); (case e => k_is); (case v => k_dflt boot_fast); (case n => decide); (case a => kernel_rfl); (case b => kernel_rfl); (case d => kernel_rfl); k_whole))
local macro_rules | `(tactic| walk_at "m.loc") => `(tactic| (
  refine' q_loc ?F ?v ?_ ?a ?b ?d; (case F => k_dflt k_asm); (case v => k_dflt rfl); (case a => kernel_rfl); (case b => kernel_rfl); (case d => kernel_rfl); k_whole))
local macro_rules | `(tactic| walk_at "eval Name") => `(tactic| (k_here; first
  | (with_reducible walk_at "m.glob")
  | (with_reducible walk_at "m.loc")
  | (with_reducible walk_at "m.boot")))

local macro_rules | `(tactic| walk_at "m.useB") => `(tactic| (intro h9 tk9 F9 N9; refine ⟨fun hP9 => ?_, fun hP9 => ?_⟩ <;> (try dsimp only) <;> (try k_fold)))
local macro_rules | `(tactic| walk_at "m.useV") => `(tactic| (intro t9 h9 tk9 v9 hv9 F9 N9; (try dsimp only); (try k_fold)))
local macro_rules | `(tactic| walk_at "call ref") => `(tactic| (k_here; (with_reducible show wpAny _ _ (call (Value.ref 57) [Value.int _ _]) _ _ _); k_dflt (refine' use_cl (isleap_ok _ _ _ _) ?k1 ?k2 ?k3 ?k4 ?k5 ?kK ?kd ?ku ?_; walk_at "m.prem"; walk_at "m.useB")))


local macro_rules | `(tactic| walk_at "call ref") => `(tactic| (k_here; (with_reducible show wpAny _ _ (call (Value.ref 64) [Value.int _ _, Value.int _ _, Value.int _ _]) _ _ _); k_dflt (refine' use_cl (legal_ok _ _ _ _ _ _ _ _ ?dom) ?k1 ?k2 ?k3 ?k4 ?k5 ?kK ?kd ?ku ?_; (case dom => first | assumption | (unfold DayOk; omega)); walk_at "m.prem"; (intro t9 h9 tk9 F9 N9; (try dsimp only); (try k_fold)))))


local macro_rules | `(tactic| walk_at "call ref") => `(tactic| (k_here; (with_reducible show wpAny _ _ (call (Value.ref 71) [Value.int _ _, Value.int _ _, Value.int _ _]) _ _ _); k_dflt (refine' use_cl (gtojd_ok _ _ _ _ _ _ _ _ ?dom1 ?dom2 ?dom3) ?k1 ?k2 ?k3 ?k4 ?k5 ?kK ?kd ?ku ?_; (case dom1 => first | with_reducible assumption | decide | (refine ⟨?_, ?_⟩ <;> walk_at "m.bnd")); (case dom2 => first | with_reducible assumption | decide | (refine ⟨?_, ?_⟩ <;> walk_at "m.bnd")); (case dom3 => first | assumption | (unfold DayOk; omega)); walk_at "m.prem"; walk_at "m.useV")))

local macro_rules | `(tactic| walk_at "m.useD") => `(tactic| (intro h9 tk9 x9 y9 mo9 d9 t91 t92 t93 hD9 F9 N9; (have hD91 := hD9.1); (have hD92 := hD9.2.1); (have hD93 := hD9.2.2.1); (try dsimp only); (try k_fold)))
local macro_rules | `(tactic| walk_at "call ref") => `(tactic| (k_here; (with_reducible show wpAny _ _ (call (Value.ref 78) [Value.float _ _]) _ _ _); k_dflt (refine' use_cl (fromjd_ok _ _ _ _ _ ?hx ?dom1 ?dom2 ?dom3) ?k1 ?k2 ?k3 ?k4 ?k5 ?kK ?kd ?ku ?_; (case hx => walk_at "m.hx"); (case dom1 => walk_at "m.bnd"); (case dom2 => walk_at "m.bnd"); (case dom3 => walk_at "m.bnd"); walk_at "m.prem"; walk_at "m.useD")))

local macro_rules | `(tactic| walk_at "call ref") => `(tactic| (k_here; (with_reducible show wpAny _ _ (call (Value.ref 85) [Value.int _ _]) _ _ _); k_dflt (refine' use_cl (leap_ok _ _ _ _) ?k1 ?k2 ?k3 ?k4 ?k5 ?kK ?kd ?ku ?_; walk_at "m.prem"; walk_at "m.useB")))

local macro_rules | `(tactic| walk_at "call ref") => `(tactic| (k_here; (with_reducible show wpAny _ _ (call (Value.ref 92) [Value.int _ _]) _ _ _); k_dflt (refine' use_cl (months_ok _ _ _ _) ?k1 ?k2 ?k3 ?k4 ?k5 ?kK ?kd ?ku ?_; walk_at "m.prem"; walk_at "m.useV")))
local macro_rules | `(tactic| walk_at "call ref") => `(tactic| (k_here; (with_reducible show wpAny _ _ (call (Value.ref 99) [Value.int _ _]) _ _ _); k_dflt (refine' use_cl (delay1_ok _ _ _ _ ?dom1) ?k1 ?k2 ?k3 ?k4 ?k5 ?kK ?kd ?ku ?_; (case dom1 => first | with_reducible assumption | decide | (refine ⟨?_, ?_⟩ <;> walk_at "m.bnd")); walk_at "m.prem"; walk_at "m.useV")))

local macro_rules | `(tactic| walk_at "call ref") => `(tactic| (k_here; (with_reducible show wpAny _ _ (call (Value.ref 106) [Value.int _ _]) _ _ _); k_dflt (refine' use_cl (delay2_ok _ _ _ _ ?dom1) ?k1 ?k2 ?k3 ?k4 ?k5 ?kK ?kd ?ku ?_; (case dom1 => first | with_reducible assumption | decide | (refine ⟨?_, ?_⟩ <;> walk_at "m.bnd")); walk_at "m.prem"; walk_at "m.useV")))

local macro_rules | `(tactic| walk_at "call ref") => `(tactic| (k_here; (with_reducible show wpAny _ _ (call (Value.ref 134) [Value.int _ _, Value.int 7 _, Value.int 1 _]) _ _ _); k_dflt (refine' use_cl (th7_ok _ _ _ _ _ _ ?dom1) ?k1 ?k2 ?k3 ?k4 ?k5 ?kK ?kd ?ku ?_; (case dom1 => first | with_reducible assumption | decide | (refine ⟨?_, ?_⟩ <;> walk_at "m.bnd")); walk_at "m.prem"; walk_at "m.useV")))

local macro_rules | `(tactic| walk_at "call ref") => `(tactic| (k_here; (with_reducible show wpAny _ _ (call (Value.ref 113) [Value.int _ _]) _ _ _); k_dflt (refine' use_cl (yd_ok _ _ _ _ ?dom1) ?k1 ?k2 ?k3 ?k4 ?k5 ?kK ?kd ?ku ?_; (case dom1 => first | with_reducible assumption | decide | (refine ⟨?_, ?_⟩ <;> walk_at "m.bnd")); walk_at "m.prem"; walk_at "m.useV")))

local macro_rules | `(tactic| walk_at "call ref") => `(tactic| (k_here; (with_reducible show wpAny _ _ (call (Value.ref 120) [Value.int _ _, Value.int _ _]) _ _ _); k_dflt (refine' use_cl (mlen_ok _ _ _ _ _ _ ?dom1 ?dom2) ?k1 ?k2 ?k3 ?k4 ?k5 ?kK ?kd ?ku ?_; (case dom1 => first | with_reducible assumption | decide | (refine ⟨?_, ?_⟩ <;> walk_at "m.bnd")); (case dom2 => first | with_reducible assumption | decide | (refine ⟨?_, ?_⟩ <;> walk_at "m.bnd")); walk_at "m.prem"; walk_at "m.useV")))

local macro_rules | `(tactic| walk_at "m.useM") => `(tactic| (intro t9 h9 tk9 v9 hv9 F9 N9; (try simp only [Nat.zero_add, Nat.reduceAdd, Int.natCast_zero, Int.natCast_one, Int.cast_ofNat_Int, Int.reduceAdd, Int.add_zero] at hv9); (try dsimp only); (try k_fold)))
local macro_rules | `(tactic| walk_at "call ref") => `(tactic| (k_here; (with_reducible show wpAny _ _ (call (Value.ref 127) [Value.int _ _, Value.int _ _]) _ _ _); k_dflt (refine' use_cl (mdays_ok _ _ _ _ _ _ ?dom1 ?dom2) ?k1 ?k2 ?k3 ?k4 ?k5 ?kK ?kd ?ku ?_; (case dom1 => first | with_reducible assumption | decide | (refine ⟨?_, ?_⟩ <;> walk_at "m.bnd")); (case dom2 => first | with_reducible assumption | decide | (refine ⟨?_, ?_⟩ <;> walk_at "m.bnd")); walk_at "m.prem"; walk_at "m.useM")))

local macro_rules | `(tactic| walk_at "call ref") => `(tactic| (k_here; (with_reducible show wpAny _ _ (call (Value.ref 134) [Value.int _ _, Value.int _ _, Value.int _ _]) _ _ _); k_dflt (refine' use_cl (th_ok _ _ _ _ _ _ _ _ ?dom1 ?dom2 ?dom3) ?k1 ?k2 ?k3 ?k4 ?k5 ?kK ?kd ?ku ?_; (case dom1 => first | with_reducible assumption | decide | (refine ⟨?_, ?_⟩ <;> walk_at "m.bnd")); (case dom2 => first | with_reducible assumption | decide | (refine ⟨?_, ?_⟩ <;> walk_at "m.bnd")); (case dom3 => first | with_reducible assumption | decide | (refine ⟨?_, ?_⟩ <;> walk_at "m.bnd")); walk_at "m.prem"; walk_at "m.useV")))

local macro_rules | `(tactic| walk_at "call ref") => `(tactic| (k_here; (with_reducible show wpAny _ _ (call (Value.ref 141) [Value.int _ _, Value.int _ _, Value.int _ _]) _ _ _); k_dflt (refine' use_clE (gy_ok _ _ _ _ _ _ _ _ ?dom1 ?dom2 ?dom3) ?k1 ?k2 ?k3 ?k4 ?k5 ?kK ?kd ?ku ?_ ?_; (case dom1 => first | with_reducible assumption | (refine ⟨?_, ?_⟩ <;> walk_at "m.bnd")); (case dom2 => first | with_reducible assumption | decide | (refine ⟨?_, ?_⟩ <;> walk_at "m.bnd")); (case dom3 => first | with_reducible assumption | decide | (refine ⟨?_, ?_⟩ <;> walk_at "m.bnd")); walk_at "m.prem"; rotate_left; walk_at "m.useV"; rotate_right; walk_at "m.useE")))
local macro_rules | `(tactic| walk_at "m.useE") => `(tactic| (intro hL9 g9 e9 h9 tk9 F9 R9 U9; (try dsimp only); (try k_fold)))

local macro_rules | `(tactic| walk_at "call ref") => `(tactic| (k_here; (with_reducible show wpAny _ _ (call (Value.ref 49) [Value.float _ _]) _ _ _); k_dflt (refine' use_cl (jwday_ok _ _ _ _ _ ?hx ?dom1 ?dom2 ?dom3) ?k1 ?k2 ?k3 ?k4 ?k5 ?kK ?kd ?ku ?_; (case hx => walk_at "m.hx"); (case dom1 => walk_at "m.bnd"); (case dom2 => walk_at "m.bnd"); (case dom3 => walk_at "m.bnd"); walk_at "m.prem"; walk_at "m.useV")))


local macro_rules | `(tactic| walk_at "m.useLs") => `(tactic| (intro h9 tk9 x9 t91 t92 t93 t94 t95 t96 t97 F9 N9; (try dsimp only); (try k_fold)))
local macro_rules | `(tactic| walk_at "call ref") => `(tactic| (k_here; (with_reducible show wpAny _ _ (call (Value.ref 236) _) _ _ _); k_dflt (refine' use_cl (longs_ok _ _) ?k1 ?k2 ?k3 ?k4 ?k5 ?kK ?kd ?ku ?_; walk_at "m.prem"; walk_at "m.useLs")))
local macro_rules | `(tactic| walk_at "call ref") => `(tactic| (k_here; (with_reducible show wpAny _ _ (call (Value.ref 250) [Value.int _ _]) _ _ _); k_dflt (refine' use_cl (long_ok _ _ _ _) ?k1 ?k2 ?k3 ?k4 ?k5 ?kK ?kd ?ku ?_; walk_at "m.prem"; walk_at "m.useB")))

local macro_rules | `(tactic| walk_at "m.n13") => `(tactic| first | (intro c13; exfalso; omega) | (intro _; exact purim_13 (by assumption) (by assumption) (by assumption) (by assumption)))
local macro_rules | `(tactic| walk_at "m.useFN") => `(tactic| (intro h9 tk9 t9 F9 N9; (refine ⟨fun v9 hv9 => ?_, fun hL9 => ?_⟩) <;> first
  | (exfalso; first | exact found_lost hv9.1 (by assumption) | exact found_lostR (by assumption) hL9)
  | ((have hb9 := hv9.2); (try dsimp only); (try k_fold))
  | ((try dsimp only); (try k_fold))))
local macro_rules | `(tactic| walk_at "call ref") => `(tactic| (k_here; (with_reducible show wpAny _ _ (call (Value.ref 283) [Value.int _ _, Value.int _ _, Value.int _ _]) _ _ _); k_dflt (refine' use_cl (lfound_ok _ _ _ _ _ _ _ _ ?dom1 ?dom2 ?dom3) ?k1 ?k2 ?k3 ?k4 ?k5 ?kK ?kd ?ku ?_; (case dom1 => assumption); (case dom2 => first | assumption | decide | omega); (case dom3 => walk_at "m.n13"); walk_at "m.prem"; walk_at "m.useFN")))
local macro_rules | `(tactic| walk_at "m.useP") => `(tactic| (intro h9 tk9 x9 vs9 nd9 F9 N9 hps9 sub9; (try dsimp only); (try k_fold)))
local macro_rules | `(tactic| walk_at "call ref") => `(tactic| (k_here; (with_reducible show wpAny _ _ (call (Value.ref 243) _) _ _ _); k_dflt (refine' use_cl (ldays_ok _ _) ?k1 ?k2 ?k3 ?k4 ?k5 ?kK ?kd ?ku ?_; walk_at "m.prem"; walk_at "m.useP")))
local macro_rules | `(tactic| walk_at "m.item") => `(tactic| (k_here; (with_reducible show wpAny _ _ (subscriptTail _ _ (Value.ref _) (Value.int _ _)) _ _ _); k_dflt (refine' r_item_pairs ?N ?ps ?sub ?hk ?_ ?hs; (case N => assumption); (case ps => assumption); (case sub => assumption); (case hk => assumption); (case hs => with_unfolding_all rfl); k_whole); intro T9 a9 b9 t91 t92 ea9 eb9 ra9 rb9 N9; (try dsimp only)))
local macro_rules | `(tactic| walk_at "subscriptTail Call Name ref int") => `(tactic| walk_at "m.item")
local macro_rules | `(tactic| walk_at "subscriptTail Call Name") => `(tactic| walk_at "m.item")
local macro_rules | `(tactic| walk_at "subscriptTail Call Name cons nil ref int") => `(tactic| walk_at "m.item")
local macro_rules | `(tactic| walk_at "m.useDt") => `(tactic| (intro h9 tk9 x9 y9 mo9 d9 t91 t92 t93 hD9 F9 N9; (try dsimp only); (try k_fold)))
local macro_rules | `(tactic| walk_at "call ref") => `(tactic| (k_here; (with_reducible show wpAny _ _ (call (Value.ref 276) [Value.int _ _]) _ _ _); k_dflt (refine' use_cl (ldate_ok _ _ _ _ ?dom1) ?k1 ?k2 ?k3 ?k4 ?k5 ?kK ?kd ?ku ?_; (case dom1 => (refine ⟨?_, ?_⟩ <;> walk_at "m.bnd")); walk_at "m.prem"; walk_at "m.useDt")))
local macro_rules | `(tactic| walk_at "m.mo") => `(tactic| (unfold mo1; split <;> omega))
local macro_rules | `(tactic| walk_at "m.hn") => `(tactic| (split <;> omega))
local macro_rules | `(tactic| walk_at "m.ev") => `(tactic| first | exact Or.inr rfl | exact Or.inl ⟨rfl, rfl⟩ | assumption)
local macro_rules | `(tactic| walk_at "m.useLF") => `(tactic| (intro h9 tk9 x9 y9 mo9 d9 t91 t92 t93 hD9 F9 N9; first
  | (exfalso; exact feast_not2 hD9 (by assumption) (by walk_at "m.mo") (by assumption))
  | (obtain ⟨e91, e92, e93⟩ := (by first
      | exact same_t hD9 (by assumption) (by walk_at "m.mo") (by assumption) (by assumption) (by assumption) (by walk_at "m.hn")
      | exact same_f hD9 (by assumption) (by walk_at "m.mo") (by assumption) (by assumption) (by assumption) (by walk_at "m.hn") : y9 = _ ∧ mo9 = _ ∧ d9 = _); subst e91; subst e92; subst e93; (try dsimp only); (try k_fold))))
local macro_rules | `(tactic| walk_at "m.useLE") => `(tactic| (intro hL9; first
  | (exfalso; exact feast_not hL9 (by assumption) (by walk_at "m.mo") (by assumption))
  | (intro g9 e9 h9 tk9 F9 R9 U9; (try dsimp only); (try k_fold))))
local macro_rules | `(tactic| walk_at "call ref") => `(tactic| (k_here; (with_reducible show wpAny _ _ (call (Value.ref 290) [Value.int _ _, Value.int _ _, Value.bool _]) _ _ _); k_dflt (refine' use_clE (lawfeast_b _ _ _ _ _ _ _ ?dom0 ?dom1) ?k1 ?k2 ?k3 ?k4 ?k5 ?kK ?kd ?ku ?_ ?_; (case dom0 => assumption); (case dom1 => assumption); walk_at "m.prem"); rotate_left; (focus (walk_at "m.useLF")); rotate_right; (focus (walk_at "m.useLE"))))
local macro_rules | `(tactic| walk_at "exec For Name Tuple cons nil") => `(tactic| (k_here; (rename Fr _ _ _ _ => lF'); (with_unfolding_all refine' For_invVF lF' ?k1 ?k2 ?_; (case k1 => exact rfl); (case k2 => exact rfl); k_whole)))
local macro_rules | `(tactic| walk_at "pyIter ref") => `(tactic| (k_here; (with_reducible show wpAny _ _ (pyIter (Value.ref _)) (fun it s₂ => LoopAtV _ _ _ _ _ _ _ _ _ it s₂) _ _); (rename Fr _ _ _ _ => lF'); (rename News _ _ _ _ => lN'); (replace lN' := news_head lN'); k_dflt (refine' keep_tup (vs := [_, _]) [Str.ofString "month", Str.ofString "day", Str.ofString "due", Str.ofString "told"] ?hL ?hh ?m0 ?hc ?hd lF' lN' ?_ ?_; (case hL => exact rfl); (case hh => exact rfl); (case m0 => exact List.mem_cons_self ..); (case hc => exact rfl); (case hd => exact rfl)); clear lF' lN'; (focus (intro v9 u9 h9 tk9 own9 hv9 F9 N9; obtain ⟨k9, t9, e9, hk9⟩ := two_kinds hv9; subst e9; (try simp only [forget, List.cons_append, List.nil_append] at F9 N9); (try dsimp only))); rotate_left; (focus (intro u9 h9 tk9 F9 N9; (try simp only [forget] at F9); (try dsimp only))); rotate_right))
local macro_rules | `(tactic| walk_at "KeepPost") => `(tactic| (dsimp only [KeepPost]))
local macro_rules | `(tactic| walk_at "KeepEnd") => `(tactic| ((rename Fr _ _ _ _ => lF'); (rename News _ _ _ _ => lN'); (refine keep_end lF' lN' (by (intro qN hN; first | exact hN | repeat (first | exact hN | refine List.mem_cons_of_mem _ ?_))) (by (intro zN hN; simp only [List.mem_cons, List.mem_nil_iff, or_false, not_or] at hN; simp only [hN.1, hN.2.1, hN.2.2.1, hN.2.2.2.1, hN.2.2.2.2, if_false, ↓reduceIte])))))
local macro_rules | `(tactic| walk_at "compareOp NotEq float float") => `(tactic| (with_reducible refine' r_ne_ffE ?x ?y ?al ?au ?e ?_; (case x => walk_at "m.hx"); (case y => walk_at "m.hx"); (case al => walk_at "m.bnd"); (case au => walk_at "m.bnd"); (case e => exact found_eqR (by assumption) (by assumption)); k_whole; (try dsimp only)))

theorem walk1L : PySem.Challenge.rw_ak5019_01.Holds := hd (by
  k_go0
  all_goals try k_fold
  iterate 90 (all_goals (first | ((fail_if_success (with_reducible show wpAny _ _ (exec (Stmt.Try _ _ _ _ _) _) _ _ _)); first | (k_unfold; (try dsimp only)) | walk1 | (dsimp only; walk1)) | skip))
  rename (List Int) => ns
  have hY : 1 ≤ (List.take 5 ns ++ [0, 0, 0, 0, 0]).getD (Int.toNat 0) 0 % 9999 + 1 ∧ (List.take 5 ns ++ [0, 0, 0, 0, 0]).getD (Int.toNat 0) 0 % 9999 + 1 ≤ 9999 := by omega
  have hM : 1 ≤ (List.take 5 ns ++ [0, 0, 0, 0, 0]).getD (Int.toNat 1) 0 % 12 + 1 ∧ (List.take 5 ns ++ [0, 0, 0, 0, 0]).getD (Int.toNat 1) 0 % 12 + 1 ≤ 12 := by omega
  have hD : 1 ≤ (List.take 5 ns ++ [0, 0, 0, 0, 0]).getD (Int.toNat 2) 0 % 29 + 1 ∧ (List.take 5 ns ++ [0, 0, 0, 0, 0]).getD (Int.toNat 2) 0 % 29 + 1 ≤ 29 := by omega
  generalize (List.take 5 ns ++ [0, 0, 0, 0, 0]).getD (Int.toNat 0) 0 % 9999 + 1 = Y at *
  generalize (List.take 5 ns ++ [0, 0, 0, 0, 0]).getD (Int.toNat 1) 0 % 12 + 1 = M at *
  generalize (List.take 5 ns ++ [0, 0, 0, 0, 0]).getD (Int.toNat 2) 0 % 29 + 1 = D at *
  generalize ((List.take 5 ns ++ [0, 0, 0, 0, 0]).getD (Int.toNat 3) 0 % 2 == 1) = ev at *
  have hM2 : 1 ≤ M ∧ M ≤ 13 := by omega
  have hD2 : 1 ≤ D ∧ D ≤ 31 := by omega

  k_steps)

end Mine
end

set_option maxRecDepth 100000 in
set_option maxHeartbeats 8000000 in
theorem PySem.Challenge.cw_ak5019_01_holds : PySem.Challenge.rw_ak5019_01.Holds := by
  exact Mine.walk1L
