import PyProof.Rows.All
import Wide.All
import OpenK.AllK
import Wide.FinOn
import Lean
import PySem.Challenge.RW_ak5009_01
open PySem PySem.W PyProof.Rows PySem.Calls
set_option Elab.async false
set_option maxRecDepth 100000
set_option maxHeartbeats 0
set_option linter.unusedSimpArgs false
set_option linter.unusedVariables false
namespace Mine

section
open PySem PySem.Float64 PySem.Flt

/-- the float is a whole number n of quarters -/
def Fq (x : UInt64) (n : Int) : Prop := (∃ a m e, decode x = .fin a m e) ∧ val x = n * 2 ^ 1072

theorem norm (N : Nat) (h0 : 0 < N) (h : N < 2 ^ 53) : ∃ j, j ≤ 52 ∧ 2 ^ 52 ≤ N * 2 ^ j ∧ N * 2 ^ j < 2 ^ 53 := by
  have hl : N.log2 < 53 := (Nat.log2_lt (by omega)).mpr h
  have h1 : 2 ^ N.log2 ≤ N := Nat.log2_self_le (by omega)
  have h2 : N < 2 ^ (N.log2 + 1) := Nat.lt_log2_self
  refine ⟨52 - N.log2, by omega, ?_, ?_⟩
  · calc 2 ^ 52 = 2 ^ N.log2 * 2 ^ (52 - N.log2) := by rw [← Nat.pow_add]; congr 1; omega
      _ ≤ N * 2 ^ (52 - N.log2) := Nat.mul_le_mul_right _ h1
  · calc N * 2 ^ (52 - N.log2) < 2 ^ (N.log2 + 1) * 2 ^ (52 - N.log2) := Nat.mul_lt_mul_of_pos_right h2 (Nat.two_pow_pos _)
      _ = 2 ^ 53 := by rw [← Nat.pow_add]; congr 1; omega

theorem V_has (N c : Nat) (h : N < 2 ^ 53) (hc : 52 ≤ c) : ∃ t, V t = N * 2 ^ c := by
  by_cases h0 : N = 0
  · exact ⟨0, by rw [V_zero, h0, Nat.zero_mul]⟩
  · obtain ⟨j, hj, h1, h2⟩ := norm N (by omega) h
    refine ⟨(c - j) * 2 ^ 52 + N * 2 ^ j, ?_⟩
    have e : j + (c - j) = c := by omega
    rw [V_at (by omega) (.inl h1), Nat.mul_assoc, ← Nat.pow_add, e]

theorem dist_zero {a b : Nat} (h : PySem.Float64.dist a b = 0) : a = b := by unfold PySem.Float64.dist at h; omega

theorem val_sgn (a : Bool) (N : Nat) (c : Nat) : sgn a (N * 2 ^ c) = sgn a N * 2 ^ c := by
  rw [sgn_mul]; congr 1

theorem right_exact {r : UInt64} {neg : Bool} {W D N : Nat} (h : Right r neg W D) (hD : 0 < D) (hW : W = D * (N * 2 ^ 1072)) (hN : N < 2 ^ 53) : Fq r (sgn neg N) := by
  obtain ⟨t, hr, hle, hov, hne⟩ := h
  obtain ⟨u, hu⟩ := V_has N 1072 hN (by omega)
  have hlt : t < infMag := by
    rcases Nat.lt_or_ge t infMag with h | h
    · exact h
    · exfalso
      have h1 := hov.mp (by omega)
      rw [hW] at h1
      have h2 : D * ((2 ^ 54 - 1) * 2 ^ 2045) ≤ D * (2 * (N * 2 ^ 1072)) := by rw [← Nat.mul_assoc D 2, Nat.mul_comm D 2, Nat.mul_assoc]; exact h1
      have h3 := Nat.le_of_mul_le_mul_left h2 hD
      have h4 : 2 * (N * 2 ^ 1072) < (2 ^ 54 - 1) * 2 ^ 2045 := by
        calc 2 * (N * 2 ^ 1072) ≤ 2 * (2 ^ 53 * 2 ^ 1072) := Nat.mul_le_mul_left _ (Nat.mul_le_mul_right _ (by omega))
          _ < (2 ^ 54 - 1) * 2 ^ 2045 := by decide +kernel
      omega
  have h1 := (hne hlt u).1
  rw [hu, ← hW] at h1
  have h2 : PySem.Float64.dist W W = 0 := by unfold PySem.Float64.dist; omega
  rw [h2] at h1
  have h3 := dist_zero (Nat.le_zero.mp h1)
  have h4 : V t = N * 2 ^ 1072 := by rw [hW] at h3; exact (Nat.eq_of_mul_eq_mul_left hD h3).symm
  obtain ⟨m, e, hd, _⟩ := decode_pack neg hlt
  refine ⟨⟨_, m, e, hr ▸ hd⟩, ?_⟩
  rw [hr, val_pack neg hlt, h4, val_sgn]

theorem sgn_dec (n : Int) : sgn (decide (n < 0)) n.natAbs = n := by
  unfold sgn
  by_cases h : n < 0
  · simp [h]; omega
  · simp [h]; omega

theorem fq_ofInt (i : Int) (h : (4 * i).natAbs < 2 ^ 53) : Fq (ofInt i) (4 * i) := by
  have := right_exact (N := (4 * i).natAbs) (ofInt_right i) (by decide) (by
    rw [Nat.one_mul, Int.natAbs_mul, show (1074 : Nat) = 2 + 1072 from rfl, Nat.pow_add]
    have : (4 : Int).natAbs = 2 ^ 2 := rfl
    rw [this]; generalize (2 : Nat) ^ 1072 = K; simp only [Nat.mul_left_comm, Nat.mul_assoc]) h
  have e : decide (i < 0) = decide (4 * i < 0) := by apply decide_eq_decide.mpr; omega
  rw [e, sgn_dec] at this
  exact this

theorem fq_zero (b : Bool) : Fq (zero b) 0 := by
  have hi : 0 < infMag := by unfold infMag; decide
  obtain ⟨m, e, hd, _⟩ := decode_pack b hi
  refine ⟨⟨_, _, _, hd⟩, ?_⟩
  have h := val_pack b hi
  rw [V_zero] at h
  have h2 : val (zero b) = sgn b 0 := h
  rw [h2, Int.zero_mul]
  cases b <;> rfl

theorem fq_add {x y : UInt64} {n k : Int} (hx : Fq x n) (hy : Fq y k) (h : (n + k).natAbs < 2 ^ 53) : Fq (add x y) (n + k) := by
  obtain ⟨⟨_, _, _, dx⟩, vx⟩ := hx
  obtain ⟨⟨_, _, _, dy⟩, vy⟩ := hy
  have hv : val x + val y = (n + k) * 2 ^ 1072 := by rw [vx, vy, Int.add_mul]
  obtain ⟨h0, h1⟩ := add_right dx dy
  have hp : (0 : Int) < 2 ^ 1072 := by decide +kernel
  by_cases hz : n + k = 0
  · rw [h0 (by rw [hv, hz, Int.zero_mul]), hz]
    exact fq_zero _
  · have hne : val x + val y ≠ 0 := by
      rw [hv]; intro e
      rcases Int.mul_eq_zero.mp e with e | e
      · exact hz e
      · omega
    have hR := h1 hne
    have := right_exact (N := (n + k).natAbs) hR (by decide) (by rw [Nat.one_mul, hv, Int.natAbs_mul]; congr 1) h
    have e : decide (val x + val y < 0) = decide (n + k < 0) := by
      apply decide_eq_decide.mpr
      rw [hv]
      generalize (2 : Int) ^ 1072 = K at hp
      constructor
      · intro h; by_cases h2 : n + k < 0
        · exact h2
        · have := Int.mul_nonneg (show 0 ≤ n + k by omega) (Int.le_of_lt hp); omega
      · intro h; exact Int.mul_neg_of_neg_of_pos h hp
    rw [e, sgn_dec] at this
    exact this

theorem fq_neg {y : UInt64} {k : Int} (hy : Fq y k) : Fq (neg y) (-k) := by
  obtain ⟨⟨_, _, _, dy⟩, vy⟩ := hy
  exact ⟨⟨_, _, _, neg_decode dy⟩, by rw [neg_val dy, vy, Int.neg_mul]⟩

theorem fq_sub {x y : UInt64} {n k : Int} (hx : Fq x n) (hy : Fq y k) (h : (n - k).natAbs < 2 ^ 53) : Fq (sub x y) (n - k) := by
  have := fq_add hx (fq_neg hy) (by rw [← Int.sub_eq_add_neg]; exact h)
  rw [← Int.sub_eq_add_neg] at this
  unfold PySem.Float64.sub
  exact this

theorem natAbs_pow (n : Int) (c : Nat) : (n * 2 ^ c).natAbs = n.natAbs * 2 ^ c := by
  rw [Int.natAbs_mul, Int.natAbs_pow]; rfl

theorem sgn_neg_iff {x : UInt64} {a : Bool} {m : Nat} {e : Int} (h : decode x = .fin a m e) : (0 < val x → a = false) ∧ (val x < 0 → a = true) := by
  have hv := val_eq h
  unfold sgn at hv
  cases a
  · simp only [Bool.false_eq_true, if_false] at hv; constructor
    · intro; rfl
    · intro hh; omega
  · simp only [if_true] at hv; constructor
    · intro; omega
    · intro hh; rfl

/-- a product of whole quarters, with a whole number of quarters -/
theorem fq_mul {x y : UInt64} {n k p : Int} (hx : Fq x n) (hy : Fq y k) (hp : n * k = 4 * p) (h : p.natAbs < 2 ^ 53) (hn : 0 < n) : Fq (mul x y) p := by
  obtain ⟨⟨a, m, e, dx⟩, vx⟩ := hx
  obtain ⟨⟨b, l, f, dy⟩, vy⟩ := hy
  have hK : (0 : Int) < 2 ^ 1072 := by decide +kernel
  have ha : a = false := (sgn_neg_iff dx).1 (by rw [vx]; exact Int.mul_pos hn hK)
  have hR := mul_right dx dy
  have hW : (val x).natAbs * (val y).natAbs = 2 ^ 1074 * (p.natAbs * 2 ^ 1072) := by
    rw [vx, vy, natAbs_pow, natAbs_pow]
    have : n.natAbs * k.natAbs = 4 * p.natAbs := by rw [← Int.natAbs_mul, hp, Int.natAbs_mul]; rfl
    have e2 : (2 : Nat) ^ 1074 = 4 * 2 ^ 1072 := by rw [show (1074 : Nat) = 2 + 1072 from rfl, Nat.pow_add]
    rw [e2]
    generalize (2 : Nat) ^ 1072 = K
    calc n.natAbs * K * (k.natAbs * K) = (n.natAbs * k.natAbs) * (K * K) := by ac_rfl
      _ = 4 * p.natAbs * (K * K) := by rw [this]
      _ = _ := by ac_rfl
  have := right_exact (N := p.natAbs) hR (Nat.two_pow_pos _) hW h
  subst ha
  by_cases hz : p = 0
  · subst hz
    have e : sgn (false != b) (Int.natAbs 0) = 0 := by cases b <;> rfl
    rw [e] at this; exact this
  · have hb : (false != b) = decide (p < 0) := by
      have hkp : k ≠ 0 := by intro e; subst e; simp at hp; omega
      by_cases hk : 0 < k
      · have : b = false := (sgn_neg_iff dy).1 (by rw [vy]; exact Int.mul_pos hk hK)
        subst this
        have : 0 < n * k := Int.mul_pos hn hk
        simp; omega
      · have : b = true := (sgn_neg_iff dy).2 (by rw [vy]; exact Int.mul_neg_of_neg_of_pos (by omega) hK)
        subst this
        have : n * k < 0 := Int.mul_neg_of_pos_of_neg hn (by omega)
        simp; omega
    rw [hb, sgn_dec] at this
    exact this

theorem floorOf_val {a : Bool} {m : Nat} {e : Int} (he : -1074 ≤ e) : floorOf a m e = sgn a (m * 2 ^ (e + 1074).toNat) / 2 ^ 1074 := by
  unfold floorOf
  rw [val_sgn]
  have hp : ∀ n : Nat, (0 : Int) < 2 ^ n := fun n => by
    have : ((2 ^ n : Nat) : Int) = 2 ^ n := by simp
    rw [← this]; exact Int.ofNat_lt.mpr (Nat.two_pow_pos _)
  split
  · rename_i h
    have : (e + 1074).toNat = e.toNat + 1074 := by omega
    rw [this, Int.pow_add, ← Int.mul_assoc, Int.mul_ediv_cancel _ (Int.ne_of_gt (hp _))]
  · rename_i h
    have h2 : (1074 : Nat) = (-e).toNat + (e + 1074).toNat := by omega
    have h3 : (2 : Int) ^ 1074 = 2 ^ (-e).toNat * 2 ^ (e + 1074).toNat := by rw [← Int.pow_add, ← h2]
    rw [h3, Int.mul_ediv_mul_of_pos_left _ _ (hp _), Int.fdiv_eq_ediv_of_nonneg _ (Int.le_of_lt (hp _))]

theorem fq_floor {x : UInt64} {n : Int} (hx : Fq x n) : toInt floorOf x = n / 4 := by
  obtain ⟨⟨a, m, e, dx⟩, vx⟩ := hx
  rw [toInt_fin dx, floorOf_val (decode_ge dx), ← val_eq dx, vx]
  have h3 : (2 : Int) ^ 1074 = 4 * 2 ^ 1072 := by rw [show (1074 : Nat) = 2 + 1072 from rfl, Int.pow_add]; rfl
  rw [h3, Int.mul_ediv_mul_of_pos_left _ _ (by decide +kernel)]

theorem fq_trunc {x : UInt64} {n : Int} (hx : Fq x (4 * n)) : toInt truncOf x = n := by
  have hK : (0 : Int) < 2 ^ 1072 := by decide +kernel
  have h3 : (2 : Int) ^ 1074 = 4 * 2 ^ 1072 := by rw [show (1074 : Nat) = 2 + 1072 from rfl, Int.pow_add]; rfl
  obtain ⟨⟨a, m, e, dx⟩, vx⟩ := hx
  rw [toInt_fin dx]
  have key : val x / 2 ^ 1074 = n ∧ (-val x) / 2 ^ 1074 = -n := by
    rw [vx, h3, ← Int.neg_mul, Int.mul_ediv_mul_of_pos_left _ _ hK, Int.mul_ediv_mul_of_pos_left _ _ hK]
    omega
  unfold truncOf ceilOf
  cases a
  · simp only [Bool.false_eq_true, if_false]
    rw [floorOf_val (decode_ge dx), ← val_eq dx, key.1]
  · simp only [if_true, Bool.not_true]
    rw [floorOf_val (decode_ge dx)]
    have : sgn false (m * 2 ^ (e + 1074).toNat) = - val x := by rw [val_eq dx]; unfold sgn; simp
    rw [this, key.2]; omega

theorem fq_finite {x : UInt64} {n : Int} (hx : Fq x n) : isFinite x = true ∧ isNaN x = false ∧ isInf x = false := by
  obtain ⟨⟨a, m, e, dx⟩, _⟩ := hx
  unfold isFinite PySem.Float64.isNaN isInf; rw [dx]; exact ⟨rfl, rfl, rfl⟩

theorem fq_eq_int {x : UInt64} {n i : Int} (hx : Fq x n) : cmpInt x i = some (compare n (4 * i)) := by
  obtain ⟨⟨a, m, e, dx⟩, vx⟩ := hx
  have hK : (0 : Int) < 2 ^ 1072 := by decide +kernel
  have h3 : (2 : Int) ^ 1074 = 4 * 2 ^ 1072 := by rw [show (1074 : Nat) = 2 + 1072 from rfl, Int.pow_add]; rfl
  rw [cmpInt_right dx, vx, h3]
  have : i * (4 * 2 ^ 1072) = (4 * i) * 2 ^ 1072 := by rw [← Int.mul_assoc]; congr 1; omega
  rw [this]
  congr 1
  generalize (2 : Int) ^ 1072 = K at hK
  rcases Int.lt_trichotomy n (4 * i) with h | h | h
  · rw [Int.compare_eq_lt.mpr h, Int.compare_eq_lt.mpr (Int.mul_lt_mul_of_pos_right h hK)]
  · subst h; simp
  · rw [Int.compare_eq_gt.mpr h, Int.compare_eq_gt.mpr (Int.mul_lt_mul_of_pos_right h hK)]

theorem toInt_floor_val {x : UInt64} {a : Bool} {m : Nat} {e : Int} (dx : decode x = .fin a m e) : toInt floorOf x = val x / 2 ^ 1074 := by
  rw [toInt_fin dx, floorOf_val (decode_ge dx), ← val_eq dx]

theorem mag_div {n d t : Nat} {S : Nat} (hd : 0 < d) (hn : 0 < n % d) (h1 : d * t < n * S + S) (h2 : n * S < d * t + S) : n / d * S < t ∧ t < (n / d + 1) * S := by
  have e := Nat.div_add_mod n d
  have hl := Nat.mod_lt n hd
  generalize n / d = q at *
  generalize n % d = r at *
  have e1 : n * S = d * (q * S) + r * S := by rw [← e, Nat.add_mul, Nat.mul_assoc]
  have e2 : d * ((q + 1) * S) = d * (q * S) + d * S := by rw [Nat.add_mul, Nat.one_mul, Nat.mul_add]
  have e3 : S ≤ r * S := Nat.le_mul_of_pos_left _ hn
  have e4 : (r + 1) * S ≤ d * S := Nat.mul_le_mul_right _ hl
  rw [Nat.add_mul, Nat.one_mul] at e4
  constructor
  · refine Nat.lt_of_mul_lt_mul_left (a := d) ?_
    omega
  · refine Nat.lt_of_mul_lt_mul_left (a := d) ?_
    omega

theorem floor_frac {a : Int} {d : Nat} (hd : 0 < d) (hd2 : d < 2 ^ 19) (ha : a.natAbs < 2 ^ 31) : (∃ b m e, decode (ofFrac (decide (a < 0) != false) a.natAbs d) = .fin b m e) ∧ toInt floorOf (ofFrac (decide (a < 0) != false) a.natAbs d) = a / d := by
  rw [Bool.bne_false]
  have hR : Right (ofFrac (decide (a < 0)) a.natAbs d) (decide (a < 0)) (a.natAbs * 2 ^ 1074) d := ofFrac_right hd rfl hd
  have h4 : (2 : Nat) ^ 1074 = 4 * 2 ^ 1072 := by rw [show (1074 : Nat) = 2 + 1072 from rfl, Nat.pow_add]
  have hed := Nat.div_add_mod a.natAbs d
  by_cases hr : a.natAbs % d = 0
  · have hq : a.natAbs = d * (a.natAbs / d) := by omega
    have hle : a.natAbs / d ≤ a.natAbs := Nat.div_le_self _ _
    have := right_exact (N := 4 * (a.natAbs / d)) hR hd (by
      rw [h4]; generalize (2 : Nat) ^ 1072 = K
      calc a.natAbs * (4 * K) = d * (a.natAbs / d) * (4 * K) := by rw [← hq]
        _ = _ := by ac_rfl) (by omega)
    refine ⟨by obtain ⟨⟨b, m, e, h⟩, _⟩ := this; exact ⟨b, m, e, h⟩, ?_⟩
    rw [fq_floor this]
    generalize hqq : a.natAbs / d = q at *
    unfold sgn
    by_cases hn : a < 0
    · have : a = -(q : Int) * d := by rw [Int.neg_mul, Int.mul_comm]; omega
      simp only [hn, decide_true, if_true]
      rw [this, Int.mul_ediv_cancel _ (by omega)]; omega
    · have : a = (q : Int) * d := by rw [Int.mul_comm]; omega
      simp only [hn, decide_false, if_false, Bool.false_eq_true]
      rw [this, Int.mul_ediv_cancel _ (by omega)]; omega
  · obtain ⟨t, hrr, hle, hov, hne⟩ := hR
    have hN : a.natAbs * 2 ^ 20 / d < 2 ^ 53 := by
      have := Nat.div_le_self (a.natAbs * 2 ^ 20) d
      omega
    obtain ⟨u, hu⟩ := V_has (a.natAbs * 2 ^ 20 / d) 1054 hN (by omega)
    have h20 : (2 : Nat) ^ 1074 = 2 ^ 20 * 2 ^ 1054 := by rw [← Nat.pow_add]
    have hlt : t < infMag := by
      rcases Nat.lt_or_ge t infMag with h | h
      · exact h
      · exfalso
        have h1 := hov.mp (by omega)
        have h5 : 2 * (a.natAbs * 2 ^ 1074) ≤ 2 * (2 ^ 31 * 2 ^ 1074) := Nat.mul_le_mul_left _ (Nat.mul_le_mul_right _ (by omega))
        have h6 : 2 * (2 ^ 31 * 2 ^ 1074) < (2 ^ 54 - 1) * 2 ^ 2045 := by decide +kernel
        have h7 : (2 ^ 54 - 1) * 2 ^ 2045 ≤ d * ((2 ^ 54 - 1) * 2 ^ 2045) := Nat.le_mul_of_pos_left _ hd
        omega
    have h1 := (hne hlt u).1
    have hem := Nat.div_add_mod (a.natAbs * 2 ^ 20) d
    have hml := Nat.mod_lt (a.natAbs * 2 ^ 20) hd
    have hdu : PySem.Float64.dist (a.natAbs * 2 ^ 1074) (d * V u) < 2 ^ 1074 := by
      rw [hu, h20]
      have hpos := Nat.two_pow_pos 1054
      generalize (2 : Nat) ^ 1054 = K at *
      generalize a.natAbs * 2 ^ 20 / d = q at *
      have e1 : a.natAbs * (2 ^ 20 * K) = d * (q * K) + a.natAbs * 2 ^ 20 % d * K := by
        rw [← Nat.mul_assoc, ← Nat.mul_assoc d, ← Nat.add_mul, hem]
      have e2 : a.natAbs * 2 ^ 20 % d * K < 2 ^ 20 * K := Nat.mul_lt_mul_of_pos_right (by omega) hpos
      unfold PySem.Float64.dist
      omega
    have hdt : PySem.Float64.dist (a.natAbs * 2 ^ 1074) (d * V t) < 2 ^ 1074 := by omega
    obtain ⟨m, e, hdc, _⟩ := decode_pack (decide (a < 0)) hlt
    refine ⟨⟨_, m, e, hrr ▸ hdc⟩, ?_⟩
    rw [hrr, toInt_floor_val hdc, val_pack _ hlt]
    have hS : (0 : Nat) < 2 ^ 1074 := Nat.two_pow_pos _
    have hSi : (2 : Int) ^ 1074 = ((2 ^ 1074 : Nat) : Int) := by simp
    rw [hSi]
    unfold PySem.Float64.dist at hdt
    generalize (2 : Nat) ^ 1074 = S at *
    obtain ⟨p1, p2⟩ := mag_div (t := V t) hd (by omega) (S := S) (n := a.natAbs) (by omega) (by omega)
    generalize hqq : a.natAbs / d = q at *
    generalize V t = v at *
    have hml2 := Nat.mod_lt a.natAbs hd
    generalize a.natAbs % d = r at *
    rw [Nat.add_mul, Nat.one_mul] at p2
    unfold sgn
    by_cases hn : a < 0
    · simp only [hn, decide_true, if_true]
      have l : -(v : Int) / (S : Int) = -(q + 1 : Int) := by
        refine (Int.ediv_eq_iff_of_pos (by omega)).mpr ?_
        rw [Int.neg_mul, Int.add_mul, Int.one_mul]
        have : ((q * S : Nat) : Int) = (q : Int) * S := Int.natCast_mul _ _
        omega
      have r2 : a / (d : Int) = -(q + 1 : Int) := by
        refine (Int.ediv_eq_iff_of_pos (by omega)).mpr ?_
        rw [Int.neg_mul, Int.add_mul, Int.one_mul]
        have : ((d * q : Nat) : Int) = (q : Int) * d := by rw [Int.natCast_mul, Int.mul_comm]
        omega
      rw [l, r2]
    · simp only [hn, decide_false, if_false, Bool.false_eq_true]
      have l : (v : Int) / (S : Int) = (q : Int) := by
        refine (Int.ediv_eq_iff_of_pos (by omega)).mpr ?_
        have : ((q * S : Nat) : Int) = (q : Int) * S := Int.natCast_mul _ _
        omega
      have r2 : a / (d : Int) = (q : Int) := by
        refine (Int.ediv_eq_iff_of_pos (by omega)).mpr ?_
        have : ((d * q : Nat) : Int) = (q : Int) * d := by rw [Int.natCast_mul, Int.mul_comm]
        omega
      rw [l, r2]
end

open_top hd for PySem.Challenge.rw_ak5009_01

section
/-- what a call of a def gives -/
abbrev Claim (w : World) (p : Program) (loose : List Str) (mean : ExcName → Option Value) (mg mb : Str → Option Value) (f : Addr) (d : Nat) (vs : List Value) (Post : Value → Prop) : Prop :=
  ∀ (dp un : Nat) (gd : Option (List Code)) (cn : Str) (cs : Scope) (a : Addr) (ccd : Value) (cl : List (Str × Addr)) (outer : List Env) (A₀ : Around) (base h₀ : Heap) (L : Addr) (m : Str → Option Value) (news : List (Addr × Obj)) (s : Shared) (Q E : Value → Shared → Prop),
    Below A₀ base outer h₀ → Fr h₀ L s.heap m → (hd.heap_39 w.params).In h₀ → News h₀ L s.heap news → Top p loose mean mg mb h₀ → cs.kind = .function → dp + d < recursionLimit → un + 8 * d < cLine →
    (∀ r h' tk', Fr h₀ L h' m → News h₀ L h' news → Post r → Q r { s with heap := h', toks := tk' }) →
    wpAny (model PySem.Challenge.rw_ak5009_01.row.toRowW.prog w) (ktrTop dp un gd cn cs L a ccd cl outer) (call (.ref f) vs) Q E s

/-- the float has this floor -/
def Fl (x : UInt64) (i : Int) : Prop := (∃ a m e, Float64.decode x = .fin a m e) ∧ Flt.toInt Float64.floorOf x = i

section
variable {prog : Program} {w : World} {A : Around} {E : Value → Shared → Prop} {s : Shared} {x y : UInt64} {t u : Tok} {n k i : Int} {Q : Value → Shared → Prop}
theorem trunc_w (hx : Fq x k) (hk : k % 4 = 0)
    (h : ∀ r t', 4 * r = k → Q (.int r t') { s with toks := s.toks + 1 }) : wpAny (model prog w) A (call (.builtin "math.trunc") [.float x t]) Q E s := by
  have hr : 4 * (k / 4) = k := by omega
  have hx' : Fq x (4 * (k / 4)) := by rw [hr]; exact hx
  have ht := fq_trunc hx'
  obtain ⟨⟨a, m, e, hd⟩, _⟩ := hx
  refine Flt.trunc_via ?_
  refine call_gives F.slot_float_trunc (typeIs_float s x t) F.entry_float_trunc (F.args_float_trunc_1 _) (Flt.gives_trunc t hd) ?_
  rw [← Flt.toInt_fin (f := Float64.truncOf) hd, ht]
  exact h _ _ hr
theorem floor_w (hx : Fl x i) (h : Q (.int i s.toks) { s with toks := s.toks + 1 }) : wpAny (model prog w) A (call (.builtin "math.floor") [.float x t]) Q E s := by
  obtain ⟨⟨a, m, e, hd⟩, hi⟩ := hx
  refine Flt.call_fn_gives Flt.kind_floor Flt.plain_floor Flt.entry_floor (Flt.args_floor _) (Flt.gives_mfloor t hd) ?_
  rw [← Flt.toInt_fin (f := Float64.floorOf) hd, hi]
  exact h
theorem fl_of_fq (hx : Fq x k) : Fl x (k / 4) := ⟨hx.1, fq_floor hx⟩
theorem small_fits (h : n.natAbs < 2 ^ 53) : n.natAbs < 2 ^ 1023 := Nat.lt_of_lt_of_le h (Nat.pow_le_pow_right (by decide) (by decide))
theorem q4 (h : (4 * i).natAbs < 2 ^ 53) : i.natAbs < 2 ^ 1023 := small_fits (by omega)
theorem add_ff (hx : Fq x n) (hy : Fq y k) (hb : (n + k).natAbs < 2 ^ 53) (h : ∀ z, Fq z (n + k) → Q (.float z s.toks) { s with toks := s.toks + 1 }) : wpAny (model prog w) A (binaryOp .Add (.float x t) (.float y u)) Q E s :=
  add_float (h _ (fq_add hx hy hb))
theorem sub_ff (hx : Fq x n) (hy : Fq y k) (hb : (n - k).natAbs < 2 ^ 53) (h : ∀ z, Fq z (n - k) → Q (.float z s.toks) { s with toks := s.toks + 1 }) : wpAny (model prog w) A (binaryOp .Sub (.float x t) (.float y u)) Q E s :=
  sub_float (h _ (fq_sub hx hy hb))
theorem add_fi (hx : Fq x n) (hi : (4 * i).natAbs < 2 ^ 53) (hb : (n + 4 * i).natAbs < 2 ^ 53) (h : ∀ z, Fq z (n + 4 * i) → Q (.float z s.toks) { s with toks := s.toks + 1 }) : wpAny (model prog w) A (binaryOp .Add (.float x t) (.int i u)) Q E s :=
  add_fi_fits (q4 hi) (h _ (fq_add hx (fq_ofInt i hi) hb))
theorem sub_fi (hx : Fq x n) (hi : (4 * i).natAbs < 2 ^ 53) (hb : (n - 4 * i).natAbs < 2 ^ 53) (h : ∀ z, Fq z (n - 4 * i) → Q (.float z s.toks) { s with toks := s.toks + 1 }) : wpAny (model prog w) A (binaryOp .Sub (.float x t) (.int i u)) Q E s :=
  sub_fi_fits (q4 hi) (h _ (fq_sub hx (fq_ofInt i hi) hb))
theorem sub_if (hx : Fq x n) (hi : (4 * i).natAbs < 2 ^ 53) (hb : (4 * i - n).natAbs < 2 ^ 53) (h : ∀ z, Fq z (4 * i - n) → Q (.float z s.toks) { s with toks := s.toks + 1 }) : wpAny (model prog w) A (binaryOp .Sub (.int i u) (.float x t)) Q E s :=
  sub_if_fits (q4 hi) (h _ (fq_sub (fq_ofInt i hi) hx hb))
theorem mul_fi (hx : Fq x n) (hn : 0 < n) (hi : (4 * i).natAbs < 2 ^ 53) (hb : (n * i).natAbs < 2 ^ 53) (h : ∀ z, Fq z (n * i) → Q (.float z s.toks) { s with toks := s.toks + 1 }) : wpAny (model prog w) A (binaryOp .Mult (.float x t) (.int i u)) Q E s :=
  mul_fi_fits (q4 hi) (h _ (fq_mul hx (fq_ofInt i hi) (by rw [← Int.mul_assoc, Int.mul_comm n 4, Int.mul_assoc]) hb hn))
theorem ne_fi_w (hx : Fq x n) (h : Q (.bool (decide (n ≠ 4 * i))) s) : wpAny (model prog w) A (compareOp .NotEq (.float x t) (.int i u)) Q E s := by
  refine ne_fi ?_
  rw [fq_eq_int hx]
  have e : (some (compare n (4 * i)) != some Ordering.eq) = decide (n ≠ 4 * i) := by
    rcases Int.lt_trichotomy n (4 * i) with h | h | h
    · rw [Int.compare_eq_lt.mpr h, decide_eq_true (by omega)]; rfl
    · subst h; simp
    · rw [Int.compare_eq_gt.mpr h, decide_eq_true (by omega)]; rfl
  rw [e]; exact h
theorem div_iw (hA : A.handled = none) {b : Int} (hd : 0 < b) (hd2 : b < 2 ^ 19) (hi : i.natAbs < 2 ^ 31) (h : ∀ z, Fl z (i / b) → Q (.float z s.toks) { s with toks := s.toks + 1 }) : wpAny (model prog w) A (binaryOp .Div (.int i t) (.int b u)) Q E s := by
  have hf : i.natAbs < 2 ^ 1023 := Nat.lt_of_lt_of_le hi (Nat.pow_le_pow_right (by decide) (by decide))
  refine Flt.div_ii_fits hA hf (fun e => absurd e (by omega)) fun _ _ => ?_
  have e : decide (b < 0) = false := decide_eq_false (by omega)
  rw [e]
  have e2 : ((b.natAbs : Nat) : Int) = b := by omega
  have hz := floor_frac (a := i) (d := b.natAbs) (by omega) (by omega) hi
  rw [e2] at hz
  exact h _ hz
end
theorem fq_lit_half : Fq 4602678819172646912 2 := ⟨⟨false, 2 ^ 52, -53, by kernel_rfl⟩, by kernel_rfl⟩
theorem fq_epoch : Fq 4700144277945057280 6885702 := ⟨⟨false, 7393466225000448, -32, by kernel_rfl⟩, by kernel_rfl⟩
theorem fq_365 : Fq 4645133162144333824 1461 := ⟨⟨false, 6425545952722944, -44, by kernel_rfl⟩, by kernel_rfl⟩
theorem fq_1524 : Fq 4654419637352529920 6098 := ⟨⟨false, 6704821906178048, -42, by kernel_rfl⟩, by kernel_rfl⟩
section
variable {prog : Program} {w : World} {A : Around} {E : Value → Shared → Prop} {s : Shared} {t u : Tok} {a b : Int} {Q : Value → Shared → Prop}
theorem mod_p (hb : 0 < b) (h : Q (.int (a % b) s.toks) { s with toks := s.toks + 1 }) : wpAny (model prog w) A (binaryOp .Mod (.int a t) (.int b u)) Q E s := by
  refine mod_int' (by omega) ?_
  rw [Int.fmod_eq_emod_of_nonneg _ (by omega)]
  exact h
theorem fdiv_p (hb : 0 < b) (hp : Builtin.divisionGoesByPylong a b = false) (h : Q (.int (a / b) s.toks) { s with toks := s.toks + 1 }) : wpAny (model prog w) A (binaryOp .FloorDiv (.int a t) (.int b u)) Q E s := by
  refine floordiv_int (by omega) ?_ (Or.inl hp)
  rw [Int.fdiv_eq_ediv_of_nonneg _ (by omega)]
  exact h
end
def leapB (y : Int) : Bool := decide (y % 4 = 0 ∧ (y % 100 ≠ 0 ∨ y % 400 = 0))
def mlenI (y m : Int) : Int := if m = 2 then (if leapB y = true then 29 else 28) else if m = 4 ∨ m = 6 ∨ m = 9 ∨ m = 11 then 30 else 31
def adjI (y m : Int) : Int := if m ≤ 2 then 0 else if leapB y = true then -1 else -2
def gN (y m d : Int) : Int := 1721424 + 365 * (y - 1) + (y - 1) / 4 - (y - 1) / 100 + (y - 1) / 400 + ((367 * m - 362) / 12 + adjI y m + d)
theorem mlen_b (y m : Int) : 28 ≤ mlenI y m ∧ mlenI y m ≤ 31 := by unfold mlenI; split <;> split <;> omega
theorem mlen_cases {y m d : Int} (h4 : d ≤ mlenI y m) : (m = 2 ∧ leapB y = true ∧ d ≤ 29) ∨ (m = 2 ∧ leapB y = false ∧ d ≤ 28) ∨ (m ≠ 2 ∧ (m = 4 ∨ m = 6 ∨ m = 9 ∨ m = 11) ∧ d ≤ 30) ∨ (m ≠ 2 ∧ m ≠ 4 ∧ m ≠ 6 ∧ m ≠ 9 ∧ m ≠ 11 ∧ d ≤ 31) := by
  unfold mlenI at h4
  split at h4
  · split at h4
    · exact .inl ⟨by assumption, by assumption, h4⟩
    · rename_i h h5; exact .inr (.inl ⟨h, by simpa using h5, h4⟩)
  · split at h4
    · exact .inr (.inr (.inl ⟨by assumption, by assumption, h4⟩))
    · exact .inr (.inr (.inr (by omega)))
theorem any4 {a b c d k : Int} : [a, b, c, d].any (· == k) = decide (k = a ∨ k = b ∨ k = c ∨ k = d) := by
  rw [Bool.eq_iff_iff]
  simp only [List.any_cons, List.any_nil, Bool.or_false, Bool.or_eq_true, beq_iff_eq, decide_eq_true_eq]
  constructor <;> (intro h; omega)
section
variable {prog : Program} {w : World} {A : Around} {E : Value → Shared → Prop} {s : Shared} {K : Frag} {L : Addr} {h₀ : Heap} {m : Str → Option Value}
theorem in_tup4 {Q : Value → Shared → Prop} {a : Addr} {l : List Value} {n : Nat} {dd : Option Addr} {sl : Array (Option Value)} {k x y z u : Int} {t : Tok} (F : Fr h₀ L s.heap m) (X₀ : K.In h₀)
    (hl : K.lookup a = some ⟨.type "tuple", dd, .seq l.toArray n, sl⟩) (hi : IntsAre l [x, y, z, u]) (h : Q (.bool (decide (k = x ∨ k = y ∨ k = z ∨ k = u))) s) : wpAny (model prog w) A (compareOp .In (.int k t) (.ref a)) Q E s :=
  in_tuple_ints (tupK (X₀.keeps F.keep) hl) hi (by rw [any4]; exact h)
end
theorem ite_bt {b : Bool} {x y : Prop} (hb : b = true) (h : x) : if b = true then x else y := by rw [if_pos hb]; exact h
theorem ite_bf {b : Bool} {x y : Prop} (hb : b = false) (h : y) : if b = true then x else y := by rw [if_neg (by rw [hb]; decide)]; exact h
/-- what a call of a def gives that hands back a new object -/
abbrev ClaimT (w : World) (p : Program) (loose : List Str) (mean : ExcName → Option Value) (mg mb : Str → Option Value) (f : Addr) (d : Nat) (vs : List Value) (Post : Obj → Prop) : Prop :=
  ∀ (dp un : Nat) (gd : Option (List Code)) (cn : Str) (cs : Scope) (a : Addr) (ccd : Value) (cl : List (Str × Addr)) (outer : List Env) (A₀ : Around) (base h₀ : Heap) (L : Addr) (m : Str → Option Value) (news : List (Addr × Obj)) (s : Shared) (Q E : Value → Shared → Prop),
    Below A₀ base outer h₀ → Fr h₀ L s.heap m → (hd.heap_39 w.params).In h₀ → News h₀ L s.heap news → Top p loose mean mg mb h₀ → cs.kind = .function → dp + d < recursionLimit → un + 8 * d < cLine →
    (∀ T o h' tk', Fr h₀ L h' m → News h₀ L h' ((T, o) :: news) → (∀ p ∈ news, p.1 < T) → Post o → Q (.ref T) { s with heap := h', toks := tk' }) →
    wpAny (model PySem.Challenge.rw_ak5009_01.row.toRowW.prog w) (ktrTop dp un gd cn cs L a ccd cl outer) (call (.ref f) vs) Q E s
end

section
/-- the month's float of to_jd -/
def mfZ (m adj : Nat) : UInt64 := Float64.add (Float64.ofFrac false (367 * m - 362) 12) (Float64.ofInt (-(adj : Int)))
def mfOk (m adj d : Nat) : Bool :=
  let z := Float64.add (mfZ m adj) (Float64.ofInt d)
  Float64.isFinite z && (Flt.toInt Float64.floorOf z == ((367 * m - 362) / 12 : Nat) - (adj : Int) + d)
theorem mfOk_all : (List.range 12).all (fun m => (List.range 3).all fun a => (List.range 31).all fun d => mfOk (m + 1) a (d + 1)) = true := by decide +kernel
theorem mf_ok {m a d : Nat} (h1 : 1 ≤ m) (h2 : m ≤ 12) (h3 : a ≤ 2) (h4 : 1 ≤ d) (h5 : d ≤ 31) : mfOk m a d = true := by
  have h := mfOk_all
  rw [List.all_eq_true] at h
  have h := h (m - 1) (List.mem_range.mpr (by omega))
  rw [List.all_eq_true] at h
  have h := h a (List.mem_range.mpr (by omega))
  rw [List.all_eq_true] at h
  have h := h (d - 1) (List.mem_range.mpr (by omega))
  have e1 : m - 1 + 1 = m := by omega
  have e2 : d - 1 + 1 = d := by omega
  rw [e1, e2] at h
  exact h
theorem fin_dec {x : UInt64} (h : Float64.isFinite x = true) : ∃ a m e, Float64.decode x = .fin a m e := by
  unfold Float64.isFinite at h
  split at h
  · rename_i a m e hd; exact ⟨a, m, e, hd⟩
  · cases h
def M1 (z : UInt64) (m : Int) : Prop := z = Float64.ofFrac false (367 * m.toNat - 362) 12
def M2 (z : UInt64) (m a : Int) : Prop := z = mfZ m.toNat (-a).toNat
section
variable {prog : Program} {w : World} {A : Around} {E : Value → Shared → Prop} {s : Shared} {x y : UInt64} {t u : Tok} {m a d : Int} {Q : Value → Shared → Prop}
theorem div_12 (hA : A.handled = none) (h1 : 1 ≤ m) (h2 : m ≤ 12) (h : ∀ z, M1 z m → Q (.float z s.toks) { s with toks := s.toks + 1 }) : wpAny (model prog w) A (binaryOp .Div (.int (367 * m - 362) t) (.int 12 u)) Q E s := by
  refine Flt.div_ii_fits hA (small_fits (by omega)) (fun e => absurd e (by decide)) fun _ _ => ?_
  have e : decide (367 * m - 362 < 0) = false := decide_eq_false (by omega)
  have e2 : decide ((12 : Int) < 0) = false := by decide
  rw [e, e2]
  refine h _ ?_
  unfold M1
  congr 1
  omega
theorem add_m1 (hx : M1 x m) (ha : a ≤ 0) (ha2 : -2 ≤ a) (h : ∀ z, M2 z m a → Q (.float z s.toks) { s with toks := s.toks + 1 }) : wpAny (model prog w) A (binaryOp .Add (.float x t) (.int a u)) Q E s := by
  refine add_fi_fits (small_fits (by omega)) (h _ ?_)
  unfold M2 mfZ
  rw [hx]
  congr 2
  omega
theorem add_m2 (hx : M2 x m a) (h1 : 1 ≤ m) (h2 : m ≤ 12) (ha : a ≤ 0) (ha2 : -2 ≤ a) (h3 : 1 ≤ d) (h4 : d ≤ 31) (h : ∀ z, Fl z ((367 * m - 362) / 12 + a + d) → Q (.float z s.toks) { s with toks := s.toks + 1 }) : wpAny (model prog w) A (binaryOp .Add (.float x t) (.int d u)) Q E s := by
  refine add_fi_fits (small_fits (by omega)) (h _ ?_)
  have hk := mf_ok (m := m.toNat) (a := (-a).toNat) (d := d.toNat) (by omega) (by omega) (by omega) (by omega) (by omega)
  unfold mfOk at hk
  simp only [Bool.and_eq_true, beq_iff_eq] at hk
  have ed : ((d.toNat : Nat) : Int) = d := by omega
  rw [ed] at hk
  rw [hx]
  refine ⟨fin_dec hk.1, hk.2.trans ?_⟩
  have e1 : ((367 * m.toNat - 362) / 12 : Nat) = (367 * m - 362) / 12 := by omega
  rw [e1]
  omega
end
theorem fq_cast {x : UInt64} {n k : Int} (h : Fq x n) (e : n = k) : Fq x k := e ▸ h
def mlenJ (y m : Int) : Int := if m = 2 then (if y % 4 = 0 then 29 else 28) else if m = 4 ∨ m = 6 ∨ m = 9 ∨ m = 11 then 30 else 31
def jN (y m d : Int) : Int := (1461 * ((if m ≤ 2 then y - 1 else y) + 4716)) / 4 + (306001 * ((if m ≤ 2 then m + 12 else m) + 1)) / 10000 + d - 1525
theorem mlenJ_cases {y m d : Int} (h4 : d ≤ mlenJ y m) : (m = 2 ∧ y % 4 = 0 ∧ d ≤ 29) ∨ (m = 2 ∧ y % 4 ≠ 0 ∧ d ≤ 28) ∨ (m ≠ 2 ∧ (m = 4 ∨ m = 6 ∨ m = 9 ∨ m = 11) ∧ d ≤ 30) ∨ (m ≠ 2 ∧ m ≠ 4 ∧ m ≠ 6 ∧ m ≠ 9 ∧ m ≠ 11 ∧ d ≤ 31) := by
  unfold mlenJ at h4
  repeat' split at h4
  all_goals omega
def k306Ok (k : Nat) : Bool :=
  let z := Float64.mul 4629306380116972641 (Float64.ofInt k)
  Float64.isFinite z && (Flt.toInt Float64.floorOf z == ((306001 * k) / 10000 : Nat))
theorem k306_all : (List.range 12).all (fun k => k306Ok (k + 4)) = true := by decide +kernel
section
variable {prog : Program} {w : World} {A : Around} {E : Value → Shared → Prop} {s : Shared} {t u : Tok} {k : Int} {Q : Value → Shared → Prop}
theorem mul_306 (h1 : 4 ≤ k) (h2 : k ≤ 15) (h : ∀ z, Fl z ((306001 * k) / 10000) → Q (.float z s.toks) { s with toks := s.toks + 1 }) : wpAny (model prog w) A (binaryOp .Mult (.float 4629306380116972641 t) (.int k u)) Q E s := by
  refine mul_fi_fits (small_fits (by omega)) (h _ ?_)
  have hh := k306_all
  rw [List.all_eq_true] at hh
  have hh := hh (k.toNat - 4) (List.mem_range.mpr (by omega))
  have e1 : k.toNat - 4 + 4 = k.toNat := by omega
  rw [e1] at hh
  unfold k306Ok at hh
  simp only [Bool.and_eq_true, beq_iff_eq] at hh
  have ed : ((k.toNat : Nat) : Int) = k := by omega
  rw [ed] at hh
  refine ⟨fin_dec hh.1, hh.2.trans ?_⟩
  omega
end
end

section
def primI : Option Obj → Option Int
  | some ⟨_, _, .prim (.int n _), _⟩ => some n
  | _ => none
theorem primI_some {o : Option Obj} {n : Int} (h : primI o = some n) : ∃ c d tk sl, o = some ⟨c, d, .prim (.int n tk), sl⟩ := by
  unfold primI at h
  split at h
  · cases h; exact ⟨_, _, _, _, rfl⟩
  · cases h
theorem prim_K {w : World} {h : Heap} {x : Addr} {n : Int} (X : (hd.heap_39 w.params).In h) (e : primI ((hd.heap_39 w.params).lookup x) = some n) : ∃ c d tk sl, h.get? x = some ⟨c, d, .prim (.int n tk), sl⟩ := by
  obtain ⟨c, d, tk, sl, q⟩ := primI_some e
  exact ⟨c, d, tk, sl, X _ _ q⟩
section
variable {prog : Program} {w : World} {A : Around} {E : Value → Shared → Prop} {s : Shared} {x : Addr} {t : Tok} {a m n : Int}
theorem peeked {α : Type} {T : Sem α} {r : α} {Q : α → Shared → Prop} (X : (hd.heap_39 w.params).In s.heap) (e : peek (hd.heap_39 w.params) ⟨prog, w.params⟩ T = some r) (h : Q r s) : wpAny (model prog w) A T Q E s :=
  (Looks.of_peek (M := model prog w) X e).here h
theorem ifBound_bin {id : String} {name : Str} {args : List Value} {Q : Option Value → Shared → Prop} (X : (hd.heap_39 w.params).In s.heap)
    (hs : peek (hd.heap_39 w.params) ⟨prog, w.params⟩ (specialOf (.ref x) name) = some (some (.builtin id))) (hb : ∀ self, bindSpecial (.builtin id) self = pure (.builtin id, [self]))
    (h : wpAny (model prog w) A (call (.builtin id) (.ref x :: args)) (fun v => Q (some v)) E s) : wpAny (model prog w) A (callSpecialIfBound? (.ref x) name args) Q E s := by
  simp only [callSpecialIfBound?, bindSpecialIfBound?]
  refine wpAny_holding (wpAny_bind (wpAny_bind (peeked X hs ?_)))
  refine wpAny_bind (wpAny_askSetting (wpAny_ite ?_))
  have fin : wpAny (model prog w) A (call (.builtin id) ([.ref x] ++ args) >>= fun v => pure (some v)) Q E s := wpAny_bind (wpAny_mono h (fun v s' h' => wpAny_pure h') fun _ _ h' => h')
  split
  · exact wpAny_bind (wpAny_of_eq (hb _) (wpAny_pure (by exact fin)))
  · exact wpAny_tryCatch (wpAny_bind (wpAny_of_eq (hb _) (wpAny_pure (by exact fin))))
theorem eq_ref_meets (x : Addr) (n m : Int) (t : Tok) : Meets (Builtin.«int.__eq__» ⟨[.ref x, .int m t], []⟩)
    (fun A R s => (∃ c d tk sl, s.heap.get? x = some ⟨c, d, .prim (.int n tk), sl⟩) ∧ R (.ok (.ret (.bool (n == m)))) s) :=
  Meets.of_wp fun prog w A R s hs => by
    obtain ⟨hp, g, d, tk, os⟩ := s
    obtain ⟨⟨c, dd, tt, sl, ho⟩, hs⟩ := hs
    unfold Builtin.«int.__eq__»
    wp_walk
    exact ⟨_, rfl, hs⟩
theorem sub_ref_meets (x : Addr) (n a : Int) (t : Tok) : Meets (Builtin.«int.__sub__» ⟨[.int a t, .ref x], []⟩)
    (fun A R s => (∃ c d tk sl, s.heap.get? x = some ⟨c, d, .prim (.int n tk), sl⟩) ∧ R (.ok (.ret (.int (a - n) s.toks))) { s with toks := s.toks + 1 }) :=
  Meets.of_wp fun prog w A R s hs => by
    obtain ⟨hp, g, d, tk, os⟩ := s
    obtain ⟨⟨c, dd, tt, sl, ho⟩, hs⟩ := hs
    unfold Builtin.«int.__sub__»
    wp_walk
    exact ⟨_, rfl, hs⟩
theorem call_eq_ref {Q : Value → Shared → Prop} (X : (hd.heap_39 w.params).In s.heap) (hc : peek (hd.heap_39 w.params) ⟨prog, w.params⟩ (checkBuiltinCall "int.__eq__" ⟨[.ref x, .int m t], []⟩) = some ())
    (ho : ∃ c d tk sl, s.heap.get? x = some ⟨c, d, .prim (.int n tk), sl⟩) (h : Q (.bool (n == m)) s) : wpAny (model prog w) A (call (.builtin "int.__eq__") [.ref x, .int m t]) Q E s := by
  refine wpAny_call (codeAny_call_builtin F.slot_int_eq.plain F.entry_int_eq ?_)
  refine peeked X hc ?_
  have hh := eq_ref_meets x n m t prog w A (fun r s' => match r with | .ok (.ret v) => Q v s' | .ok _ => False | .error e => E e s') s ⟨ho, h⟩
  exact hh
theorem eq_feb {Q : Value → Shared → Prop} (hu : A.units < cLine) (X : (hd.heap_39 w.params).In s.heap) (h : Q (.bool (decide (m = 2))) s) : wpAny (model prog w) A (compareOp .Eq (.int m t) (.ref 331)) Q E s := by
  show wpAny _ _ (richCompare .Eq _ _) Q E s
  unfold richCompare
  refine wpAny_holding (wpAny_bind (wpAny_cRoomFor hu ?_))
  show wpAny (model prog w) A (typeOf (.int m t) >>= _) Q E s
  refine wpAny_bind (wpAny_of_eq rfl ?_)
  refine wpAny_bind (peeked X (r := .ref 202) (by kernel_rfl) ?_)
  refine wpAny_bind ?_
  refine peeked X (r := true) (by kernel_rfl) ?_
  simp only [if_true]
  refine wpAny_bind (m := tryCompare (.ref 331) _ (.int m t)) ?_
  unfold tryCompare
  refine wpAny_bind (ifBound_bin X (id := "int.__eq__") (by kernel_rfl) F.slot_int_eq.bind ?_)
  refine call_eq_ref (n := 2) X (by kernel_rfl) (prim_K X (by kernel_rfl)) ?_
  refine wpAny_pure (wpAny_bind (wpAny_rule (wpAny_pure ?_)))
  have e : ((2 : Int) == m) = decide (m = 2) := by
    by_cases hm : m = 2
    · subst hm; rfl
    · rw [decide_eq_false hm, beq_eq_false_iff_ne]; omega
  rw [e]
  exact h
theorem call_sub_ref {Q : Value → Shared → Prop} (ho : ∃ c d tk sl, s.heap.get? x = some ⟨c, d, .prim (.int n tk), sl⟩) (h : Q (.int (a - n) s.toks) { s with toks := s.toks + 1 }) :
    wpAny (model prog w) A (call (.builtin "int.__sub__") [.int a t, .ref x]) Q E s :=
  call_meets F.slot_int_sub (typeIs_int s a t) F.entry_int_sub (F.args_int_sub_2 _ _) (sub_ref_meets x n a t) ⟨ho, h⟩
theorem sub_ref {Q : Value → Shared → Prop} (X : (hd.heap_39 w.params).In s.heap) (ht : peek (hd.heap_39 w.params) ⟨prog, w.params⟩ (typeOf (.ref x)) = some (.ref 312)) (ho : primI ((hd.heap_39 w.params).lookup x) = some n)
    (h : Q (.int (a - n) s.toks) { s with toks := s.toks + 1 }) : wpAny (model prog w) A (binaryOp .Sub (.int a t) (.ref x)) Q E s := by
  unfold binaryOp
  refine wpAny_holding (wpAny_bind ?_)
  unfold binaryOp1
  refine wpAny_bind (wpAny_of_eq (a := Value.type "int") rfl ?_)
  refine wpAny_bind (peeked X ht ?_)
  refine wpAny_bind (wpAny_of_eq F.fills_int_sub ?_)
  refine wpAny_bind (peeked X (T := fillsNumberSlot (.ref 312) "sub") (r := true) (by kernel_rfl) ?_)
  refine wpAny_bind (peeked X (T := isSubtype (.ref 312) (.type "int")) (r := true) (by kernel_rfl) ?_)
  refine wpAny_bind (peeked X (T := reflectedDiffers (.type "int") (.ref 312) "sub") (r := false) (by kernel_rfl) ?_)
  refine wpAny_bind (peeked X (T := numberSlotInPython (.type "int") "sub") (r := false) (by kernel_rfl) ?_)
  refine wpAny_bind (m := tryMethod (.int a t) (PySem.dunder "sub") (.ref x)) ?_
  unfold tryMethod
  refine wpAny_bind (wpAny_callSpecial?_slot (name := PySem.dunder "sub") (typeIs_int s a t) F.slot_int_sub ?_)
  refine call_sub_ref (prim_K X ho) ?_
  exact wpAny_pure (wpAny_pure (wpAny_pure h))
end
end

section
namespace DF
theorem mro_date : mroOf (.type "datetime.date") = pure [.type "datetime.date", .type "object"] := by rw [mroOf_type]; kernel_rfl
theorem lookup_date_new : typeLookup (.type "datetime.date") "__new__" = pure (some (.builtin "datetime.date.__new__")) := by rw [typeLookup_type, builtinLookup_eq_fast]; kernel_rfl
theorem slot_date_init : Slot "datetime.date" "__init__" "object.__init__" :=
  .of (owner := "object") (n := "__init__") (by rw [typeLookup_type, builtinLookup_eq_fast]; kernel_rfl) (by decide +kernel) (by decide +kernel) (by decide +kernel)
    (by first | exact .inl (by decide +kernel) | exact .inr (by decide +kernel)) (by rw [isSubtype_type]; kernel_rfl)
theorem sub_date : isSubtype (.type "datetime.date") (.type "datetime.date") = pure true := by rw [isSubtype_type]; kernel_rfl
theorem sub_date_dt : isSubtype (.type "datetime.date") (.type "datetime.datetime") = pure false := by rw [isSubtype_type]; kernel_rfl
theorem called_date : TypeCalled "datetime.date" "datetime.date.__new__" "object.__init__" :=
  ⟨by decide +kernel, by decide +kernel, ⟨_, _, mro_date⟩, madeBy_type mro_date lookup_date_new (by decide +kernel), by decide +kernel, sub_date, slot_date_init⟩
theorem typeCall_date_3 (a b c : Value) : checkTypeCall "datetime.date" ⟨[a, b, c], []⟩ = pure () := by kernel_rfl
theorem newCall_date_3 (a b c : Value) : checkBuiltinCall "datetime.date.__new__" ⟨[.type "datetime.date", a, b, c], []⟩ = pure () := by kernel_rfl
theorem entry_date_new : entryFor table "datetime.date.__new__" = some Builtin.«datetime.date.__new__» := entryFor_of_tree (by kernel_rfl)
end DF
section
variable {prog : Program} {w : World} {A : Around} {s : Shared}
theorem dtCInt_w {E : Value → Shared → Prop} {n : Int} {t : Tok} {Q : Int → Shared → Prop} (h1 : -1000 ≤ n) (h2 : n ≤ 100000) (h : Q n s) : wpAny (model prog w) A (Builtin._datetime.dtCInt (.int n t)) Q E s := by
  unfold Builtin._datetime.dtCInt
  refine wpAny_bind ?_
  have e1 : (decide (n ≥ 2 ^ 63) || decide (n < -2 ^ 63)) = false := by simp; omega
  have e2 : ¬ (n ≥ 2 ^ 31) := by omega
  have e3 : ¬ (n < -2 ^ 31) := by omega
  obtain ⟨hp, g, d, tk, os⟩ := s
  wp_walk
  simp only [e1, e2, e3, Bool.false_eq_true, if_false]
  exact wpAny_pure h
theorem dtBind_w (a b c : Value) : Builtin._datetime.dtBind "datetime.date.__new__" "function" ["year", "month", "day"] 0 [a, b, c] [] = pure [some a, some b, some c] := by kernel_rfl
theorem daysInMonth_pos {y m : Int} (h1 : 1 ≤ m) (h2 : m ≤ 12) : ¬ (1 > Builtin._datetime.daysInMonth y m) := by
  have hm : m = 1 ∨ m = 2 ∨ m = 3 ∨ m = 4 ∨ m = 5 ∨ m = 6 ∨ m = 7 ∨ m = 8 ∨ m = 9 ∨ m = 10 ∨ m = 11 ∨ m = 12 := by omega
  unfold Builtin._datetime.daysInMonth
  rcases hm with rfl | rfl | rfl | rfl | rfl | rfl | rfl | rfl | rfl | rfl | rfl | rfl
  all_goals (split <;> decide)
def dateObj (y m : Int) : Obj := { cls := .type "datetime.date", data := .fields #[.int y 0, .int m 0, .int 1 0] }
theorem newDateRaw_w {E : Value → Shared → Prop} {y m : Int} {Q : Value → Shared → Prop} (hy1 : 1 ≤ y) (hy2 : y ≤ 9999) (h1 : 1 ≤ m) (h2 : m ≤ 12)
    (h : Q (.ref s.heap.objs.size) { s with heap := s.heap.push (dateObj y m) }) : wpAny (model prog w) A (Builtin._datetime.newDateRaw (.type "datetime.date") y m 1) Q E s := by
  unfold Builtin._datetime.newDateRaw
  have e1 : (decide (y < 1) || decide (y > 9999)) = false := by simp; omega
  have e2 : (decide (m < 1) || decide (m > 12)) = false := by simp; omega
  have e3 : (decide ((1 : Int) < 1) || decide (1 > Builtin._datetime.daysInMonth y m)) = false := by
    have := daysInMonth_pos (y := y) h1 h2
    simp; omega
  obtain ⟨hp, g, d, tk, os⟩ := s
  have hc : Builtin._datetime.checkDate y m 1 = pure () := by
    unfold Builtin._datetime.checkDate
    simp only [e1, e2, e3, Bool.false_eq_true, if_false, pure_bind]
  rw [hc]
  wp_walk
  exact h
end
theorem date_new (y m : Int) (t u v : Tok) (hy1 : 1 ≤ y) (hy2 : y ≤ 9999) (h1 : 1 ≤ m) (h2 : m ≤ 12) : Meets (Builtin.«datetime.date.__new__» ⟨[.type "datetime.date", .int y t, .int m u, .int 1 v], []⟩)
    (fun A R s => R (.ok (.ret (.ref s.heap.objs.size))) { s with heap := s.heap.push (dateObj y m) }) :=
  Meets.of_wp fun prog w A R s hs => by
    have f1 := DF.sub_date
    have f2 := DF.sub_date_dt
    have f3 := dtBind_w
    obtain ⟨hp, g, d, tk, os⟩ := s
    unfold Builtin.«datetime.date.__new__»
    repeat (first
      | ((with_reducible show wpAny _ _ (Builtin._datetime.dtCInt (.int _ _)) _ _ _); refine dtCInt_w (by omega) (by omega) ?_)
      | ((with_reducible show wpAny _ _ (Builtin._datetime.dtBind _ _ _ _ _ _) _ _ _); (refine wpAny_of_eq (dtBind_w _ _ _) ?_))
      | ((with_reducible show wpAny _ _ (Builtin._datetime.newDateRaw _ _ _ _) _ _ _); refine newDateRaw_w hy1 hy2 h1 h2 ?_)
      | wp_step)
    exact ⟨_, rfl, hs⟩
namespace DF
theorem plainAttrs_date : PlainAttrs "datetime.date" :=
  ⟨⟨"object.__getattribute__", by rw [typeLookup_type, builtinLookup_eq_fast]; kernel_rfl, by decide +kernel⟩, by rw [typeLookup_type, builtinLookup_eq_fast]; kernel_rfl⟩
theorem slot_date_weekday : Slot "datetime.date" "weekday" "datetime.date.weekday" :=
  .of (owner := "datetime.date") (n := "weekday") (by rw [typeLookup_type, builtinLookup_eq_fast]; kernel_rfl) (by decide +kernel) (by decide +kernel) (by decide +kernel)
    (by first | exact .inl (by decide +kernel) | exact .inr (by decide +kernel)) (by rw [isSubtype_type]; kernel_rfl)
theorem type_date_weekday : typeOf (.builtin "datetime.date.weekday") = pure (.type "method_descriptor") := by show builtinType _ = _; rw [builtinType_eq_fast]; kernel_rfl
theorem entry_date_weekday : entryFor table "datetime.date.weekday" = some Builtin.«datetime.date.weekday» := entryFor_of_tree (by kernel_rfl)
theorem args_date_weekday (a : Value) : argsOk "datetime.date.weekday" ⟨[a], []⟩ := by
  unfold argsOk; kernel_rfl
end DF
theorem weekday_meets (dd : Addr) (y m : Int) : Meets (Builtin.«datetime.date.weekday» ⟨[.ref dd], []⟩)
    (fun A R s => s.heap.get? dd = some (dateObj y m) ∧ R (.ok (.ret (.int (Builtin._datetime.weekdayOf (Builtin._datetime.toOrdinal y m 1)) s.toks))) { s with toks := s.toks + 1 }) :=
  Meets.of_wp fun prog w A R s hs => by
    have f1 := DF.sub_date
    obtain ⟨hp, g, d, tk, os⟩ := s
    obtain ⟨ho, hs⟩ := hs
    have hT : (⟨hp, g, d, tk, os⟩ : Shared).TypeIs (.ref dd) "datetime.date" := ⟨_, ho, rfl⟩
    unfold Builtin.«datetime.date.weekday»
    wp_walk
    exact ⟨_, rfl, hs⟩
section
variable {prog : Program} {w : World} {A : Around} {E : Value → Shared → Prop} {s : Shared} {h₀ : Heap} {L : Addr} {m : Str → Option Value} {news : List (Addr × Obj)} {y mo : Int} {t u v : Tok} {D : Addr}
theorem call_date {Q : Value → Shared → Prop} (F : Fr h₀ L s.heap m) (N : News h₀ L s.heap news) (hy1 : 1 ≤ y) (hy2 : y ≤ 9999) (h1 : 1 ≤ mo) (h2 : mo ≤ 12)
    (h : ∀ D h', Fr h₀ L h' m → News h₀ L h' ((D, dateObj y mo) :: news) → (∀ q ∈ news, q.1 < D) → Q (.ref D) { s with heap := h' }) : wpAny (model prog w) A (call (.type "datetime.date") [.int y t, .int mo u, .int 1 v]) Q E s :=
  callType_new DF.called_date (by decide +kernel) (DF.typeCall_date_3 _ _ _) (DF.newCall_date_3 _ _ _) (fun obj => PySem.F.initArgs_range_3 obj _ _ _) DF.entry_date_new (date_new y mo t u v hy1 hy2 h1 h2)
    ⟨⟨_, Heap.get?_push_size _ rfl, rfl⟩, h _ _ (F.push _) (news_pushed F N (fun b o q => Heap.get?_push_of_some _ q) (Heap.get?_push_size _ rfl) rfl) (fun q hq => Heap.lt_size (N q hq).1)⟩
theorem getMethod_date {pl : Sem Bool} {Q : Value × List Value → Shared → Prop} (N : News h₀ L s.heap news) (hm : (D, dateObj y mo) ∈ news) (h : Q (.builtin "datetime.date.weekday", [.ref D]) s) :
    wpAny (model prog w) A (getMethod (.ref D) "weekday" pl) Q E s :=
  getMethod_builtin (T := "datetime.date") ⟨_, (N _ hm).1, rfl⟩ DF.plainAttrs_date DF.slot_date_weekday DF.type_date_weekday (fun a e => by cases e; exact ⟨_, (N _ hm).1, rfl⟩) h
theorem call_weekday {Q : Value → Shared → Prop} (N : News h₀ L s.heap news) (hm : (D, dateObj y mo) ∈ news) (h : Q (.int (Builtin._datetime.weekdayOf (Builtin._datetime.toOrdinal y mo 1)) s.toks) { s with toks := s.toks + 1 }) :
    wpAny (model prog w) A (call (.builtin "datetime.date.weekday") [.ref D]) Q E s :=
  call_meets DF.slot_date_weekday (T := "datetime.date") ⟨_, (N _ hm).1, rfl⟩ DF.entry_date_weekday (DF.args_date_weekday _) (weekday_meets D y mo) ⟨(N _ hm).1, h⟩
end
end

section
def dayA (k : Int) : Addr := 364 + 3 * k.toNat
def fwI (y m : Int) : Int := (gN y m 1 + 1) % 7
theorem timeIsLeap_eq (y : Int) : Builtin.Time.timeIsLeap y = leapB y := by
  rw [Bool.eq_iff_iff]
  simp only [Builtin.Time.timeIsLeap, leapB, Bool.and_eq_true, Bool.or_eq_true, beq_iff_eq, bne_iff_ne, decide_eq_true_eq]
theorem leap_cyc (y : Int) : leapB (2000 + y % 400) = leapB y := by
  rw [Bool.eq_iff_iff]
  simp only [leapB, decide_eq_true_eq]
  omega
theorem dow_eq {y m : Int} (h1 : 1 ≤ m) (h2 : m ≤ 12) : Builtin._datetime.weekdayOf (Builtin._datetime.toOrdinal y m 1) = fwI y m := by
  have hm : m = 1 ∨ m = 2 ∨ m = 3 ∨ m = 4 ∨ m = 5 ∨ m = 6 ∨ m = 7 ∨ m = 8 ∨ m = 9 ∨ m = 10 ∨ m = 11 ∨ m = 12 := by omega
  unfold Builtin._datetime.weekdayOf Builtin._datetime.toOrdinal fwI gN adjI Builtin.Time.timeDaysBefore
  rw [timeIsLeap_eq]
  rcases hm with rfl | rfl | rfl | rfl | rfl | rfl | rfl | rfl | rfl | rfl | rfl | rfl <;> (cases leapB y <;> simp <;> omega)
theorem dow_cyc (y m : Int) : fwI (2000 + y % 400) m = fwI y m := by
  have ha : adjI (2000 + y % 400) m = adjI y m := by unfold adjI; rw [leap_cyc]
  unfold fwI gN
  rw [ha]
  generalize adjI y m = a
  generalize (367 * m - 362) / 12 = b
  omega
theorem fw_b (y m : Int) : 0 ≤ fwI y m ∧ fwI y m < 7 := by unfold fwI; omega
section
variable {prog : Program} {w : World} {A : Around} {E : Value → Shared → Prop} {s : Shared} {K : Frag} {h₀ : Heap} {L : Addr} {m : Str → Option Value} {k : Int} {u : Tok} {Q : Value → Shared → Prop}
theorem days_item {value slice : Expr} {n : Nat} {dd : Option Addr} {sl : Array (Option Value)} (F : Fr h₀ L s.heap m) (X₀ : K.In h₀)
    (hl : K.lookup 383 = some ⟨.type "tuple", dd, .seq (List.toArray [.ref 364, .ref 367, .ref 370, .ref 373, .ref 376, .ref 379, .ref 382]) n, sl⟩) (h0 : 0 ≤ k) (h7 : k < 7) (h : Q (.ref (dayA k)) s)
    (hs : subscripted slice false (.ref 383) (.int k u) = operate [.ref 383, .int k u] (getItem (.ref 383) (.int k u)) := by with_unfolding_all rfl) :
    wpAny (model prog w) A (subscriptTail value slice (.ref 383) (.int k u)) Q E s := by
  have hk : k = 0 ∨ k = 1 ∨ k = 2 ∨ k = 3 ∨ k = 4 ∨ k = 5 ∨ k = 6 := by omega
  refine topTup_K F X₀ hl (j := k.toNat) (by omega) (by omega) ?_ ?_ h hs
  · rcases hk with rfl | rfl | rfl | rfl | rfl | rfl | rfl <;> rfl
  · rcases hk with rfl | rfl | rfl | rfl | rfl | rfl | rfl <;> rfl
end
theorem tup_eq {v : Value} {a b : Int} {t : Tok} (h : a = b) : ({ cls := .type "tuple", data := .seq #[v, .int a t] } : Obj) = { cls := .type "tuple", data := .seq #[v, .int b t] } := by rw [h]
theorem sub_day {prog : Program} {w : World} {A : Around} {E : Value → Shared → Prop} {s : Shared} {t : Tok} {a k : Int} {Q : Value → Shared → Prop} (h0 : 0 ≤ k) (h7 : k < 7) (X : (hd.heap_39 w.params).In s.heap)
    (h : Q (.int (a - k) s.toks) { s with toks := s.toks + 1 }) : wpAny (model prog w) A (binaryOp .Sub (.int a t) (.ref (dayA k))) Q E s := by
  have hk : k = 0 ∨ k = 1 ∨ k = 2 ∨ k = 3 ∨ k = 4 ∨ k = 5 ∨ k = 6 := by omega
  rcases hk with rfl | rfl | rfl | rfl | rfl | rfl | rfl <;> exact sub_ref X (by kernel_rfl) (by kernel_rfl) h
def mdI (m : Int) : Int := if m = 2 then 28 else if m = 4 ∨ m = 6 ∨ m = 9 ∨ m = 11 then 30 else 31
theorem mdays_item {prog : Program} {w : World} {A : Around} {E : Value → Shared → Prop} {s : Shared} {u : Tok} {mo : Int} {Q : Value → Shared → Prop} {value slice : Expr} (h1 : 1 ≤ mo) (h2 : mo ≤ 12) (X : (hd.heap_39 w.params).In s.heap)
    (h : ∀ t', Q (.int (mdI mo) t') s)
    (hs : subscripted slice false (.ref 384) (.int mo u) = operate [.ref 384, .int mo u] (getItem (.ref 384) (.int mo u)) := by with_unfolding_all rfl) : wpAny (model prog w) A (subscriptTail value slice (.ref 384) (.int mo u)) Q E s := by
  have hl : (hd.heap_39 w.params).lookup 384 = some ⟨.type "list", none, .seq (List.toArray [.int 0 1048, .int 31 1049, .int 28 1050, .int 31 1051, .int 30 1052, .int 31 1053, .int 30 1054, .int 31 1055, .int 31 1056, .int 30 1057, .int 31 1058, .int 30 1059, .int 31 1060]) 0, #[]⟩ := by kernel_rfl
  have hL := lstK X hl
  have hk : mo = 1 ∨ mo = 2 ∨ mo = 3 ∨ mo = 4 ∨ mo = 5 ∨ mo = 6 ∨ mo = 7 ∨ mo = 8 ∨ mo = 9 ∨ mo = 10 ∨ mo = 11 ∨ mo = 12 := by omega
  refine tail_any hL.typeIs slot_list_getitem.lookup ?_ hs
  rcases hk with rfl | rfl | rfl | rfl | rfl | rfl | rfl | rfl | rfl | rfl | rfl | rfl <;> exact wpAny_getItem_list hL (by omega) (by omega) (by rfl) (h _)
def nthI (n wd y m : Int) : Int := 1 + (wd - fwI y m) % 7 + ((if n = 0 then (if 1 + (wd - fwI y m) % 7 + 28 ≤ mlenI y m then 5 else 4) else n) - 1) * 7
theorem tup3_eq {u v : Value} {a b : Int} {t : Tok} (h : a = b) : ({ cls := .type "tuple", data := .seq #[u, v, .int a t] } : Obj) = { cls := .type "tuple", data := .seq #[u, v, .int b t] } := by rw [h]
theorem drop1 {h₀ h : Heap} {L : Addr} {a b : Addr × Obj} {l : List (Addr × Obj)} (N : News h₀ L h (a :: b :: l)) : News h₀ L h (a :: l) := fun p hp => N p (by
  rcases List.mem_cons.mp hp with rfl | hp
  · exact .head _
  · exact .tail _ (.tail _ hp))
theorem any3 {k : Int} : ([1, 2, 3].any fun x => x == k) = decide (k = 1 ∨ k = 2 ∨ k = 3) := by
  rw [Bool.eq_iff_iff]
  simp only [List.any_cons, List.any_nil, Bool.or_false, Bool.or_eq_true, beq_iff_eq, decide_eq_true_eq]
  constructor <;> (intro h; omega)
/-- what a call of a def gives that raises -/
abbrev ClaimE (w : World) (p : Program) (loose : List Str) (mean : ExcName → Option Value) (mg mb : Str → Option Value) (f : Addr) (d : Nat) (vs : List Value) (X : String) : Prop :=
  ∀ (dp un : Nat) (gd : Option (List Code)) (cn : Str) (cs : Scope) (a : Addr) (ccd : Value) (cl : List (Str × Addr)) (outer : List Env) (A₀ : Around) (base h₀ : Heap) (L : Addr) (m : Str → Option Value) (news : List (Addr × Obj)) (s : Shared) (Q E : Value → Shared → Prop),
    Below A₀ base outer h₀ → Fr h₀ L s.heap m → (hd.heap_39 w.params).In h₀ → News h₀ L s.heap news → Top p loose mean mg mb h₀ → cs.kind = .function → dp + d < recursionLimit → un + 8 * d < cLine →
    (∀ g' e h' tk', Fr h₀ L g' m → RaisedN base (envX cn cs L a ccd cl :: outer) e (.type X) news h' → g'.UpToSlots h' → E (.ref e) { s with heap := h', toks := tk' }) →
    wpAny (model PySem.Challenge.rw_ak5009_01.row.toRowW.prog w) (ktrTop dp un gd cn cs L a ccd cl outer) (call (.ref f) vs) Q E s
theorem raisedN_drop {base : Heap} {l : List Env} {e : Addr} {c : Value} {q : Addr × Obj} {news : List (Addr × Obj)} {h : Heap} (R : RaisedN base l e c (q :: news) h) : RaisedN base l e c news h := by
  obtain ⟨B, a0, h1, h2, h3⟩ := R
  exact ⟨B, a0, h1, fun q hq => h2 q (.tail _ hq), h3⟩
end

section
local macro_rules | `(tactic| walk_at "binaryOp Add float float") => `(tactic| ((refine add_ff (by assumption) (by first | assumption | exact fq_lit_half) (by omega) ?_); intro y' hy'; (try dsimp only)))
local macro_rules | `(tactic| walk_at "binaryOp Sub float float") => `(tactic| ((refine sub_ff (by assumption) (by assumption) (by omega) ?_); intro y' hy'; (try dsimp only)))
local macro_rules | `(tactic| walk_at "binaryOp Add float int") => `(tactic| ((refine add_fi (by assumption) (by omega) (by omega) ?_); intro y' hy'; (try dsimp only)))
local macro_rules | `(tactic| walk_at "binaryOp Sub float int") => `(tactic| ((refine sub_fi (by first | assumption | exact fq_epoch) (by omega) (by omega) ?_); intro y' hy'; (try dsimp only)))
local macro_rules | `(tactic| walk_at "call builtin:math.trunc") => `(tactic| ((refine trunc_w (by assumption) (by omega) ?_); intro r' t' hr'; (try dsimp only)))
local macro_rules | `(tactic| walk_at "call builtin:math.floor") => `(tactic| ((refine floor_w (by first | assumption | exact fl_of_fq (by assumption)) ?_); (try dsimp only)))
local macro_rules | `(tactic| walk_at "binaryOp Div int int") => `(tactic| ((refine div_iw rfl (by decide) (by decide) (by omega) ?_); intro y' hy'; (try dsimp only)))
local macro_rules | `(tactic| walk_at "binaryOp Mod int int") => `(tactic| ((refine mod_p (by decide) ?_); (try dsimp only)))
local macro_rules | `(tactic| walk_at "binaryOp FloorDiv int int") => `(tactic| ((refine fdiv_p (by decide) (PyProof.noPylong_of_log2 (by decide +kernel)) ?_); (try dsimp only)))
local macro_rules | `(tactic| walk_at "my enter") => `(tactic| (unfold Claim; k_fill; intro dp un gd cn cs a ccd cl outer A₀ base h₀ L m news s Q E B F X N T hk hdp hu hret; refine wpAny_call ?_; k_dflt cell_enter; k_steps))
local macro_rules | `(tactic| walk_at "eval Call") => `(tactic| (k_here; (with_reducible show wpAny _ _ (eval (Expr.Call (Expr.Name _ _) _ [] _) _) _ _ _); refine Call_ ?_))
local macro_rules | `(tactic| walk_at "ite") => `(tactic| (first
  | (refine ite_bt ?hb ?_; (case hb => first | assumption | (simp only [decide_eq_true_eq, Bool.not_eq_true', decide_eq_false_iff_not, beq_iff_eq, bne_iff_ne, Bool.and_eq_true, Bool.or_eq_true, beq_eq_false_iff_ne, bne_eq_false_iff_eq]; omega)))
  | (refine ite_bf ?hb ?_; (case hb => first | assumption | (simp only [decide_eq_true_eq, Bool.not_eq_false', decide_eq_false_iff_not, beq_iff_eq, bne_iff_ne, Bool.and_eq_false_iff, Bool.or_eq_false_iff, beq_eq_false_iff_ne, bne_eq_false_iff_eq]; omega)))))
local macro_rules | `(tactic| walk_at "compareOp In int ref") => `(tactic| (k_here; k_dflt (refine' in_tup4 ?F ?X ?l ?i ?_; (case F => k_asm); (case X => k_asm); (case l => k_is); (case i => repeat constructor)); (try dsimp only)))
section
variable {w : World} {p : Program} {loose : List Str} {mean : ExcName → Option Value} {mg mb : Str → Option Value}
theorem jwday_c {x : UInt64} {t : Tok} {n : Int} (hx : Fq x (4 * n + 2)) (hn : n.natAbs < 2 ^ 40) : Claim w p loose mean mg mb 66 1 [.float x t] (fun r => ∃ t', r = .int ((n + 1) % 7) t') := by
  unfold Claim
  w_top off
  k_fill
  intro dp un gd cn cs a ccd cl outer A₀ base h₀ L m news s Q E B F X N T hk hdp hu hret
  refine wpAny_call ?_
  k_dflt cell_enter
  k_steps
  all_goals exact hret _ _ _ (by k_asm) (by k_asm) (ktn_int (by omega))
theorem isleap_c {y : Int} {t : Tok} : Claim w p loose mean mg mb 391 1 [.int y t] (fun r => r = .bool (leapB y)) := by
  unfold Claim
  w_top off
  k_fill
  intro dp un gd cn cs a ccd cl outer A₀ base h₀ L m news s Q E B F X N T hk hdp hu hret
  refine wpAny_call ?_
  k_dflt cell_enter
  k_steps
  all_goals refine hret _ _ _ (by k_asm) (by k_asm) ?_
  all_goals (refine congrArg Value.bool (Bool.eq_iff_iff.mpr ?_); simp only [leapB, decide_eq_true_eq, bne_iff_ne, beq_iff_eq, Bool.false_eq_true, false_iff, true_iff]; omega)
end
end

section
local macro_rules | `(tactic| walk_at "binaryOp Add float float") => `(tactic| ((refine add_ff (by assumption) (by first | assumption | exact fq_lit_half) (by omega) ?_); intro y' hy'; (try dsimp only)))
local macro_rules | `(tactic| walk_at "binaryOp Sub float float") => `(tactic| ((refine sub_ff (by assumption) (by assumption) (by omega) ?_); intro y' hy'; (try dsimp only)))
local macro_rules | `(tactic| walk_at "binaryOp Add float int") => `(tactic| ((refine add_fi (by assumption) (by omega) (by omega) ?_); intro y' hy'; (try dsimp only)))
local macro_rules | `(tactic| walk_at "binaryOp Sub float int") => `(tactic| ((refine sub_fi (by first | assumption | exact fq_epoch) (by omega) (by omega) ?_); intro y' hy'; (try dsimp only)))
local macro_rules | `(tactic| walk_at "call builtin:math.trunc") => `(tactic| ((refine trunc_w (by assumption) (by omega) ?_); intro r' t' hr'; (try dsimp only)))
local macro_rules | `(tactic| walk_at "call builtin:math.floor") => `(tactic| ((refine floor_w (by first | assumption | exact fl_of_fq (by assumption)) ?_); (try dsimp only)))
local macro_rules | `(tactic| walk_at "binaryOp Div int int") => `(tactic| ((refine div_iw rfl (by decide) (by decide) (by omega) ?_); intro y' hy'; (try dsimp only)))
local macro_rules | `(tactic| walk_at "binaryOp Mod int int") => `(tactic| ((refine mod_p (by decide) ?_); (try dsimp only)))
local macro_rules | `(tactic| walk_at "binaryOp FloorDiv int int") => `(tactic| ((refine fdiv_p (by decide) (PyProof.noPylong_of_log2 (by decide +kernel)) ?_); (try dsimp only)))
local macro_rules | `(tactic| walk_at "my enter") => `(tactic| (unfold Claim; k_fill; intro dp un gd cn cs a ccd cl outer A₀ base h₀ L m news s Q E B F X N T hk hdp hu hret; refine wpAny_call ?_; k_dflt cell_enter; k_steps))
local macro_rules | `(tactic| walk_at "eval Call") => `(tactic| (k_here; (with_reducible show wpAny _ _ (eval (Expr.Call (Expr.Name _ _) _ [] _) _) _ _ _); refine Call_ ?_))
local macro_rules | `(tactic| walk_at "ite") => `(tactic| (first
  | (refine ite_bt ?hb ?_; (case hb => first | assumption | (simp only [decide_eq_true_eq, Bool.not_eq_true', decide_eq_false_iff_not, beq_iff_eq, bne_iff_ne, Bool.and_eq_true, Bool.or_eq_true, beq_eq_false_iff_ne, bne_eq_false_iff_eq]; omega)))
  | (refine ite_bf ?hb ?_; (case hb => first | assumption | (simp only [decide_eq_true_eq, Bool.not_eq_false', decide_eq_false_iff_not, beq_iff_eq, bne_iff_ne, Bool.and_eq_false_iff, Bool.or_eq_false_iff, beq_eq_false_iff_ne, bne_eq_false_iff_eq]; omega)))))
local macro_rules | `(tactic| walk_at "compareOp In int ref") => `(tactic| (k_here; k_dflt (refine' in_tup4 ?F ?X ?l ?i ?_; (case F => k_asm); (case X => k_asm); (case l => k_is); (case i => repeat constructor)); (try dsimp only)))
local macro_rules | `(tactic| walk_at "call ref") => `(tactic| (k_here; (with_reducible show wpAny _ _ (call (Value.ref 66) _) _ _ _); k_dflt (refine' jwday_c ?a0 ?a1 _ _ _ _ _ _ _ _ _ _ _ _ _ _ _ _ _ _ ?k1 ?k2 ?k3 ?k4 ?k5 ?kK ?kd ?ku ?_; (case a0 => assumption); (case a1 => omega); (case k1 => k_asm); (case k2 => k_asm); (case k3 => k_asm); (case k4 => k_asm); (case k5 => k_asm); (case kK => first | exact rfl | assumption); (case kd => ktr_room); (case ku => ktr_units)); intro r9 h9 tk9 F9 N9 e9; obtain ⟨t9, e9⟩ := e9; subst e9; (try dsimp only); (try k_sweep); (try k_fold)))
local macro_rules | `(tactic| walk_at "call ref") => `(tactic| (k_here; (with_reducible show wpAny _ _ (call (Value.ref 391) _) _ _ _); k_dflt (refine' isleap_c _ _ _ _ _ _ _ _ _ _ _ _ _ _ _ _ _ _ ?k1 ?k2 ?k3 ?k4 ?k5 ?kK ?kd ?ku ?_; (case k1 => k_asm); (case k2 => k_asm); (case k3 => k_asm); (case k4 => k_asm); (case k5 => k_asm); (case kK => first | exact rfl | assumption); (case kd => ktr_room); (case ku => ktr_units)); intro r9 h9 tk9 F9 N9 e9; subst e9; (try dsimp only); (try k_sweep); (try k_fold)))
section
variable {w : World} {p : Program} {loose : List Str} {mean : ExcName → Option Value} {mg mb : Str → Option Value}
theorem legal_g_c {y m d : Int} {t u v : Tok} (h1 : 1 ≤ m) (h2 : m ≤ 12) (h3 : 1 ≤ d) (h4 : d ≤ mlenI y m) : Claim w p loose mean mg mb 427 3 [.int y t, .int m u, .int d v] (fun r => r = .bool true) := by
  unfold Claim
  w_top off
  k_fill
  intro dp un gd cn cs a ccd cl outer A₀ base h₀ L mm news s Q E B F X N T hk hdp hu hret
  replace h4 := mlen_cases h4
  refine wpAny_call ?_
  k_dflt cell_enter
  rcases h4 with ⟨h5, h6, h7⟩ | ⟨h5, h6, h7⟩ | ⟨h5, h6, h7⟩ | ⟨h5, h6, h7, h8, h9, h10⟩
  all_goals k_steps
  all_goals exact hret _ _ _ (by k_asm) (by k_asm) rfl
end
end

section
local macro_rules | `(tactic| walk_at "binaryOp Add float float") => `(tactic| ((refine add_ff (by assumption) (by first | assumption | exact fq_lit_half) (by omega) ?_); intro y' hy'; (try dsimp only)))
local macro_rules | `(tactic| walk_at "binaryOp Sub float float") => `(tactic| ((refine sub_ff (by assumption) (by assumption) (by omega) ?_); intro y' hy'; (try dsimp only)))
local macro_rules | `(tactic| walk_at "binaryOp Add float int") => `(tactic| ((refine add_fi (by assumption) (by omega) (by omega) ?_); intro y' hy'; (try dsimp only)))
local macro_rules | `(tactic| walk_at "binaryOp Sub float int") => `(tactic| ((refine sub_fi (by first | assumption | exact fq_epoch) (by omega) (by omega) ?_); intro y' hy'; (try dsimp only)))
local macro_rules | `(tactic| walk_at "call builtin:math.trunc") => `(tactic| ((refine trunc_w (by assumption) (by omega) ?_); intro r' t' hr'; (try dsimp only)))
local macro_rules | `(tactic| walk_at "call builtin:math.floor") => `(tactic| ((refine floor_w (by first | assumption | exact fl_of_fq (by assumption)) ?_); (try dsimp only)))
local macro_rules | `(tactic| walk_at "binaryOp Div int int") => `(tactic| ((refine div_iw rfl (by decide) (by decide) (by omega) ?_); intro y' hy'; (try dsimp only)))
local macro_rules | `(tactic| walk_at "binaryOp Mod int int") => `(tactic| ((refine mod_p (by decide) ?_); (try dsimp only)))
local macro_rules | `(tactic| walk_at "binaryOp FloorDiv int int") => `(tactic| ((refine fdiv_p (by decide) (PyProof.noPylong_of_log2 (by decide +kernel)) ?_); (try dsimp only)))
local macro_rules | `(tactic| walk_at "my enter") => `(tactic| (unfold Claim; k_fill; intro dp un gd cn cs a ccd cl outer A₀ base h₀ L m news s Q E B F X N T hk hdp hu hret; refine wpAny_call ?_; k_dflt cell_enter; k_steps))
local macro_rules | `(tactic| walk_at "eval Call") => `(tactic| (k_here; (with_reducible show wpAny _ _ (eval (Expr.Call (Expr.Name _ _) _ [] _) _) _ _ _); refine Call_ ?_))
local macro_rules | `(tactic| walk_at "ite") => `(tactic| (first
  | (refine ite_bt ?hb ?_; (case hb => first | assumption | (simp only [decide_eq_true_eq, Bool.not_eq_true', decide_eq_false_iff_not, beq_iff_eq, bne_iff_ne, Bool.and_eq_true, Bool.or_eq_true, beq_eq_false_iff_ne, bne_eq_false_iff_eq]; omega)))
  | (refine ite_bf ?hb ?_; (case hb => first | assumption | (simp only [decide_eq_true_eq, Bool.not_eq_false', decide_eq_false_iff_not, beq_iff_eq, bne_iff_ne, Bool.and_eq_false_iff, Bool.or_eq_false_iff, beq_eq_false_iff_ne, bne_eq_false_iff_eq]; omega)))))
local macro_rules | `(tactic| walk_at "compareOp In int ref") => `(tactic| (k_here; k_dflt (refine' in_tup4 ?F ?X ?l ?i ?_; (case F => k_asm); (case X => k_asm); (case l => k_is); (case i => repeat constructor)); (try dsimp only)))
local macro_rules | `(tactic| walk_at "call ref") => `(tactic| (k_here; (with_reducible show wpAny _ _ (call (Value.ref 66) _) _ _ _); k_dflt (refine' jwday_c ?a0 ?a1 _ _ _ _ _ _ _ _ _ _ _ _ _ _ _ _ _ _ ?k1 ?k2 ?k3 ?k4 ?k5 ?kK ?kd ?ku ?_; (case a0 => assumption); (case a1 => omega); (case k1 => k_asm); (case k2 => k_asm); (case k3 => k_asm); (case k4 => k_asm); (case k5 => k_asm); (case kK => first | exact rfl | assumption); (case kd => ktr_room); (case ku => ktr_units)); intro r9 h9 tk9 F9 N9 e9; obtain ⟨t9, e9⟩ := e9; subst e9; (try dsimp only); (try k_sweep); (try k_fold)))
local macro_rules | `(tactic| walk_at "call ref") => `(tactic| (k_here; (with_reducible show wpAny _ _ (call (Value.ref 391) _) _ _ _); k_dflt (refine' isleap_c _ _ _ _ _ _ _ _ _ _ _ _ _ _ _ _ _ _ ?k1 ?k2 ?k3 ?k4 ?k5 ?kK ?kd ?ku ?_; (case k1 => k_asm); (case k2 => k_asm); (case k3 => k_asm); (case k4 => k_asm); (case k5 => k_asm); (case kK => first | exact rfl | assumption); (case kd => ktr_room); (case ku => ktr_units)); intro r9 h9 tk9 F9 N9 e9; subst e9; (try dsimp only); (try k_sweep); (try k_fold)))
local macro_rules | `(tactic| walk_at "call ref") => `(tactic| (k_here; (with_reducible show wpAny _ _ (call (Value.ref 427) _) _ _ _); k_dflt (refine' legal_g_c ?a0 ?a1 ?a2 ?a3 _ _ _ _ _ _ _ _ _ _ _ _ _ _ _ _ _ _ ?k1 ?k2 ?k3 ?k4 ?k5 ?kK ?kd ?ku ?_; (case a0 => omega); (case a1 => omega); (case a2 => omega); (case a3 => omega); (case k1 => k_asm); (case k2 => k_asm); (case k3 => k_asm); (case k4 => k_asm); (case k5 => k_asm); (case kK => first | exact rfl | assumption); (case kd => ktr_room); (case ku => ktr_units)); intro r9 h9 tk9 F9 N9 e9; subst e9; (try dsimp only); (try k_sweep); (try k_fold)))
local macro_rules | `(tactic| walk_at "binaryOp Div int int") => `(tactic| ((refine div_12 rfl (by omega) (by omega) ?_); intro y' hy'; (try dsimp only)))
local macro_rules | `(tactic| walk_at "binaryOp Add float int") => `(tactic| ((refine add_m1 (by assumption) (by omega) (by omega) ?_); intro y' hy'; (try dsimp only)))
local macro_rules | `(tactic| walk_at "binaryOp Add float int") => `(tactic| ((refine add_m2 (by assumption) (by omega) (by omega) (by omega) (by omega) (by omega) (by omega) ?_); intro y' hy'; (try dsimp only)))
section
variable {w : World} {p : Program} {loose : List Str} {mean : ExcName → Option Value} {mg mb : Str → Option Value}
theorem to_jd_g_c {y m d : Int} {t u v : Tok} (hy1 : -10000010 < y) (hy2 : y < 10000010) (h1 : 1 ≤ m) (h2 : m ≤ 12) (h3 : 1 ≤ d) (h4 : d ≤ mlenI y m) : Claim w p loose mean mg mb 434 5 [.int y t, .int m u, .int d v] (fun r => ∃ z t', r = .float z t' ∧ Fq z (4 * gN y m d + 2)) := by
  unfold Claim
  w_top off
  k_fill
  intro dp un gd cn cs a ccd cl outer A₀ base h₀ L mm news s Q E B F X N T hk hdp hu hret
  have hd31 := mlen_b y m
  refine wpAny_call ?_
  k_dflt cell_enter
  k_steps
  all_goals refine hret _ _ _ (by k_asm) (by k_asm) ⟨_, _, rfl, ?_⟩
  all_goals refine fq_cast (by assumption) ?_
  all_goals (unfold gN adjI; (repeat' split) <;> first | omega | contradiction | (exfalso; simp_all; done))
end
end

section
local macro_rules | `(tactic| walk_at "binaryOp Add float float") => `(tactic| ((refine add_ff (by assumption) (by first | assumption | exact fq_lit_half) (by omega) ?_); intro y' hy'; (try dsimp only)))
local macro_rules | `(tactic| walk_at "binaryOp Sub float float") => `(tactic| ((refine sub_ff (by assumption) (by assumption) (by omega) ?_); intro y' hy'; (try dsimp only)))
local macro_rules | `(tactic| walk_at "binaryOp Add float int") => `(tactic| ((refine add_fi (by assumption) (by omega) (by omega) ?_); intro y' hy'; (try dsimp only)))
local macro_rules | `(tactic| walk_at "binaryOp Sub float int") => `(tactic| ((refine sub_fi (by first | assumption | exact fq_epoch) (by omega) (by omega) ?_); intro y' hy'; (try dsimp only)))
local macro_rules | `(tactic| walk_at "call builtin:math.trunc") => `(tactic| ((refine trunc_w (by assumption) (by omega) ?_); intro r' t' hr'; (try dsimp only)))
local macro_rules | `(tactic| walk_at "call builtin:math.floor") => `(tactic| ((refine floor_w (by first | assumption | exact fl_of_fq (by assumption)) ?_); (try dsimp only)))
local macro_rules | `(tactic| walk_at "binaryOp Div int int") => `(tactic| ((refine div_iw rfl (by decide) (by decide) (by omega) ?_); intro y' hy'; (try dsimp only)))
local macro_rules | `(tactic| walk_at "binaryOp Mod int int") => `(tactic| ((refine mod_p (by decide) ?_); (try dsimp only)))
local macro_rules | `(tactic| walk_at "binaryOp FloorDiv int int") => `(tactic| ((refine fdiv_p (by decide) (PyProof.noPylong_of_log2 (by decide +kernel)) ?_); (try dsimp only)))
local macro_rules | `(tactic| walk_at "my enter") => `(tactic| (unfold Claim; k_fill; intro dp un gd cn cs a ccd cl outer A₀ base h₀ L m news s Q E B F X N T hk hdp hu hret; refine wpAny_call ?_; k_dflt cell_enter; k_steps))
local macro_rules | `(tactic| walk_at "eval Call") => `(tactic| (k_here; (with_reducible show wpAny _ _ (eval (Expr.Call (Expr.Name _ _) _ [] _) _) _ _ _); refine Call_ ?_))
local macro_rules | `(tactic| walk_at "ite") => `(tactic| (first
  | (refine ite_bt ?hb ?_; (case hb => first | assumption | (simp only [decide_eq_true_eq, Bool.not_eq_true', decide_eq_false_iff_not, beq_iff_eq, bne_iff_ne, Bool.and_eq_true, Bool.or_eq_true, beq_eq_false_iff_ne, bne_eq_false_iff_eq]; omega)))
  | (refine ite_bf ?hb ?_; (case hb => first | assumption | (simp only [decide_eq_true_eq, Bool.not_eq_false', decide_eq_false_iff_not, beq_iff_eq, bne_iff_ne, Bool.and_eq_false_iff, Bool.or_eq_false_iff, beq_eq_false_iff_ne, bne_eq_false_iff_eq]; omega)))))
local macro_rules | `(tactic| walk_at "compareOp In int ref") => `(tactic| (k_here; k_dflt (refine' in_tup4 ?F ?X ?l ?i ?_; (case F => k_asm); (case X => k_asm); (case l => k_is); (case i => repeat constructor)); (try dsimp only)))
section
variable {w : World} {p : Program} {loose : List Str} {mean : ExcName → Option Value} {mg mb : Str → Option Value}
theorem leap_j_c {y : Int} {t : Tok} : Claim w p loose mean mg mb 463 1 [.int y t] (fun r => r = .bool (decide (y % 4 = 0))) := by
  unfold Claim
  w_top off
  k_fill
  intro dp un gd cn cs a ccd cl outer A₀ base h₀ L m news s Q E B F X N T hk hdp hu hret
  refine wpAny_call ?_
  k_dflt cell_enter
  k_steps
  all_goals refine hret _ _ _ (by k_asm) (by k_asm) ?_
  all_goals (refine congrArg Value.bool (Bool.eq_iff_iff.mpr ?_); simp only [decide_eq_true_eq, beq_iff_eq])
end
end

section
local macro_rules | `(tactic| walk_at "binaryOp Add float float") => `(tactic| ((refine add_ff (by assumption) (by first | assumption | exact fq_lit_half) (by omega) ?_); intro y' hy'; (try dsimp only)))
local macro_rules | `(tactic| walk_at "binaryOp Sub float float") => `(tactic| ((refine sub_ff (by assumption) (by assumption) (by omega) ?_); intro y' hy'; (try dsimp only)))
local macro_rules | `(tactic| walk_at "binaryOp Add float int") => `(tactic| ((refine add_fi (by assumption) (by omega) (by omega) ?_); intro y' hy'; (try dsimp only)))
local macro_rules | `(tactic| walk_at "binaryOp Sub float int") => `(tactic| ((refine sub_fi (by first | assumption | exact fq_epoch) (by omega) (by omega) ?_); intro y' hy'; (try dsimp only)))
local macro_rules | `(tactic| walk_at "call builtin:math.trunc") => `(tactic| ((refine trunc_w (by assumption) (by omega) ?_); intro r' t' hr'; (try dsimp only)))
local macro_rules | `(tactic| walk_at "call builtin:math.floor") => `(tactic| ((refine floor_w (by first | assumption | exact fl_of_fq (by assumption)) ?_); (try dsimp only)))
local macro_rules | `(tactic| walk_at "binaryOp Div int int") => `(tactic| ((refine div_iw rfl (by decide) (by decide) (by omega) ?_); intro y' hy'; (try dsimp only)))
local macro_rules | `(tactic| walk_at "binaryOp Mod int int") => `(tactic| ((refine mod_p (by decide) ?_); (try dsimp only)))
local macro_rules | `(tactic| walk_at "binaryOp FloorDiv int int") => `(tactic| ((refine fdiv_p (by decide) (PyProof.noPylong_of_log2 (by decide +kernel)) ?_); (try dsimp only)))
local macro_rules | `(tactic| walk_at "my enter") => `(tactic| (unfold Claim; k_fill; intro dp un gd cn cs a ccd cl outer A₀ base h₀ L m news s Q E B F X N T hk hdp hu hret; refine wpAny_call ?_; k_dflt cell_enter; k_steps))
local macro_rules | `(tactic| walk_at "eval Call") => `(tactic| (k_here; (with_reducible show wpAny _ _ (eval (Expr.Call (Expr.Name _ _) _ [] _) _) _ _ _); refine Call_ ?_))
local macro_rules | `(tactic| walk_at "ite") => `(tactic| (first
  | (refine ite_bt ?hb ?_; (case hb => first | assumption | (simp only [decide_eq_true_eq, Bool.not_eq_true', decide_eq_false_iff_not, beq_iff_eq, bne_iff_ne, Bool.and_eq_true, Bool.or_eq_true, beq_eq_false_iff_ne, bne_eq_false_iff_eq]; omega)))
  | (refine ite_bf ?hb ?_; (case hb => first | assumption | (simp only [decide_eq_true_eq, Bool.not_eq_false', decide_eq_false_iff_not, beq_iff_eq, bne_iff_ne, Bool.and_eq_false_iff, Bool.or_eq_false_iff, beq_eq_false_iff_ne, bne_eq_false_iff_eq]; omega)))))
local macro_rules | `(tactic| walk_at "compareOp In int ref") => `(tactic| (k_here; k_dflt (refine' in_tup4 ?F ?X ?l ?i ?_; (case F => k_asm); (case X => k_asm); (case l => k_is); (case i => repeat constructor)); (try dsimp only)))
local macro_rules | `(tactic| walk_at "call ref") => `(tactic| (k_here; (with_reducible show wpAny _ _ (call (Value.ref 463) _) _ _ _); k_dflt (refine' leap_j_c _ _ _ _ _ _ _ _ _ _ _ _ _ _ _ _ _ _ ?k1 ?k2 ?k3 ?k4 ?k5 ?kK ?kd ?ku ?_; (case k1 => k_asm); (case k2 => k_asm); (case k3 => k_asm); (case k4 => k_asm); (case k5 => k_asm); (case kK => first | exact rfl | assumption); (case kd => ktr_room); (case ku => ktr_units)); intro r9 h9 tk9 F9 N9 e9; subst e9; (try dsimp only); (try k_sweep); (try k_fold)))
section
variable {w : World} {p : Program} {loose : List Str} {mean : ExcName → Option Value} {mg mb : Str → Option Value}
theorem mlen_j_c {y m : Int} {t u : Tok} : Claim w p loose mean mg mb 470 3 [.int y t, .int m u] (fun r => ∃ t', r = .int (mlenJ y m) t') := by
  unfold Claim
  w_top off
  k_fill
  intro dp un gd cn cs a ccd cl outer A₀ base h₀ L mm news s Q E B F X N T hk hdp hu hret
  refine wpAny_call ?_
  k_dflt cell_enter
  k_steps
  all_goals refine hret _ _ _ (by k_asm) (by k_asm) (ktn_int ?_)
  all_goals (unfold mlenJ; try simp only [decide_eq_true_eq, beq_iff_eq, decide_eq_false_iff_not] at *)
  all_goals ((repeat' split) <;> first | omega | contradiction)
end
end

section
local macro_rules | `(tactic| walk_at "my pad") => `(tactic| skip)
local macro_rules | `(tactic| walk_at "binaryOp Add float float") => `(tactic| ((refine add_ff (by assumption) (by first | assumption | exact fq_lit_half) (by omega) ?_); intro y' hy'; (try dsimp only)))
local macro_rules | `(tactic| walk_at "binaryOp Sub float float") => `(tactic| ((refine sub_ff (by assumption) (by assumption) (by omega) ?_); intro y' hy'; (try dsimp only)))
local macro_rules | `(tactic| walk_at "binaryOp Add float int") => `(tactic| ((refine add_fi (by assumption) (by omega) (by omega) ?_); intro y' hy'; (try dsimp only)))
local macro_rules | `(tactic| walk_at "binaryOp Sub float int") => `(tactic| ((refine sub_fi (by first | assumption | exact fq_epoch) (by omega) (by omega) ?_); intro y' hy'; (try dsimp only)))
local macro_rules | `(tactic| walk_at "call builtin:math.trunc") => `(tactic| ((refine trunc_w (by assumption) (by omega) ?_); intro r' t' hr'; (try dsimp only)))
local macro_rules | `(tactic| walk_at "call builtin:math.floor") => `(tactic| ((refine floor_w (by first | assumption | exact fl_of_fq (by assumption)) ?_); (try dsimp only)))
local macro_rules | `(tactic| walk_at "binaryOp Div int int") => `(tactic| ((refine div_iw rfl (by decide) (by decide) (by omega) ?_); intro y' hy'; (try dsimp only)))
local macro_rules | `(tactic| walk_at "binaryOp Mod int int") => `(tactic| ((refine mod_p (by decide) ?_); (try dsimp only)))
local macro_rules | `(tactic| walk_at "binaryOp FloorDiv int int") => `(tactic| ((refine fdiv_p (by decide) (PyProof.noPylong_of_log2 (by decide +kernel)) ?_); (try dsimp only)))
local macro_rules | `(tactic| walk_at "my enter") => `(tactic| (unfold Claim; k_fill; intro dp un gd cn cs a ccd cl outer A₀ base h₀ L m news s Q E B F X N T hk hdp hu hret; refine wpAny_call ?_; k_dflt cell_enter; k_steps))
local macro_rules | `(tactic| walk_at "eval Call") => `(tactic| (k_here; (with_reducible show wpAny _ _ (eval (Expr.Call (Expr.Name _ _) _ [] _) _) _ _ _); refine Call_ ?_))
local macro_rules | `(tactic| walk_at "ite") => `(tactic| (first
  | (refine ite_bt ?hb ?_; (case hb => first | assumption | (simp only [decide_eq_true_eq, Bool.not_eq_true', decide_eq_false_iff_not, beq_iff_eq, bne_iff_ne, Bool.and_eq_true, Bool.or_eq_true, beq_eq_false_iff_ne, bne_eq_false_iff_eq]; omega)))
  | (refine ite_bf ?hb ?_; (case hb => first | assumption | (simp only [decide_eq_true_eq, Bool.not_eq_false', decide_eq_false_iff_not, beq_iff_eq, bne_iff_ne, Bool.and_eq_false_iff, Bool.or_eq_false_iff, beq_eq_false_iff_ne, bne_eq_false_iff_eq]; omega)))))
local macro_rules | `(tactic| walk_at "compareOp In int ref") => `(tactic| (k_here; k_dflt (refine' in_tup4 ?F ?X ?l ?i ?_; (case F => k_asm); (case X => k_asm); (case l => k_is); (case i => repeat constructor)); (try dsimp only)))
local macro_rules | `(tactic| walk_at "call ref") => `(tactic| (k_here; (with_reducible show wpAny _ _ (call (Value.ref 470) _) _ _ _); k_dflt (refine' mlen_j_c _ _ _ _ _ _ _ _ _ _ _ _ _ _ _ _ _ _ ?k1 ?k2 ?k3 ?k4 ?k5 ?kK ?kd ?ku ?_; (case k1 => k_asm); (case k2 => k_asm); (case k3 => k_asm); (case k4 => k_asm); (case k5 => k_asm); (case kK => first | exact rfl | assumption); (case kd => ktr_room); (case ku => ktr_units)); intro r9 h9 tk9 F9 N9 e9; obtain ⟨t9, e9⟩ := e9; subst e9; (try dsimp only); (try k_sweep); (try k_fold)))
section
variable {w : World} {p : Program} {loose : List Str} {mean : ExcName → Option Value} {mg mb : Str → Option Value}
theorem legal_j_c {y m d : Int} {t u v : Tok} (h3 : 1 ≤ d) (h4 : d ≤ mlenJ y m) : Claim w p loose mean mg mb 477 5 [.int y t, .int m u, .int d v] (fun r => r = .bool true) := by
  unfold Claim
  w_top off
  k_fill
  intro dp un gd cn cs a ccd cl outer A₀ base h₀ L mm news s Q E B F X N T hk hdp hu hret
  refine wpAny_call ?_
  k_dflt cell_enter
  k_steps
  all_goals exact hret _ _ _ (by k_asm) (by k_asm) rfl
end
end

section
local macro_rules | `(tactic| walk_at "binaryOp Add float float") => `(tactic| ((refine add_ff (by assumption) (by first | assumption | exact fq_lit_half) (by omega) ?_); intro y' hy'; (try dsimp only)))
local macro_rules | `(tactic| walk_at "binaryOp Sub float float") => `(tactic| ((refine sub_ff (by assumption) (by assumption) (by omega) ?_); intro y' hy'; (try dsimp only)))
local macro_rules | `(tactic| walk_at "binaryOp Add float int") => `(tactic| ((refine add_fi (by assumption) (by omega) (by omega) ?_); intro y' hy'; (try dsimp only)))
local macro_rules | `(tactic| walk_at "binaryOp Sub float int") => `(tactic| ((refine sub_fi (by first | assumption | exact fq_epoch) (by omega) (by omega) ?_); intro y' hy'; (try dsimp only)))
local macro_rules | `(tactic| walk_at "call builtin:math.trunc") => `(tactic| ((refine trunc_w (by assumption) (by omega) ?_); intro r' t' hr'; (try dsimp only)))
local macro_rules | `(tactic| walk_at "call builtin:math.floor") => `(tactic| ((refine floor_w (by first | assumption | exact fl_of_fq (by assumption)) ?_); (try dsimp only)))
local macro_rules | `(tactic| walk_at "binaryOp Div int int") => `(tactic| ((refine div_iw rfl (by decide) (by decide) (by omega) ?_); intro y' hy'; (try dsimp only)))
local macro_rules | `(tactic| walk_at "binaryOp Mod int int") => `(tactic| ((refine mod_p (by decide) ?_); (try dsimp only)))
local macro_rules | `(tactic| walk_at "binaryOp FloorDiv int int") => `(tactic| ((refine fdiv_p (by decide) (PyProof.noPylong_of_log2 (by decide +kernel)) ?_); (try dsimp only)))
local macro_rules | `(tactic| walk_at "my enter") => `(tactic| (unfold Claim; k_fill; intro dp un gd cn cs a ccd cl outer A₀ base h₀ L m news s Q E B F X N T hk hdp hu hret; refine wpAny_call ?_; k_dflt cell_enter; k_steps))
local macro_rules | `(tactic| walk_at "eval Call") => `(tactic| (k_here; (with_reducible show wpAny _ _ (eval (Expr.Call (Expr.Name _ _) _ [] _) _) _ _ _); refine Call_ ?_))
local macro_rules | `(tactic| walk_at "ite") => `(tactic| (first
  | (refine ite_bt ?hb ?_; (case hb => first | assumption | (simp only [decide_eq_true_eq, Bool.not_eq_true', decide_eq_false_iff_not, beq_iff_eq, bne_iff_ne, Bool.and_eq_true, Bool.or_eq_true, beq_eq_false_iff_ne, bne_eq_false_iff_eq]; omega)))
  | (refine ite_bf ?hb ?_; (case hb => first | assumption | (simp only [decide_eq_true_eq, Bool.not_eq_false', decide_eq_false_iff_not, beq_iff_eq, bne_iff_ne, Bool.and_eq_false_iff, Bool.or_eq_false_iff, beq_eq_false_iff_ne, bne_eq_false_iff_eq]; omega)))))
local macro_rules | `(tactic| walk_at "compareOp In int ref") => `(tactic| (k_here; k_dflt (refine' in_tup4 ?F ?X ?l ?i ?_; (case F => k_asm); (case X => k_asm); (case l => k_is); (case i => repeat constructor)); (try dsimp only)))
local macro_rules | `(tactic| walk_at "binaryOp Mult float int") => `(tactic| ((first | refine mul_306 (by omega) (by omega) ?_ | refine mul_fi fq_365 (by decide) (by omega) (by omega) ?_); intro y' hy'; (try dsimp only)))
local macro_rules | `(tactic| walk_at "binaryOp Sub int float") => `(tactic| ((refine sub_if fq_1524 (by omega) (by omega) ?_); intro y' hy'; (try dsimp only)))
local macro_rules | `(tactic| walk_at "call ref") => `(tactic| (k_here; (with_reducible show wpAny _ _ (call (Value.ref 477) _) _ _ _); k_dflt (refine' legal_j_c ?a0 ?a1 _ _ _ _ _ _ _ _ _ _ _ _ _ _ _ _ _ _ ?k1 ?k2 ?k3 ?k4 ?k5 ?kK ?kd ?ku ?_; (case a0 => omega); (case a1 => assumption); (case k1 => k_asm); (case k2 => k_asm); (case k3 => k_asm); (case k4 => k_asm); (case k5 => k_asm); (case kK => first | exact rfl | assumption); (case kd => ktr_room); (case ku => ktr_units)); intro r9 h9 tk9 F9 N9 e9; subst e9; (try dsimp only); (try k_sweep); (try k_fold)))
section
variable {w : World} {p : Program} {loose : List Str} {mean : ExcName → Option Value} {mg mb : Str → Option Value}
theorem to_jd_j_c {y m d : Int} {t u v : Tok} (hy1 : -10000010 < y) (hy2 : y < 10000010) (h1 : 1 ≤ m) (h2 : m ≤ 12) (h3 : 1 ≤ d) (h4 : d ≤ mlenJ y m) (h5 : d ≤ 31) : Claim w p loose mean mg mb 484 7 [.int y t, .int m u, .int d v] (fun r => ∃ z t', r = .float z t' ∧ Fq z (4 * jN y m d + 2)) := by
  unfold Claim
  w_top off
  k_fill
  intro dp un gd cn cs a ccd cl outer A₀ base h₀ L mm news s Q E B F X N T hk hdp hu hret
  refine wpAny_call ?_
  k_dflt cell_enter
  k_steps
  all_goals refine hret _ _ _ (by k_asm) (by k_asm) ⟨_, _, rfl, ?_⟩
  all_goals refine fq_cast (by assumption) ?_
  all_goals (unfold jN; (repeat' split) <;> first | omega | contradiction)
end
end

section
local macro_rules | `(tactic| walk_at "binaryOp Add float float") => `(tactic| ((refine add_ff (by assumption) (by first | assumption | exact fq_lit_half) (by omega) ?_); intro y' hy'; (try dsimp only)))
local macro_rules | `(tactic| walk_at "binaryOp Sub float float") => `(tactic| ((refine sub_ff (by assumption) (by assumption) (by omega) ?_); intro y' hy'; (try dsimp only)))
local macro_rules | `(tactic| walk_at "binaryOp Add float int") => `(tactic| ((refine add_fi (by assumption) (by omega) (by omega) ?_); intro y' hy'; (try dsimp only)))
local macro_rules | `(tactic| walk_at "binaryOp Sub float int") => `(tactic| ((refine sub_fi (by first | assumption | exact fq_epoch) (by omega) (by omega) ?_); intro y' hy'; (try dsimp only)))
local macro_rules | `(tactic| walk_at "call builtin:math.trunc") => `(tactic| ((refine trunc_w (by assumption) (by omega) ?_); intro r' t' hr'; (try dsimp only)))
local macro_rules | `(tactic| walk_at "call builtin:math.floor") => `(tactic| ((refine floor_w (by first | assumption | exact fl_of_fq (by assumption)) ?_); (try dsimp only)))
local macro_rules | `(tactic| walk_at "binaryOp Div int int") => `(tactic| ((refine div_iw rfl (by decide) (by decide) (by omega) ?_); intro y' hy'; (try dsimp only)))
local macro_rules | `(tactic| walk_at "binaryOp Mod int int") => `(tactic| ((refine mod_p (by decide) ?_); (try dsimp only)))
local macro_rules | `(tactic| walk_at "binaryOp FloorDiv int int") => `(tactic| ((refine fdiv_p (by decide) (PyProof.noPylong_of_log2 (by decide +kernel)) ?_); (try dsimp only)))
local macro_rules | `(tactic| walk_at "my enter") => `(tactic| (unfold Claim; k_fill; intro dp un gd cn cs a ccd cl outer A₀ base h₀ L m news s Q E B F X N T hk hdp hu hret; refine wpAny_call ?_; k_dflt cell_enter; k_steps))
local macro_rules | `(tactic| walk_at "eval Call") => `(tactic| (k_here; (with_reducible show wpAny _ _ (eval (Expr.Call (Expr.Name _ _) _ [] _) _) _ _ _); refine Call_ ?_))
local macro_rules | `(tactic| walk_at "ite") => `(tactic| (first
  | (refine ite_bt ?hb ?_; (case hb => first | assumption | (simp only [decide_eq_true_eq, Bool.not_eq_true', decide_eq_false_iff_not, beq_iff_eq, bne_iff_ne, Bool.and_eq_true, Bool.or_eq_true, beq_eq_false_iff_ne, bne_eq_false_iff_eq]; omega)))
  | (refine ite_bf ?hb ?_; (case hb => first | assumption | (simp only [decide_eq_true_eq, Bool.not_eq_false', decide_eq_false_iff_not, beq_iff_eq, bne_iff_ne, Bool.and_eq_false_iff, Bool.or_eq_false_iff, beq_eq_false_iff_ne, bne_eq_false_iff_eq]; omega)))))
local macro_rules | `(tactic| walk_at "compareOp In int ref") => `(tactic| (k_here; k_dflt (refine' in_tup4 ?F ?X ?l ?i ?_; (case F => k_asm); (case X => k_asm); (case l => k_is); (case i => repeat constructor)); (try dsimp only)))
local macro_rules | `(tactic| walk_at "call ref") => `(tactic| (k_here; (with_reducible show wpAny _ _ (call (Value.ref 66) _) _ _ _); k_dflt (refine' jwday_c ?a0 ?a1 _ _ _ _ _ _ _ _ _ _ _ _ _ _ _ _ _ _ ?k1 ?k2 ?k3 ?k4 ?k5 ?kK ?kd ?ku ?_; (case a0 => assumption); (case a1 => omega); (case k1 => k_asm); (case k2 => k_asm); (case k3 => k_asm); (case k4 => k_asm); (case k5 => k_asm); (case kK => first | exact rfl | assumption); (case kd => ktr_room); (case ku => ktr_units)); intro r9 h9 tk9 F9 N9 e9; obtain ⟨t9, e9⟩ := e9; subst e9; (try dsimp only); (try k_sweep); (try k_fold)))
local macro_rules | `(tactic| walk_at "call ref") => `(tactic| (k_here; (with_reducible show wpAny _ _ (call (Value.ref 391) _) _ _ _); k_dflt (refine' isleap_c _ _ _ _ _ _ _ _ _ _ _ _ _ _ _ _ _ _ ?k1 ?k2 ?k3 ?k4 ?k5 ?kK ?kd ?ku ?_; (case k1 => k_asm); (case k2 => k_asm); (case k3 => k_asm); (case k4 => k_asm); (case k5 => k_asm); (case kK => first | exact rfl | assumption); (case kd => ktr_room); (case ku => ktr_units)); intro r9 h9 tk9 F9 N9 e9; subst e9; (try dsimp only); (try k_sweep); (try k_fold)))
local macro_rules | `(tactic| walk_at "call type:datetime.date") => `(tactic| (k_here; k_dflt (refine' call_date ?k1 ?k2 ?h1 ?h2 ?h3 ?h4 ?_; (case k1 => k_asm); (case k2 => k_asm); (case h1 => omega); (case h2 => omega); (case h3 => omega); (case h4 => omega)); intro d' h' F' N' l1; (try k_lt l1); (try dsimp only); (try k_sweep)))
local macro_rules | `(tactic| walk_at "getMethod ref") => `(tactic| (k_here; (with_reducible show wpAny _ _ (getMethod (Value.ref _) (PySem.Str.ofString "weekday") _) _ _ _); k_dflt (refine' getMethod_date ?k1 ?k2 ?_; (case k1 => k_asm); (case k2 => k_mem)); (try dsimp only)))
local macro_rules | `(tactic| walk_at "call builtin:datetime.date.weekday") => `(tactic| (k_here; k_dflt (refine' call_weekday ?k1 ?k2 ?_; (case k1 => k_asm); (case k2 => k_mem)); rw [dow_eq (by omega) (by omega)]; (try rw [dow_cyc]); (try dsimp only)))
local macro_rules | `(tactic| walk_at "subscriptTail") => `(tactic| (k_here; (with_reducible show wpAny _ _ (subscriptTail _ _ (Value.ref 383) (Value.int (fwI _ _) _)) _ _ _); k_dflt (refine' days_item ?F ?X ?l ?a ?b ?_; (case F => k_asm); (case X => k_asm); (case l => k_is); (case a => exact (fw_b _ _).1); (case b => exact (fw_b _ _).2)); (try dsimp only)))
section
variable {w : World} {p : Program} {loose : List Str} {mean : ExcName → Option Value} {mg mb : Str → Option Value}
theorem weekday_c {y m : Int} {t u v : Tok} (h1 : 1 ≤ m) (h2 : m ≤ 12) : Claim w p loose mean mg mb 398 3 [.int y t, .int m u, .int 1 v] (fun r => r = .ref (dayA (fwI y m))) := by
  unfold Claim
  w_top off
  k_fill
  intro dp un gd cn cs a ccd cl outer A₀ base h₀ L mm news s Q E B F X N T hk hdp hu hret
  refine wpAny_call ?_
  k_dflt cell_enter
  k_steps
  all_goals (refine' hret _ _ _ (by k_asm) (cb_drop ?cbN ?cbS) rfl; (case cbN => assumption); (case cbS => exact fun p hp => List.Mem.tail _ hp))
end
end

section
local macro_rules | `(tactic| walk_at "binaryOp Add float float") => `(tactic| ((refine add_ff (by assumption) (by first | assumption | exact fq_lit_half) (by omega) ?_); intro y' hy'; (try dsimp only)))
local macro_rules | `(tactic| walk_at "binaryOp Sub float float") => `(tactic| ((refine sub_ff (by assumption) (by assumption) (by omega) ?_); intro y' hy'; (try dsimp only)))
local macro_rules | `(tactic| walk_at "binaryOp Add float int") => `(tactic| ((refine add_fi (by assumption) (by omega) (by omega) ?_); intro y' hy'; (try dsimp only)))
local macro_rules | `(tactic| walk_at "binaryOp Sub float int") => `(tactic| ((refine sub_fi (by first | assumption | exact fq_epoch) (by omega) (by omega) ?_); intro y' hy'; (try dsimp only)))
local macro_rules | `(tactic| walk_at "call builtin:math.trunc") => `(tactic| ((refine trunc_w (by assumption) (by omega) ?_); intro r' t' hr'; (try dsimp only)))
local macro_rules | `(tactic| walk_at "call builtin:math.floor") => `(tactic| ((refine floor_w (by first | assumption | exact fl_of_fq (by assumption)) ?_); (try dsimp only)))
local macro_rules | `(tactic| walk_at "binaryOp Div int int") => `(tactic| ((refine div_iw rfl (by decide) (by decide) (by omega) ?_); intro y' hy'; (try dsimp only)))
local macro_rules | `(tactic| walk_at "binaryOp Mod int int") => `(tactic| ((refine mod_p (by decide) ?_); (try dsimp only)))
local macro_rules | `(tactic| walk_at "binaryOp FloorDiv int int") => `(tactic| ((refine fdiv_p (by decide) (PyProof.noPylong_of_log2 (by decide +kernel)) ?_); (try dsimp only)))
local macro_rules | `(tactic| walk_at "my enter") => `(tactic| (unfold Claim; k_fill; intro dp un gd cn cs a ccd cl outer A₀ base h₀ L m news s Q E B F X N T hk hdp hu hret; refine wpAny_call ?_; k_dflt cell_enter; k_steps))
local macro_rules | `(tactic| walk_at "eval Call") => `(tactic| (k_here; (with_reducible show wpAny _ _ (eval (Expr.Call (Expr.Name _ _) _ [] _) _) _ _ _); refine Call_ ?_))
local macro_rules | `(tactic| walk_at "ite") => `(tactic| (first
  | (refine ite_bt ?hb ?_; (case hb => first | assumption | (simp only [decide_eq_true_eq, Bool.not_eq_true', decide_eq_false_iff_not, beq_iff_eq, bne_iff_ne, Bool.and_eq_true, Bool.or_eq_true, beq_eq_false_iff_ne, bne_eq_false_iff_eq]; omega)))
  | (refine ite_bf ?hb ?_; (case hb => first | assumption | (simp only [decide_eq_true_eq, Bool.not_eq_false', decide_eq_false_iff_not, beq_iff_eq, bne_iff_ne, Bool.and_eq_false_iff, Bool.or_eq_false_iff, beq_eq_false_iff_ne, bne_eq_false_iff_eq]; omega)))))
local macro_rules | `(tactic| walk_at "compareOp In int ref") => `(tactic| (k_here; k_dflt (refine' in_tup4 ?F ?X ?l ?i ?_; (case F => k_asm); (case X => k_asm); (case l => k_is); (case i => repeat constructor)); (try dsimp only)))
local macro_rules | `(tactic| walk_at "call ref") => `(tactic| (k_here; (with_reducible show wpAny _ _ (call (Value.ref 66) _) _ _ _); k_dflt (refine' jwday_c ?a0 ?a1 _ _ _ _ _ _ _ _ _ _ _ _ _ _ _ _ _ _ ?k1 ?k2 ?k3 ?k4 ?k5 ?kK ?kd ?ku ?_; (case a0 => assumption); (case a1 => omega); (case k1 => k_asm); (case k2 => k_asm); (case k3 => k_asm); (case k4 => k_asm); (case k5 => k_asm); (case kK => first | exact rfl | assumption); (case kd => ktr_room); (case ku => ktr_units)); intro r9 h9 tk9 F9 N9 e9; obtain ⟨t9, e9⟩ := e9; subst e9; (try dsimp only); (try k_sweep); (try k_fold)))
local macro_rules | `(tactic| walk_at "call ref") => `(tactic| (k_here; (with_reducible show wpAny _ _ (call (Value.ref 391) _) _ _ _); k_dflt (refine' isleap_c _ _ _ _ _ _ _ _ _ _ _ _ _ _ _ _ _ _ ?k1 ?k2 ?k3 ?k4 ?k5 ?kK ?kd ?ku ?_; (case k1 => k_asm); (case k2 => k_asm); (case k3 => k_asm); (case k4 => k_asm); (case k5 => k_asm); (case kK => first | exact rfl | assumption); (case kd => ktr_room); (case ku => ktr_units)); intro r9 h9 tk9 F9 N9 e9; subst e9; (try dsimp only); (try k_sweep); (try k_fold)))
local macro_rules | `(tactic| walk_at "compareOp Eq int ref") => `(tactic| (k_here; (with_reducible show wpAny _ _ (compareOp CmpOp.Eq (Value.int _ _) (Value.ref 331)) _ _ _); k_dflt (refine' eq_feb ?hu ?X ?_; (case hu => ktr_units); (case X => k_in)); (try dsimp only)))
local macro_rules | `(tactic| walk_at "binaryOp Sub int ref") => `(tactic| (k_here; (with_reducible show wpAny _ _ (binaryOp Operator.Sub (Value.int _ _) (Value.ref (dayA _))) _ _ _); k_dflt (refine' sub_day ?a ?b ?X ?_; (case a => exact (fw_b _ _).1); (case b => exact (fw_b _ _).2); (case X => k_in)); (try dsimp only)))
local macro_rules | `(tactic| walk_at "subscriptTail") => `(tactic| (k_here; (with_reducible show wpAny _ _ (subscriptTail _ _ (Value.ref 384) (Value.int _ _)) _ _ _); k_dflt (refine' mdays_item ?a ?b ?X ?_; (case a => omega); (case b => omega); (case X => k_in)); intro t'; (try dsimp only)))
local macro_rules | `(tactic| walk_at "call ref") => `(tactic| (k_here; (first | (with_reducible show wpAny _ _ (call (Value.ref 405) _) _ _ _) | (with_reducible show wpAny _ _ (call (Value.ref 412) _) _ _ _)); k_dflt (refine wpAny_call ?_; refine' code_def ?k1 ?k2 ?k3 ?k4 ?k5 ?kA ?kF ?kK ?k6 ?k7 ?k8 ?k9 ?kB ?_ ?c2 ?c3 ?c4 ?c5; (case kA => exact rfl); (case kF => exact rfl); (case kK => first | exact rfl | assumption); (case k1 => k_asm); (case k2 => k_asm); (case k3 => k_asm); (case k4 => k_asm); (case k5 => k_asm); (case k6 => k_is); (case k7 => k_is); (case k8 => ktr_room); (case k9 => exact BindsTo.of_eq rfl); (case c5 => decide); (case kB => exact locs rfl); (case c2 => exact rfl); (case c3 => exact rfl); (case c4 => exact rfl); k_whole; intro g' L' h' FG' F' N' B' X' T'; (try dsimp only); (try k_lift B'); (try k_fold))))
local macro_rules | `(tactic| walk_at "call ref") => `(tactic| (k_here; (with_reducible show wpAny _ _ (call (Value.ref 398) _) _ _ _); k_dflt (refine' weekday_c ?a0 ?a1 _ _ _ _ _ _ _ _ _ _ _ _ _ _ _ _ _ _ ?k1 ?k2 ?k3 ?k4 ?k5 ?kK ?kd ?ku ?_; (case a0 => omega); (case a1 => omega); (case k1 => k_asm); (case k2 => k_asm); (case k3 => k_asm); (case k4 => k_asm); (case k5 => k_asm); (case kK => first | exact rfl | assumption); (case kd => ktr_room); (case ku => ktr_units)); intro r9 h9 tk9 F9 N9 e9; subst e9; (try dsimp only); (try k_sweep); (try k_fold)))
section
variable {w : World} {p : Program} {loose : List Str} {mean : ExcName → Option Value} {mg mb : Str → Option Value}
theorem monthrange_c {y m : Int} {t u : Tok} (h1 : 1 ≤ m) (h2 : m ≤ 12) : ClaimT w p loose mean mg mb 412 5 [.int y t, .int m u] (fun o => ∃ t', o = { cls := .type "tuple", data := .seq #[.ref (dayA (fwI y m)), .int (mlenI y m) t'] }) := by
  unfold ClaimT
  w_top off
  k_fill
  intro dp un gd cn cs a ccd cl outer A₀ base h₀ L mm news s Q E B F X N T hk hdp hu hret
  refine wpAny_call ?_
  k_dflt cell_enter
  k_steps
  all_goals (refine' hret _ _ _ _ (by k_asm) ?cbN ?cbL ⟨_, ?cbE⟩; (case cbN => assumption); (case cbL => assumption); (case cbE => refine' tup_eq ?cbF; (case cbF => (unfold mdI mlenI; (try simp only [decide_eq_true_eq]); (repeat' split) <;> first | omega | contradiction))))
end
end

section
local macro_rules | `(tactic| walk_at "my pad") => `(tactic| skip)
local macro_rules | `(tactic| walk_at "binaryOp Add float float") => `(tactic| ((refine add_ff (by assumption) (by first | assumption | exact fq_lit_half) (by omega) ?_); intro y' hy'; (try dsimp only)))
local macro_rules | `(tactic| walk_at "binaryOp Sub float float") => `(tactic| ((refine sub_ff (by assumption) (by assumption) (by omega) ?_); intro y' hy'; (try dsimp only)))
local macro_rules | `(tactic| walk_at "binaryOp Add float int") => `(tactic| ((refine add_fi (by assumption) (by omega) (by omega) ?_); intro y' hy'; (try dsimp only)))
local macro_rules | `(tactic| walk_at "binaryOp Sub float int") => `(tactic| ((refine sub_fi (by first | assumption | exact fq_epoch) (by omega) (by omega) ?_); intro y' hy'; (try dsimp only)))
local macro_rules | `(tactic| walk_at "call builtin:math.trunc") => `(tactic| ((refine trunc_w (by assumption) (by omega) ?_); intro r' t' hr'; (try dsimp only)))
local macro_rules | `(tactic| walk_at "call builtin:math.floor") => `(tactic| ((refine floor_w (by first | assumption | exact fl_of_fq (by assumption)) ?_); (try dsimp only)))
local macro_rules | `(tactic| walk_at "binaryOp Div int int") => `(tactic| ((refine div_iw rfl (by decide) (by decide) (by omega) ?_); intro y' hy'; (try dsimp only)))
local macro_rules | `(tactic| walk_at "binaryOp Mod int int") => `(tactic| ((refine mod_p (by decide) ?_); (try dsimp only)))
local macro_rules | `(tactic| walk_at "binaryOp FloorDiv int int") => `(tactic| ((refine fdiv_p (by decide) (PyProof.noPylong_of_log2 (by decide +kernel)) ?_); (try dsimp only)))
local macro_rules | `(tactic| walk_at "my enter") => `(tactic| (unfold Claim; k_fill; intro dp un gd cn cs a ccd cl outer A₀ base h₀ L m news s Q E B F X N T hk hdp hu hret; refine wpAny_call ?_; k_dflt cell_enter; k_steps))
local macro_rules | `(tactic| walk_at "eval Call") => `(tactic| (k_here; (with_reducible show wpAny _ _ (eval (Expr.Call (Expr.Name _ _) _ [] _) _) _ _ _); refine Call_ ?_))
local macro_rules | `(tactic| walk_at "ite") => `(tactic| (first
  | (refine ite_bt ?hb ?_; (case hb => first | assumption | (simp only [decide_eq_true_eq, Bool.not_eq_true', decide_eq_false_iff_not, beq_iff_eq, bne_iff_ne, Bool.and_eq_true, Bool.or_eq_true, beq_eq_false_iff_ne, bne_eq_false_iff_eq]; omega)))
  | (refine ite_bf ?hb ?_; (case hb => first | assumption | (simp only [decide_eq_true_eq, Bool.not_eq_false', decide_eq_false_iff_not, beq_iff_eq, bne_iff_ne, Bool.and_eq_false_iff, Bool.or_eq_false_iff, beq_eq_false_iff_ne, bne_eq_false_iff_eq]; omega)))))
local macro_rules | `(tactic| walk_at "compareOp In int ref") => `(tactic| (k_here; k_dflt (refine' in_tup4 ?F ?X ?l ?i ?_; (case F => k_asm); (case X => k_asm); (case l => k_is); (case i => repeat constructor)); (try dsimp only)))
local macro_rules | `(tactic| walk_at "call ref") => `(tactic| (k_here; (with_reducible show wpAny _ _ (call (Value.ref 66) _) _ _ _); k_dflt (refine' jwday_c ?a0 ?a1 _ _ _ _ _ _ _ _ _ _ _ _ _ _ _ _ _ _ ?k1 ?k2 ?k3 ?k4 ?k5 ?kK ?kd ?ku ?_; (case a0 => assumption); (case a1 => omega); (case k1 => k_asm); (case k2 => k_asm); (case k3 => k_asm); (case k4 => k_asm); (case k5 => k_asm); (case kK => first | exact rfl | assumption); (case kd => ktr_room); (case ku => ktr_units)); intro r9 h9 tk9 F9 N9 e9; obtain ⟨t9, e9⟩ := e9; subst e9; (try dsimp only); (try k_sweep); (try k_fold)))
local macro_rules | `(tactic| walk_at "call ref") => `(tactic| (k_here; (with_reducible show wpAny _ _ (call (Value.ref 391) _) _ _ _); k_dflt (refine' isleap_c _ _ _ _ _ _ _ _ _ _ _ _ _ _ _ _ _ _ ?k1 ?k2 ?k3 ?k4 ?k5 ?kK ?kd ?ku ?_; (case k1 => k_asm); (case k2 => k_asm); (case k3 => k_asm); (case k4 => k_asm); (case k5 => k_asm); (case kK => first | exact rfl | assumption); (case kd => ktr_room); (case ku => ktr_units)); intro r9 h9 tk9 F9 N9 e9; subst e9; (try dsimp only); (try k_sweep); (try k_fold)))
local macro_rules | `(tactic| walk_at "compareOp Eq int ref") => `(tactic| (k_here; (with_reducible show wpAny _ _ (compareOp CmpOp.Eq (Value.int _ _) (Value.ref 331)) _ _ _); k_dflt (refine' eq_feb ?hu ?X ?_; (case hu => ktr_units); (case X => k_in)); (try dsimp only)))
local macro_rules | `(tactic| walk_at "binaryOp Sub int ref") => `(tactic| (k_here; (with_reducible show wpAny _ _ (binaryOp Operator.Sub (Value.int _ _) (Value.ref (dayA _))) _ _ _); k_dflt (refine' sub_day ?a ?b ?X ?_; (case a => exact (fw_b _ _).1); (case b => exact (fw_b _ _).2); (case X => k_in)); (try dsimp only)))
local macro_rules | `(tactic| walk_at "subscriptTail") => `(tactic| (k_here; (with_reducible show wpAny _ _ (subscriptTail _ _ (Value.ref 384) (Value.int _ _)) _ _ _); k_dflt (refine' mdays_item ?a ?b ?X ?_; (case a => omega); (case b => omega); (case X => k_in)); intro t'; (try dsimp only)))
local macro_rules | `(tactic| walk_at "call ref") => `(tactic| (k_here; (first | (with_reducible show wpAny _ _ (call (Value.ref 405) _) _ _ _) | (with_reducible show wpAny _ _ (call (Value.ref 412) _) _ _ _)); k_dflt (refine wpAny_call ?_; refine' code_def ?k1 ?k2 ?k3 ?k4 ?k5 ?kA ?kF ?kK ?k6 ?k7 ?k8 ?k9 ?kB ?_ ?c2 ?c3 ?c4 ?c5; (case kA => exact rfl); (case kF => exact rfl); (case kK => first | exact rfl | assumption); (case k1 => k_asm); (case k2 => k_asm); (case k3 => k_asm); (case k4 => k_asm); (case k5 => k_asm); (case k6 => k_is); (case k7 => k_is); (case k8 => ktr_room); (case k9 => exact BindsTo.of_eq rfl); (case c5 => decide); (case kB => exact locs rfl); (case c2 => exact rfl); (case c3 => exact rfl); (case c4 => exact rfl); k_whole; intro g' L' h' FG' F' N' B' X' T'; (try dsimp only); (try k_lift B'); (try k_fold))))
local macro_rules | `(tactic| walk_at "call ref") => `(tactic| (k_here; (with_reducible show wpAny _ _ (call (Value.ref 412) _) _ _ _); k_dflt (refine' monthrange_c ?a0 ?a1 _ _ _ _ _ _ _ _ _ _ _ _ _ _ _ _ _ _ ?k1 ?k2 ?k3 ?k4 ?k5 ?kK ?kd ?ku ?_; (case a0 => omega); (case a1 => omega); (case k1 => k_asm); (case k2 => k_asm); (case k3 => k_asm); (case k4 => k_asm); (case k5 => k_asm); (case kK => first | exact rfl | assumption); (case kd => ktr_room); (case ku => ktr_units)); intro T9 o9 h9 tk9 F9 N9 l9 e9; obtain ⟨t9, e9⟩ := e9; subst e9; (try k_lt l9); (try dsimp only); (try k_sweep); (try k_fold)))
section
variable {w : World} {p : Program} {loose : List Str} {mean : ExcName → Option Value} {mg mb : Str → Option Value}
theorem mlen_g_c {y m : Int} {t u : Tok} (h1 : 1 ≤ m) (h2 : m ≤ 12) : Claim w p loose mean mg mb 441 7 [.int y t, .int m u] (fun r => ∃ t', r = .int (mlenI y m) t') := by
  unfold Claim
  w_top off
  k_fill
  intro dp un gd cn cs a ccd cl outer A₀ base h₀ L mm news s Q E B F X N T hk hdp hu hret
  refine wpAny_call ?_
  k_dflt cell_enter
  k_steps
  all_goals (refine' hret _ _ _ (by k_asm) (cb_drop ?cbN ?cbS) ⟨_, rfl⟩; (case cbN => assumption); (case cbS => exact fun p hp => List.Mem.tail _ hp))
end
end

section
local macro_rules | `(tactic| walk_at "binaryOp Add float float") => `(tactic| ((refine add_ff (by assumption) (by first | assumption | exact fq_lit_half) (by omega) ?_); intro y' hy'; (try dsimp only)))
local macro_rules | `(tactic| walk_at "binaryOp Sub float float") => `(tactic| ((refine sub_ff (by assumption) (by assumption) (by omega) ?_); intro y' hy'; (try dsimp only)))
local macro_rules | `(tactic| walk_at "binaryOp Add float int") => `(tactic| ((refine add_fi (by assumption) (by omega) (by omega) ?_); intro y' hy'; (try dsimp only)))
local macro_rules | `(tactic| walk_at "binaryOp Sub float int") => `(tactic| ((refine sub_fi (by first | assumption | exact fq_epoch) (by omega) (by omega) ?_); intro y' hy'; (try dsimp only)))
local macro_rules | `(tactic| walk_at "call builtin:math.trunc") => `(tactic| ((refine trunc_w (by assumption) (by omega) ?_); intro r' t' hr'; (try dsimp only)))
local macro_rules | `(tactic| walk_at "call builtin:math.floor") => `(tactic| ((refine floor_w (by first | assumption | exact fl_of_fq (by assumption)) ?_); (try dsimp only)))
local macro_rules | `(tactic| walk_at "binaryOp Div int int") => `(tactic| ((refine div_iw rfl (by decide) (by decide) (by omega) ?_); intro y' hy'; (try dsimp only)))
local macro_rules | `(tactic| walk_at "binaryOp Mod int int") => `(tactic| ((refine mod_p (by decide) ?_); (try dsimp only)))
local macro_rules | `(tactic| walk_at "binaryOp FloorDiv int int") => `(tactic| ((refine fdiv_p (by decide) (PyProof.noPylong_of_log2 (by decide +kernel)) ?_); (try dsimp only)))
local macro_rules | `(tactic| walk_at "my enter") => `(tactic| (unfold Claim; k_fill; intro dp un gd cn cs a ccd cl outer A₀ base h₀ L m news s Q E B F X N T hk hdp hu hret; refine wpAny_call ?_; k_dflt cell_enter; k_steps))
local macro_rules | `(tactic| walk_at "eval Call") => `(tactic| (k_here; (with_reducible show wpAny _ _ (eval (Expr.Call (Expr.Name _ _) _ [] _) _) _ _ _); refine Call_ ?_))
local macro_rules | `(tactic| walk_at "ite") => `(tactic| (first
  | (refine ite_bt ?hb ?_; (case hb => first | assumption | (simp only [decide_eq_true_eq, Bool.not_eq_true', decide_eq_false_iff_not, beq_iff_eq, bne_iff_ne, Bool.and_eq_true, Bool.or_eq_true, beq_eq_false_iff_ne, bne_eq_false_iff_eq]; omega)))
  | (refine ite_bf ?hb ?_; (case hb => first | assumption | (simp only [decide_eq_true_eq, Bool.not_eq_false', decide_eq_false_iff_not, beq_iff_eq, bne_iff_ne, Bool.and_eq_false_iff, Bool.or_eq_false_iff, beq_eq_false_iff_ne, bne_eq_false_iff_eq]; omega)))))
local macro_rules | `(tactic| walk_at "compareOp In int ref") => `(tactic| (k_here; k_dflt (refine' in_tup4 ?F ?X ?l ?i ?_; (case F => k_asm); (case X => k_asm); (case l => k_is); (case i => repeat constructor)); (try dsimp only)))
local macro_rules | `(tactic| walk_at "call ref") => `(tactic| (k_here; (with_reducible show wpAny _ _ (call (Value.ref 66) _) _ _ _); k_dflt (refine' jwday_c ?a0 ?a1 _ _ _ _ _ _ _ _ _ _ _ _ _ _ _ _ _ _ ?k1 ?k2 ?k3 ?k4 ?k5 ?kK ?kd ?ku ?_; (case a0 => assumption); (case a1 => omega); (case k1 => k_asm); (case k2 => k_asm); (case k3 => k_asm); (case k4 => k_asm); (case k5 => k_asm); (case kK => first | exact rfl | assumption); (case kd => ktr_room); (case ku => ktr_units)); intro r9 h9 tk9 F9 N9 e9; obtain ⟨t9, e9⟩ := e9; subst e9; (try dsimp only); (try k_sweep); (try k_fold)))
local macro_rules | `(tactic| walk_at "call ref") => `(tactic| (k_here; (with_reducible show wpAny _ _ (call (Value.ref 391) _) _ _ _); k_dflt (refine' isleap_c _ _ _ _ _ _ _ _ _ _ _ _ _ _ _ _ _ _ ?k1 ?k2 ?k3 ?k4 ?k5 ?kK ?kd ?ku ?_; (case k1 => k_asm); (case k2 => k_asm); (case k3 => k_asm); (case k4 => k_asm); (case k5 => k_asm); (case kK => first | exact rfl | assumption); (case kd => ktr_room); (case ku => ktr_units)); intro r9 h9 tk9 F9 N9 e9; subst e9; (try dsimp only); (try k_sweep); (try k_fold)))
local macro_rules | `(tactic| walk_at "compareOp Eq int ref") => `(tactic| (k_here; (with_reducible show wpAny _ _ (compareOp CmpOp.Eq (Value.int _ _) (Value.ref 331)) _ _ _); k_dflt (refine' eq_feb ?hu ?X ?_; (case hu => ktr_units); (case X => k_in)); (try dsimp only)))
local macro_rules | `(tactic| walk_at "binaryOp Sub int ref") => `(tactic| (k_here; (with_reducible show wpAny _ _ (binaryOp Operator.Sub (Value.int _ _) (Value.ref (dayA _))) _ _ _); k_dflt (refine' sub_day ?a ?b ?X ?_; (case a => exact (fw_b _ _).1); (case b => exact (fw_b _ _).2); (case X => k_in)); (try dsimp only)))
local macro_rules | `(tactic| walk_at "subscriptTail") => `(tactic| (k_here; (with_reducible show wpAny _ _ (subscriptTail _ _ (Value.ref 384) (Value.int _ _)) _ _ _); k_dflt (refine' mdays_item ?a ?b ?X ?_; (case a => omega); (case b => omega); (case X => k_in)); intro t'; (try dsimp only)))
local macro_rules | `(tactic| walk_at "call ref") => `(tactic| (k_here; (first | (with_reducible show wpAny _ _ (call (Value.ref 405) _) _ _ _) | (with_reducible show wpAny _ _ (call (Value.ref 412) _) _ _ _)); k_dflt (refine wpAny_call ?_; refine' code_def ?k1 ?k2 ?k3 ?k4 ?k5 ?kA ?kF ?kK ?k6 ?k7 ?k8 ?k9 ?kB ?_ ?c2 ?c3 ?c4 ?c5; (case kA => exact rfl); (case kF => exact rfl); (case kK => first | exact rfl | assumption); (case k1 => k_asm); (case k2 => k_asm); (case k3 => k_asm); (case k4 => k_asm); (case k5 => k_asm); (case k6 => k_is); (case k7 => k_is); (case k8 => ktr_room); (case k9 => exact BindsTo.of_eq rfl); (case c5 => decide); (case kB => exact locs rfl); (case c2 => exact rfl); (case c3 => exact rfl); (case c4 => exact rfl); k_whole; intro g' L' h' FG' F' N' B' X' T'; (try dsimp only); (try k_lift B'); (try k_fold))))
local macro_rules | `(tactic| walk_at "call ref") => `(tactic| (k_here; (with_reducible show wpAny _ _ (call (Value.ref 412) _) _ _ _); k_dflt (refine' monthrange_c ?a0 ?a1 _ _ _ _ _ _ _ _ _ _ _ _ _ _ _ _ _ _ ?k1 ?k2 ?k3 ?k4 ?k5 ?kK ?kd ?ku ?_; (case a0 => omega); (case a1 => omega); (case k1 => k_asm); (case k2 => k_asm); (case k3 => k_asm); (case k4 => k_asm); (case k5 => k_asm); (case kK => first | exact rfl | assumption); (case kd => ktr_room); (case ku => ktr_units)); intro T9 o9 h9 tk9 F9 N9 l9 e9; obtain ⟨t9, e9⟩ := e9; subst e9; (try k_lt l9); (try dsimp only); (try k_sweep); (try k_fold)))
section
variable {w : World} {p : Program} {loose : List Str} {mean : ExcName → Option Value} {mg mb : Str → Option Value}
theorem nth_c {n wd m y : Int} {t1 t2 t3 t4 : Tok} (hn : 0 ≤ n) (hn5 : n ≤ 5) (hw : 0 ≤ wd) (hw6 : wd ≤ 6) (h1 : 1 ≤ m) (h2 : m ≤ 12) (hok : n = 5 → 1 + (wd - fwI y m) % 7 + 28 ≤ mlenI y m) :
    ClaimT w p loose mean mg mb 419 8 [.int n t1, .int wd t2, .int m t3, .int y t4] (fun o => ∃ t', o = { cls := .type "tuple", data := .seq #[.int y t4, .int m t3, .int (nthI n wd y m) t'] }) := by
  unfold ClaimT
  w_top off
  k_fill
  intro dp un gd cn cs a ccd cl outer A₀ base h₀ L mm news s Q E B F X N T hk hdp hu hret
  have hml := mlen_b y m
  have hfw := fw_b y m
  refine wpAny_call ?_
  k_dflt cell_enter
  k_steps
  all_goals (refine' hret _ _ _ _ (by k_asm) ?cbN ?cbL ⟨_, ?cbE⟩
             (case cbN => first | exact drop1 (drop1 (by assumption)) | exact drop1 (by assumption))
             (case cbL => first | exact ktn_ltOf (And.right (And.right (by assumption))) | exact ktn_ltOf (And.right (by assumption)))
             (case cbE => refine' tup3_eq ?cbF; (case cbF => ((try (rename (List.any _ _ = _) => hany; simp only [any3, decide_eq_true_eq, decide_eq_false_iff_not] at hany)); (try (rename (¬ List.any _ _ = _) => hany; simp only [any3, decide_eq_true_eq] at hany)); unfold nthI; (repeat' split) <;> first | omega | contradiction))))
end
end

section
local macro_rules | `(tactic| walk_at "my pad") => `(tactic| skip)
local macro_rules | `(tactic| walk_at "binaryOp Add float float") => `(tactic| ((refine add_ff (by assumption) (by first | assumption | exact fq_lit_half) (by omega) ?_); intro y' hy'; (try dsimp only)))
local macro_rules | `(tactic| walk_at "binaryOp Sub float float") => `(tactic| ((refine sub_ff (by assumption) (by assumption) (by omega) ?_); intro y' hy'; (try dsimp only)))
local macro_rules | `(tactic| walk_at "binaryOp Add float int") => `(tactic| ((refine add_fi (by assumption) (by omega) (by omega) ?_); intro y' hy'; (try dsimp only)))
local macro_rules | `(tactic| walk_at "binaryOp Sub float int") => `(tactic| ((refine sub_fi (by first | assumption | exact fq_epoch) (by omega) (by omega) ?_); intro y' hy'; (try dsimp only)))
local macro_rules | `(tactic| walk_at "call builtin:math.trunc") => `(tactic| ((refine trunc_w (by assumption) (by omega) ?_); intro r' t' hr'; (try dsimp only)))
local macro_rules | `(tactic| walk_at "call builtin:math.floor") => `(tactic| ((refine floor_w (by first | assumption | exact fl_of_fq (by assumption)) ?_); (try dsimp only)))
local macro_rules | `(tactic| walk_at "binaryOp Div int int") => `(tactic| ((refine div_iw rfl (by decide) (by decide) (by omega) ?_); intro y' hy'; (try dsimp only)))
local macro_rules | `(tactic| walk_at "binaryOp Mod int int") => `(tactic| ((refine mod_p (by decide) ?_); (try dsimp only)))
local macro_rules | `(tactic| walk_at "binaryOp FloorDiv int int") => `(tactic| ((refine fdiv_p (by decide) (PyProof.noPylong_of_log2 (by decide +kernel)) ?_); (try dsimp only)))
local macro_rules | `(tactic| walk_at "my enter") => `(tactic| (unfold Claim; k_fill; intro dp un gd cn cs a ccd cl outer A₀ base h₀ L m news s Q E B F X N T hk hdp hu hret; refine wpAny_call ?_; k_dflt cell_enter; k_steps))
local macro_rules | `(tactic| walk_at "eval Call") => `(tactic| (k_here; (with_reducible show wpAny _ _ (eval (Expr.Call (Expr.Name _ _) _ [] _) _) _ _ _); refine Call_ ?_))
local macro_rules | `(tactic| walk_at "ite") => `(tactic| (first
  | (refine ite_bt ?hb ?_; (case hb => first | assumption | (simp only [decide_eq_true_eq, Bool.not_eq_true', decide_eq_false_iff_not, beq_iff_eq, bne_iff_ne, Bool.and_eq_true, Bool.or_eq_true, beq_eq_false_iff_ne, bne_eq_false_iff_eq]; omega)))
  | (refine ite_bf ?hb ?_; (case hb => first | assumption | (simp only [decide_eq_true_eq, Bool.not_eq_false', decide_eq_false_iff_not, beq_iff_eq, bne_iff_ne, Bool.and_eq_false_iff, Bool.or_eq_false_iff, beq_eq_false_iff_ne, bne_eq_false_iff_eq]; omega)))))
local macro_rules | `(tactic| walk_at "compareOp In int ref") => `(tactic| (k_here; k_dflt (refine' in_tup4 ?F ?X ?l ?i ?_; (case F => k_asm); (case X => k_asm); (case l => k_is); (case i => repeat constructor)); (try dsimp only)))
local macro_rules | `(tactic| walk_at "call ref") => `(tactic| (k_here; (with_reducible show wpAny _ _ (call (Value.ref 66) _) _ _ _); k_dflt (refine' jwday_c ?a0 ?a1 _ _ _ _ _ _ _ _ _ _ _ _ _ _ _ _ _ _ ?k1 ?k2 ?k3 ?k4 ?k5 ?kK ?kd ?ku ?_; (case a0 => assumption); (case a1 => omega); (case k1 => k_asm); (case k2 => k_asm); (case k3 => k_asm); (case k4 => k_asm); (case k5 => k_asm); (case kK => first | exact rfl | assumption); (case kd => ktr_room); (case ku => ktr_units)); intro r9 h9 tk9 F9 N9 e9; obtain ⟨t9, e9⟩ := e9; subst e9; (try dsimp only); (try k_sweep); (try k_fold)))
local macro_rules | `(tactic| walk_at "call ref") => `(tactic| (k_here; (with_reducible show wpAny _ _ (call (Value.ref 391) _) _ _ _); k_dflt (refine' isleap_c _ _ _ _ _ _ _ _ _ _ _ _ _ _ _ _ _ _ ?k1 ?k2 ?k3 ?k4 ?k5 ?kK ?kd ?ku ?_; (case k1 => k_asm); (case k2 => k_asm); (case k3 => k_asm); (case k4 => k_asm); (case k5 => k_asm); (case kK => first | exact rfl | assumption); (case kd => ktr_room); (case ku => ktr_units)); intro r9 h9 tk9 F9 N9 e9; subst e9; (try dsimp only); (try k_sweep); (try k_fold)))
local macro_rules | `(tactic| walk_at "compareOp Eq int ref") => `(tactic| (k_here; (with_reducible show wpAny _ _ (compareOp CmpOp.Eq (Value.int _ _) (Value.ref 331)) _ _ _); k_dflt (refine' eq_feb ?hu ?X ?_; (case hu => ktr_units); (case X => k_in)); (try dsimp only)))
local macro_rules | `(tactic| walk_at "binaryOp Sub int ref") => `(tactic| (k_here; (with_reducible show wpAny _ _ (binaryOp Operator.Sub (Value.int _ _) (Value.ref (dayA _))) _ _ _); k_dflt (refine' sub_day ?a ?b ?X ?_; (case a => exact (fw_b _ _).1); (case b => exact (fw_b _ _).2); (case X => k_in)); (try dsimp only)))
local macro_rules | `(tactic| walk_at "subscriptTail") => `(tactic| (k_here; (with_reducible show wpAny _ _ (subscriptTail _ _ (Value.ref 384) (Value.int _ _)) _ _ _); k_dflt (refine' mdays_item ?a ?b ?X ?_; (case a => omega); (case b => omega); (case X => k_in)); intro t'; (try dsimp only)))
local macro_rules | `(tactic| walk_at "call ref") => `(tactic| (k_here; (first | (with_reducible show wpAny _ _ (call (Value.ref 405) _) _ _ _) | (with_reducible show wpAny _ _ (call (Value.ref 412) _) _ _ _)); k_dflt (refine wpAny_call ?_; refine' code_def ?k1 ?k2 ?k3 ?k4 ?k5 ?kA ?kF ?kK ?k6 ?k7 ?k8 ?k9 ?kB ?_ ?c2 ?c3 ?c4 ?c5; (case kA => exact rfl); (case kF => exact rfl); (case kK => first | exact rfl | assumption); (case k1 => k_asm); (case k2 => k_asm); (case k3 => k_asm); (case k4 => k_asm); (case k5 => k_asm); (case k6 => k_is); (case k7 => k_is); (case k8 => ktr_room); (case k9 => exact BindsTo.of_eq rfl); (case c5 => decide); (case kB => exact locs rfl); (case c2 => exact rfl); (case c3 => exact rfl); (case c4 => exact rfl); k_whole; intro g' L' h' FG' F' N' B' X' T'; (try dsimp only); (try k_lift B'); (try k_fold))))
local macro_rules | `(tactic| walk_at "call ref") => `(tactic| (k_here; (with_reducible show wpAny _ _ (call (Value.ref 412) _) _ _ _); k_dflt (refine' monthrange_c ?a0 ?a1 _ _ _ _ _ _ _ _ _ _ _ _ _ _ _ _ _ _ ?k1 ?k2 ?k3 ?k4 ?k5 ?kK ?kd ?ku ?_; (case a0 => omega); (case a1 => omega); (case k1 => k_asm); (case k2 => k_asm); (case k3 => k_asm); (case k4 => k_asm); (case k5 => k_asm); (case kK => first | exact rfl | assumption); (case kd => ktr_room); (case ku => ktr_units)); intro T9 o9 h9 tk9 F9 N9 l9 e9; obtain ⟨t9, e9⟩ := e9; subst e9; (try k_lt l9); (try dsimp only); (try k_sweep); (try k_fold)))
section
variable {w : World} {p : Program} {loose : List Str} {mean : ExcName → Option Value} {mg mb : Str → Option Value}
theorem nth_raise_c {wd m y : Int} {t1 t2 t3 t4 : Tok} (hw : 0 ≤ wd) (hw6 : wd ≤ 6) (h1 : 1 ≤ m) (h2 : m ≤ 12) (hok : ¬ (1 + (wd - fwI y m) % 7 + 28 ≤ mlenI y m)) :
    ClaimE w p loose mean mg mb 419 8 [.int 5 t1, .int wd t2, .int m t3, .int y t4] "IndexError" := by
  unfold ClaimE
  w_top off
  k_fill
  intro dp un gd cn cs a ccd cl outer A₀ base h₀ L mm news s Q E B F X N T hk hdp hu hret
  have hml := mlen_b y m
  have hfw := fw_b y m
  refine wpAny_call ?_
  k_dflt cell_enter
  k_steps
  all_goals exact hret _ _ _ _ (by assumption) (raisedN_drop (by assumption)) (by assumption)
end
end

section
local macro_rules | `(tactic| walk_at "binaryOp Add float float") => `(tactic| ((refine add_ff (by assumption) (by first | assumption | exact fq_lit_half) (by omega) ?_); intro y' hy'; (try dsimp only)))
local macro_rules | `(tactic| walk_at "binaryOp Sub float float") => `(tactic| ((refine sub_ff (by assumption) (by assumption) (by omega) ?_); intro y' hy'; (try dsimp only)))
local macro_rules | `(tactic| walk_at "binaryOp Add float int") => `(tactic| ((refine add_fi (by assumption) (by omega) (by omega) ?_); intro y' hy'; (try dsimp only)))
local macro_rules | `(tactic| walk_at "binaryOp Sub float int") => `(tactic| ((refine sub_fi (by first | assumption | exact fq_epoch) (by omega) (by omega) ?_); intro y' hy'; (try dsimp only)))
local macro_rules | `(tactic| walk_at "call builtin:math.trunc") => `(tactic| ((refine trunc_w (by assumption) (by omega) ?_); intro r' t' hr'; (try dsimp only)))
local macro_rules | `(tactic| walk_at "call builtin:math.floor") => `(tactic| ((refine floor_w (by first | assumption | exact fl_of_fq (by assumption)) ?_); (try dsimp only)))
local macro_rules | `(tactic| walk_at "binaryOp Div int int") => `(tactic| ((refine div_iw rfl (by decide) (by decide) (by omega) ?_); intro y' hy'; (try dsimp only)))
local macro_rules | `(tactic| walk_at "binaryOp Mod int int") => `(tactic| ((refine mod_p (by decide) ?_); (try dsimp only)))
local macro_rules | `(tactic| walk_at "binaryOp FloorDiv int int") => `(tactic| ((refine fdiv_p (by decide) (PyProof.noPylong_of_log2 (by decide +kernel)) ?_); (try dsimp only)))
local macro_rules | `(tactic| walk_at "my enter") => `(tactic| (unfold Claim; k_fill; intro dp un gd cn cs a ccd cl outer A₀ base h₀ L m news s Q E B F X N T hk hdp hu hret; refine wpAny_call ?_; k_dflt cell_enter; k_steps))
local macro_rules | `(tactic| walk_at "eval Call") => `(tactic| (k_here; (with_reducible show wpAny _ _ (eval (Expr.Call (Expr.Name _ _) _ [] _) _) _ _ _); refine Call_ ?_))
local macro_rules | `(tactic| walk_at "ite") => `(tactic| (first
  | (refine ite_bt ?hb ?_; (case hb => first | assumption | (simp only [decide_eq_true_eq, Bool.not_eq_true', decide_eq_false_iff_not, beq_iff_eq, bne_iff_ne, Bool.and_eq_true, Bool.or_eq_true, beq_eq_false_iff_ne, bne_eq_false_iff_eq]; omega)))
  | (refine ite_bf ?hb ?_; (case hb => first | assumption | (simp only [decide_eq_true_eq, Bool.not_eq_false', decide_eq_false_iff_not, beq_iff_eq, bne_iff_ne, Bool.and_eq_false_iff, Bool.or_eq_false_iff, beq_eq_false_iff_ne, bne_eq_false_iff_eq]; omega)))))
local macro_rules | `(tactic| walk_at "compareOp In int ref") => `(tactic| (k_here; k_dflt (refine' in_tup4 ?F ?X ?l ?i ?_; (case F => k_asm); (case X => k_asm); (case l => k_is); (case i => repeat constructor)); (try dsimp only)))
local macro_rules | `(tactic| walk_at "call ref") => `(tactic| (k_here; (with_reducible show wpAny _ _ (call (Value.ref 66) _) _ _ _); k_dflt (refine' jwday_c ?a0 ?a1 _ _ _ _ _ _ _ _ _ _ _ _ _ _ _ _ _ _ ?k1 ?k2 ?k3 ?k4 ?k5 ?kK ?kd ?ku ?_; (case a0 => assumption); (case a1 => omega); (case k1 => k_asm); (case k2 => k_asm); (case k3 => k_asm); (case k4 => k_asm); (case k5 => k_asm); (case kK => first | exact rfl | assumption); (case kd => ktr_room); (case ku => ktr_units)); intro r9 h9 tk9 F9 N9 e9; obtain ⟨t9, e9⟩ := e9; subst e9; (try dsimp only); (try k_sweep); (try k_fold)))
local macro_rules | `(tactic| walk_at "call ref") => `(tactic| (k_here; (with_reducible show wpAny _ _ (call (Value.ref 391) _) _ _ _); k_dflt (refine' isleap_c _ _ _ _ _ _ _ _ _ _ _ _ _ _ _ _ _ _ ?k1 ?k2 ?k3 ?k4 ?k5 ?kK ?kd ?ku ?_; (case k1 => k_asm); (case k2 => k_asm); (case k3 => k_asm); (case k4 => k_asm); (case k5 => k_asm); (case kK => first | exact rfl | assumption); (case kd => ktr_room); (case ku => ktr_units)); intro r9 h9 tk9 F9 N9 e9; subst e9; (try dsimp only); (try k_sweep); (try k_fold)))
local macro_rules | `(tactic| walk_at "call ref") => `(tactic| (k_here; (with_reducible show wpAny _ _ (call (Value.ref 434) _) _ _ _); k_dflt (refine' to_jd_g_c ?a0 ?a1 ?a2 ?a3 ?a4 ?a5 _ _ _ _ _ _ _ _ _ _ _ _ _ _ _ _ _ _ ?k1 ?k2 ?k3 ?k4 ?k5 ?kK ?kd ?ku ?_; (case a0 => omega); (case a1 => omega); (case a2 => omega); (case a3 => omega); (case a4 => omega); (case a5 => first | assumption | (exact Int.le_trans (by decide) (mlen_b _ _).1)); (case k1 => k_asm); (case k2 => k_asm); (case k3 => k_asm); (case k4 => k_asm); (case k5 => k_asm); (case kK => first | exact rfl | assumption); (case kd => ktr_room); (case ku => ktr_units)); intro r9 h9 tk9 F9 N9 e9; obtain ⟨z9, t9, e9, hz9⟩ := e9; subst e9; (try dsimp only); (try k_sweep); (try k_fold)))
section
variable {w : World} {p : Program} {loose : List Str} {mean : ExcName → Option Value} {mg mb : Str → Option Value}
theorem gN_b {y m d : Int} (hy1 : -10000010 < y) (hy2 : y < 10000010) (h1 : 1 ≤ m) (h2 : m ≤ 12) (h3 : 1 ≤ d) (h4 : d ≤ 31) : (gN y m d).natAbs < 2 ^ 40 := by
  unfold gN adjI
  repeat' split
  all_goals omega
theorem weeks_c {y : Int} {t : Tok} (hy1 : -10000010 < y) (hy2 : y < 10000010) : Claim w p loose mean mg mb 455 8 [.int y t] (fun r => ∃ t', r = .int (if fwI y 1 = 3 ∨ (fwI y 1 = 2 ∧ leapB y = true) then 53 else 52) t') := by
  unfold Claim
  w_top off
  k_fill
  intro dp un gd cn cs a ccd cl outer A₀ base h₀ L mm news s Q E B F X N T hk hdp hu hret
  have hgb := gN_b hy1 hy2 (m := 1) (d := 1) (by decide) (by decide) (by decide) (by decide)
  refine wpAny_call ?_
  k_dflt cell_enter
  k_steps
  all_goals (refine' hret _ _ _ (by k_asm) (by k_asm) (ktn_int ?cbE); (case cbE => unfold fwI; first
    | exact (if_pos (by first | exact Or.inl (by assumption) | exact Or.inr ⟨by assumption, by assumption⟩)).symm
    | exact (if_neg (by rintro (h | ⟨h, h'⟩) <;> first | omega | (rename (leapB _ = false) => hl9; rw [hl9] at h'; cases h'))).symm))
end
end

section
abbrev lstO (l : List Value) (k : Nat) : Obj := { cls := .type "list", data := .seq l.toArray k }
theorem foldl_none (n : Nat) : ∀ acc : Array Value, List.foldl (fun x1 x2 => x1 ++ x2) acc (List.replicate n #[Value.none]) = acc ++ (List.replicate n Value.none).toArray := by
  induction n with
  | zero => intro acc; simp
  | succ n ih => intro acc; rw [List.replicate_succ, List.foldl_cons, ih, List.replicate_succ]; apply Array.ext'; simp only [Array.toList_append]; rw [List.append_assoc]; rfl
theorem foldl_none0 (n : Nat) : List.foldl (fun x1 x2 => x1 ++ x2) #[] (List.replicate n #[Value.none]) = (List.replicate n Value.none).toArray := by
  rw [foldl_none]; apply Array.ext'; simp only [Array.toList_append]; rfl
section
variable {prog : Program} {w : World} {A : Around} {E : Value → Shared → Prop} {s : Shared} {h₀ : Heap} {L : Addr} {m : Str → Option Value} {news : List (Addr × Obj)} {l : Addr} {k : Nat} {x : Int} {u : Tok} {Q : Value → Shared → Prop}
theorem rep_none (F : Fr h₀ L s.heap m) (N : News h₀ L s.heap news) (hm : (l, lstO [.none] k) ∈ news) (h0 : 0 ≤ x) (h1 : x ≤ 10)
    (h : ∀ D h', Fr h₀ L h' m → News h₀ L h' ((D, lstO (List.replicate x.toNat .none) 0) :: news) → (∀ p ∈ news, p.1 < D) → Q (.ref D) { s with heap := h' }) :
    wpAny (model prog w) A (binaryOp .Mult (.ref l) (.int x u)) Q E s := by
  refine mul_list F N (items := #[.none]) (k := k) (N _ hm).1 (by omega) (by omega) (by show 1 * x.toNat ≤ _; omega) fun h' F' N' => ?_
  refine h _ h' F' ?_ (fun q hq => Heap.lt_size (N q hq).1)
  have e := foldl_none0 x.toNat
  have e2 : (if (#[Value.none] : Array Value).isEmpty = true then 0 else x.toNat) = x.toNat := if_neg (by decide)
  rw [e2, e] at N'
  exact N'
theorem rep_none_r (F : Fr h₀ L s.heap m) (N : News h₀ L s.heap news) (hm : (l, lstO [.none] k) ∈ news) (h0 : 0 ≤ x) (h1 : x ≤ 10)
    (h : ∀ D h', Fr h₀ L h' m → News h₀ L h' ((D, lstO (List.replicate x.toNat .none) 0) :: news) → (∀ p ∈ news, p.1 < D) → Q (.ref D) { s with heap := h' }) :
    wpAny (model prog w) A (binaryOp .Mult (.int x u) (.ref l)) Q E s := by
  refine mul_list_r F N (items := #[.none]) (k := k) (N _ hm).1 (by omega) (by omega) (by show 1 * x.toNat ≤ _; omega) fun h' F' N' => ?_
  refine h _ h' F' ?_ (fun q hq => Heap.lt_size (N q hq).1)
  have e := foldl_none0 x.toNat
  have e2 : (if (#[Value.none] : Array Value).isEmpty = true then 0 else x.toNat) = x.toNat := if_neg (by decide)
  rw [e2, e] at N'
  exact N'
theorem add_lst {b : Addr} {xs ys : List Value} {j : Nat} (F : Fr h₀ L s.heap m) (N : News h₀ L s.heap news) (hm : (l, lstO xs k) ∈ news) (hb : (b, lstO ys j) ∈ news) (hz : xs.length + ys.length ≤ 1000)
    (h : ∀ D h', Fr h₀ L h' m → News h₀ L h' ((D, lstO (xs ++ ys) 0) :: news) → (∀ p ∈ news, p.1 < D) → Q (.ref D) { s with heap := h' }) :
    wpAny (model prog w) A (binaryOp .Add (.ref l) (.ref b)) Q E s := by
  refine add_arrays (its := xs.toArray) (its2 := ys.toArray) (hsz := by rw [sizeLine_eq]; simp only [List.size_toArray]; omega) F N (News.isList N hm) (News.isList N hb) fun h' F' N' => ?_
  exact h _ h' F' N' (fun q hq => Heap.lt_size (N q hq).1)
end
theorem rows_st {h₀ : Heap} {L I : Addr} {a c : Int} {n : Nat} : ∀ i (h h' : Heap) (o : Obj) (nw : List (Addr × Obj)), IsRangeIter h I (a + (i : Nat) * c) ((n : Int) - (i : Nat)) c → h.get? I = some o → h'.get? I = some o → (∀ b o, h₀.get? b = some o → h'.get? b = some o) → News h₀ L h' nw → True → IsRangeIter h' I (a + (i : Nat) * c) ((n : Int) - (i : Nat)) c :=
  fun i h h' o nw st e e' _ _ _ => by
    have st' : h.get? I = some _ := st
    show h'.get? I = some _
    rw [e', ← e]; exact st'
theorem rs_of {b : Int} {n : Nat} (h1 : 7 * (n : Int) - 7 < b) (h2 : b ≤ 7 * (n : Int)) (h3 : 0 < n) : Builtin.Range.rangeSize 0 b 7 = (n : Int) := by
  unfold Builtin.Range.rangeSize
  simp only [gt_iff_lt, Int.reduceLT, if_true]
  rw [if_pos (by omega)]
  omega
theorem small_of {b : Int} {n : Nat} (hn : Builtin.Range.rangeSize 0 b 7 = (n : Int)) (h1 : 0 ≤ b) (h2 : b ≤ 100) (h3 : n ≤ 20) : Builtin.Range.small 0 b 7 = true := by
  unfold Builtin.Range.small
  rw [hn]
  simp only [Builtin.Range.rangeFitsLong, Bool.and_eq_true, Bool.or_eq_true, decide_eq_true_eq, beq_iff_eq, show (7 : Int) > 0 by decide, if_true]
  first | omega | (split <;> omega)
/-- a comprehension over a range by sevens, turn by turn -/
def SrcC (prog : Program) (w : World) (A : Around) (h₀ : Heap) (L : Addr) (m : Str → Option Value) (env : Env) (elt : Expr) (x : Str) (scope : Scope) (cl : List (Str × Addr)) (n : Nat) (Fin : Shared → List Value → List (Addr × Obj) → Prop) (xv : Value) (s₁ : Shared) : Prop :=
  ∃ r b t u v news, xv = .ref r ∧ A.handled = none ∧ Fr h₀ L s₁.heap m ∧ News h₀ L s₁.heap news ∧ IsRange s₁.heap r 0 b 7 t u v ∧ (7 * (n : Int) - 7 < b ∧ b ≤ 7 * (n : Int) ∧ 0 < n ∧ n ≤ 10) ∧
    ∀ g : Heap, LCg.CompRest prog w A h₀ L m env elt x scope cl { s₁ with heap := g } (fun _ => True) (fun i v => ∃ t, v = .int (0 + (i : Int) * 7) t) (Fin { s₁ with heap := g }) n 0 [] news
theorem listComp_C {prog : Program} {w : World} {A : Around} {E : Value → Shared → Prop} {s : Shared} {h₀ : Heap} {L : Addr} {m : Str → Option Value} {env : Env} {elt iter : Expr} {x : Str} {px : Pos} {scope : Scope} {cl : List (Str × Addr)} {pos : Pos} {Q : Value → Shared → Prop} (n : Nat)
    (hclos : closureFor scope env = pure cl) (hcell : ∀ y ∈ scope.names, y.2 ≠ .cell) (hkind : scope.kind = .function)
    (hnames : ∀ y ∈ scope.names, y.2 = .local → scope.names.lookup y.1 = some .local) (hx : scope.names.lookup x = some .local)
    (h : wpAny (model prog w) A (eval iter env) (SrcC prog w A h₀ L m env elt x scope cl n (fun s₂ => LCg.FinE h₀ L m s₂ Q)) E s)
    (hs : ∀ x, foldedSetIterable iter env x = pure x := by intro _; rfl) :
    wpAny (model prog w) A (eval (.ListComp elt [⟨.Name x px, iter, [], 0⟩] scope pos) env) Q E s := by
  rw [eval_ListComp]
  refine wpAny_comprehension_free (use := none) rfl hs hclos hkind hnames (wpAny_mono h (fun xv s₁ h₁ => ?_) fun _ _ e => e)
  obtain ⟨r, b, t, u, v, news, rfl, hh, F, N, hr, ⟨b1, b2, b3, b4⟩, R⟩ := h₁
  have hn := rs_of b1 b2 b3
  have hsm := small_of hn (by omega) (by omega) (by omega)
  have hsz : n ≤ sizeLine := by rw [sizeLine_eq]; omega
  refine wpAny_pyIter_range hr hsm ?_
  refine LCg.block_U (Walks.range hh s₁.heap.objs.size 0 7 n) hsz (fun i h st => ⟨_, st⟩) rows_st hcell hkind hx (by show IsRangeIter _ _ _ _ _; rw [hn]; simpa using Heap.get?_push_size _ rfl) (fun b hb => ?_)
    (F.keeps fun _ _ e => Heap.get?_push_of_some _ e) (N.grown fun _ _ e => Heap.get?_push_of_some _ e) (Nat.ne_of_lt F.ns.lt) (next_is_new F) (fun p hp => Nat.ne_of_lt (Heap.lt_size (N p hp).1)) trivial (R _) ?_
  · rw [List.mem_singleton.mp hb]
    show s₁.heap.objs.size < (s₁.heap.push _).objs.size
    rw [Heap.size_push]; exact Nat.lt_succ_self _
  · intro D C h tk m' ys news' F' N' o1 hn hC₀ hD₀ hCL hDL hCD offC fin
    refine ⟨m', hn, fun h'' hs'' => fin D h'' tk (F'.change hs'' hCL hC₀) (fun p hp => ?_) o1⟩
    refine ⟨hs''.extBut _ _ ?_ (N' p hp).1, (N' p hp).2⟩
    rcases List.mem_cons.mp hp with rfl | hp
    · exact Ne.symm hCD
    · exact offC p hp
def RowsN (un : Nat) : Prop := True
theorem listComp_R {prog : Program} {w : World} {A : Around} {E : Value → Shared → Prop} {s : Shared} {h₀ : Heap} {L : Addr} {m : Str → Option Value} {env : Env} {elt iter : Expr} {x : Str} {px : Pos} {scope : Scope} {cl : List (Str × Addr)} {pos : Pos} {Q : Value → Shared → Prop} {n : Nat} (uhR : RowsN n) (uF : Fr h₀ L s.heap m)
    (hclos : closureFor scope env = pure cl) (hcell : ∀ y ∈ scope.names, y.2 ≠ .cell) (hkind : scope.kind = .function)
    (hnames : ∀ y ∈ scope.names, y.2 = .local → scope.names.lookup y.1 = some .local) (hx : scope.names.lookup x = some .local)
    (h : wpAny (model prog w) A (eval iter env) (SrcC prog w A h₀ L m env elt x scope cl n (fun s₂ => LCg.FinE h₀ L m s₂ Q)) E s)
    (hs : ∀ x, foldedSetIterable iter env x = pure x := by intro _; rfl) :
    wpAny (model prog w) A (eval (.ListComp elt [⟨.Name x px, iter, [], 0⟩] scope pos) env) Q E s := listComp_C n hclos hcell hkind hnames hx h hs
theorem all_off {d : Addr} {k : Nat} {l : List (Addr × Obj)} (h : ∀ p ∈ l, p.1 < d) : ∀ p ∈ l, p.1 ≠ d + k := fun p hp => Nat.ne_of_lt (Nat.lt_of_lt_of_le (h p hp) (Nat.le_add_right _ _))
theorem compEnd1 {h₀ : Heap} {L I C D S : Addr} {m : Str → Option Value} {s₁ : Shared} {oI oC oD oS : Obj} {rest : Value → List (Addr × Obj) → Prop} {y : Value} {h' : Heap} {tk : Nat} {news : List (Addr × Obj)}
    (F : Fr h₀ L h' m) (N : News h₀ L h' ((S, oS) :: (I, oI) :: (C, oC) :: (D, oD) :: news)) (off : LCg.Off3 I C D news) (hI : @LT.lt Nat _ I S) (hC : @LT.lt Nat _ C S) (hD : @LT.lt Nat _ D S) (r : rest y ((S, oS) :: news)) :
    LCg.CompEnd h₀ L m s₁ I oI C oC D oD (fun _ => True) rest y { s₁ with heap := h', toks := tk } :=
  LCg.CompEnd.intro F N ((S, oS) :: news) (by
    intro p hp
    simp only [List.mem_cons] at hp ⊢
    rcases hp with h | h | h | h | h
    · exact .inr (.inl h)
    · exact .inr (.inr (.inl h))
    · exact .inr (.inr (.inr (.inl h)))
    · exact .inl h
    · exact .inr (.inr (.inr (.inr h)))) ⟨⟨Nat.ne_of_gt hI, Nat.ne_of_gt hC, Nat.ne_of_gt hD⟩, off⟩ trivial r
end

section
/-- one place of the month's sheet -/
def CellIs (v : Value) (k lp ml : Int) : Prop := ((k < lp ∨ lp + ml ≤ k) → v = .none) ∧ (lp ≤ k → k < lp + ml → ∃ t, v = .int (k - lp + 1) t)
def DaysIs (ds : List Value) (lp ml : Int) : Prop := (ds.length : Int) = lp + ml + 7 ∧ ∀ k : Nat, (k : Int) < lp + ml + 7 → ∃ v, ds[k]? = some v ∧ CellIs v k lp ml
def RowIs (o : Obj) (a lp ml : Int) : Prop := ∃ l k, o = lstO l k ∧ l.length = 7 ∧ ∀ c : Nat, c < 7 → ∃ v, l[c]? = some v ∧ CellIs v (a + c) lp ml
theorem ints_at : ∀ {vs : List Value} {ns : List Int}, IntsAre vs ns → ∀ (k : Nat) {x : Int}, ns[k]? = some x → ∃ t, vs[k]? = some (.int x t)
  | _, _, .nil, k, _, h => by cases k <;> cases h
  | _, _, .cons n t h, 0, x, e => by cases e; exact ⟨t, rfl⟩
  | _, _, .cons n t h, k + 1, x, e => ints_at h k e
theorem days_is {vs : List Value} {lp ml : Int} {n : Nat} {z : Nat} (h1 : 28 ≤ ml) (hI : IntsAre vs (rangeKs 1 n)) (h0 : 0 ≤ lp) (hn : (n : Int) = ml) (hz : z = 7) : DaysIs (List.replicate lp.toNat Value.none ++ vs ++ List.replicate z Value.none) lp ml := by
  subst hz
  have hl := hI.length
  rw [rangeKs_length] at hl
  refine ⟨by simp only [List.length_append, List.length_replicate]; omega, fun k hk => ?_⟩
  by_cases c1 : k < lp.toNat
  · refine ⟨.none, ?_, fun _ => rfl, fun h => by omega⟩
    rw [List.append_assoc, List.getElem?_append_left (by rw [List.length_replicate]; exact c1), List.getElem?_replicate, if_pos c1]
  · by_cases c2 : k < lp.toNat + n
    · have e : (rangeKs 1 n)[k - lp.toNat]? = some (1 + ((k - lp.toNat : Nat) : Int)) := by
        have hq : k - lp.toNat < n := by omega
        simp only [rangeKs, List.getElem?_map, List.getElem?_range hq, Option.map_some]
      obtain ⟨t, ht⟩ := ints_at hI _ e
      refine ⟨_, ?_, fun h => by omega, fun _ _ => ⟨t, rfl⟩⟩
      rw [List.append_assoc, List.getElem?_append_right (by rw [List.length_replicate]; omega), List.length_replicate, List.getElem?_append_left (by omega), ht]
      congr 2
      omega
    · refine ⟨.none, ?_, fun _ => rfl, fun h h' => by omega⟩
      rw [List.getElem?_append_right (by simp only [List.length_append, List.length_replicate]; omega), List.getElem?_replicate, if_pos (by simp only [List.length_append, List.length_replicate]; omega)]
theorem row_of {ds : List Value} {a lp ml : Int} (hd : DaysIs ds lp ml) (ha : 0 ≤ a) (hb : a + 7 ≤ lp + ml + 7) : RowIs (lstO ((ds.drop a.toNat).take 7) 0) a lp ml := by
  refine ⟨_, _, rfl, ?_, fun c hc => ?_⟩
  · have := hd.1
    rw [List.length_take, List.length_drop]; omega
  · obtain ⟨v, hv, hC⟩ := hd.2 (a.toNat + c) (by omega)
    have e : ((a.toNat + c : Nat) : Int) = a + c := by omega
    rw [e] at hC
    refine ⟨v, ?_, hC⟩
    rw [List.getElem?_take, if_pos hc, List.getElem?_drop, hv]
section
variable {prog : Program} {w : World} {A : Around} {E : Value → Shared → Prop} {s : Shared} {h₀ : Heap} {L l : Addr} {m : Str → Option Value} {news : List (Addr × Obj)} {value slice : PySem.Expr} {ds : List Value} {a b lp ml : Int} {t u : Tok} {k : Nat} {Q : Value → Shared → Prop}
theorem row_slice (F : Fr h₀ L s.heap m) (N : News h₀ L s.heap news) (hm : (l, lstO ds k) ∈ news) (hd : DaysIs ds lp ml) (ha : 0 ≤ a) (hb : b = a + 7) (hb2 : a + 7 ≤ lp + ml + 7) (hsm : lp + ml ≤ 100)
    (h : ∀ D o h', Fr h₀ L h' m → News h₀ L h' ((D, o) :: news) → (∀ p ∈ news, p.1 < D) → RowIs o a lp ml → Q (.ref D) { s with heap := h' })
    (hs : subscripted slice false (.ref l) (.ref s.heap.objs.size) = operate [.ref s.heap.objs.size, .ref l] (getItem (.ref l) (.ref s.heap.objs.size))) (ht : ∀ r, letTemporaryGo value (.ref l) r = pure ()) :
    wpAny (model prog w) A (subscriptTail value slice (.ref l) (.ref s.heap.objs.size)) Q E { s with heap := s.heap.push { cls := .type "slice", data := .fields #[.int a t, .int b u, .none] } } := by
  have hlen := hd.1
  refine kms_slice_lit (its := ds.toArray) (zs := (ds.drop a.toNat).take 7) F N (News.isList N hm) (IsPart.int _ _) (IsPart.int _ _) ?_ (fun D h' F' N' l1 => h D _ h' F' N' l1 (row_of hd ha hb2)) hs ht (by rw [sizeLine_eq]; simp only [List.size_toArray]; omega)
  show kms_pick ds (some a) (some b) = _
  unfold kms_pick kms_lo kms_hi
  simp only
  rw [if_neg (by omega), if_neg (by omega), Nat.min_eq_left (by omega), Nat.min_eq_left (by omega)]
  congr 1
  omega
end
/-- what a call of a def gives that hands back a sheet of 4 rows -/
abbrev Claim4 (w : World) (p : Program) (loose : List Str) (mean : ExcName → Option Value) (mg mb : Str → Option Value) (f : Addr) (d : Nat) (vs : List Value) (lp ml : Int) : Prop :=
  ∀ (dp un : Nat) (gd : Option (List Code)) (cn : Str) (cs : Scope) (a : Addr) (ccd : Value) (cl : List (Str × Addr)) (outer : List Env) (A₀ : Around) (base h₀ : Heap) (L : Addr) (m : Str → Option Value) (news : List (Addr × Obj)) (s : Shared) (Q E : Value → Shared → Prop),
    Below A₀ base outer h₀ → Fr h₀ L s.heap m → (hd.heap_39 w.params).In h₀ → News h₀ L s.heap news → Top p loose mean mg mb h₀ → cs.kind = .function → dp + d < recursionLimit → un + 8 * d < cLine →
    (∀ T r0 o0 r1 o1 r2 o2 r3 o3 h' tk' k, Fr h₀ L h' m → News h₀ L h' ((T, lstO [.ref r0, .ref r1, .ref r2, .ref r3] k) :: (r0, o0) :: (r1, o1) :: (r2, o2) :: (r3, o3) :: news) → RowIs o0 0 lp ml → RowIs o1 7 lp ml → RowIs o2 14 lp ml → RowIs o3 21 lp ml → Q (.ref T) { s with heap := h', toks := tk' }) →
    wpAny (model PySem.Challenge.rw_ak5009_01.row.toRowW.prog w) (ktrTop dp un gd cn cs L a ccd cl outer) (call (.ref f) vs) Q E s
/-- what a call of a def gives that hands back a sheet of 5 rows -/
abbrev Claim5 (w : World) (p : Program) (loose : List Str) (mean : ExcName → Option Value) (mg mb : Str → Option Value) (f : Addr) (d : Nat) (vs : List Value) (lp ml : Int) : Prop :=
  ∀ (dp un : Nat) (gd : Option (List Code)) (cn : Str) (cs : Scope) (a : Addr) (ccd : Value) (cl : List (Str × Addr)) (outer : List Env) (A₀ : Around) (base h₀ : Heap) (L : Addr) (m : Str → Option Value) (news : List (Addr × Obj)) (s : Shared) (Q E : Value → Shared → Prop),
    Below A₀ base outer h₀ → Fr h₀ L s.heap m → (hd.heap_39 w.params).In h₀ → News h₀ L s.heap news → Top p loose mean mg mb h₀ → cs.kind = .function → dp + d < recursionLimit → un + 8 * d < cLine →
    (∀ T r0 o0 r1 o1 r2 o2 r3 o3 r4 o4 h' tk' k, Fr h₀ L h' m → News h₀ L h' ((T, lstO [.ref r0, .ref r1, .ref r2, .ref r3, .ref r4] k) :: (r0, o0) :: (r1, o1) :: (r2, o2) :: (r3, o3) :: (r4, o4) :: news) → RowIs o0 0 lp ml → RowIs o1 7 lp ml → RowIs o2 14 lp ml → RowIs o3 21 lp ml → RowIs o4 28 lp ml → Q (.ref T) { s with heap := h', toks := tk' }) →
    wpAny (model PySem.Challenge.rw_ak5009_01.row.toRowW.prog w) (ktrTop dp un gd cn cs L a ccd cl outer) (call (.ref f) vs) Q E s
/-- what a call of a def gives that hands back a sheet of 6 rows -/
abbrev Claim6 (w : World) (p : Program) (loose : List Str) (mean : ExcName → Option Value) (mg mb : Str → Option Value) (f : Addr) (d : Nat) (vs : List Value) (lp ml : Int) : Prop :=
  ∀ (dp un : Nat) (gd : Option (List Code)) (cn : Str) (cs : Scope) (a : Addr) (ccd : Value) (cl : List (Str × Addr)) (outer : List Env) (A₀ : Around) (base h₀ : Heap) (L : Addr) (m : Str → Option Value) (news : List (Addr × Obj)) (s : Shared) (Q E : Value → Shared → Prop),
    Below A₀ base outer h₀ → Fr h₀ L s.heap m → (hd.heap_39 w.params).In h₀ → News h₀ L s.heap news → Top p loose mean mg mb h₀ → cs.kind = .function → dp + d < recursionLimit → un + 8 * d < cLine →
    (∀ T r0 o0 r1 o1 r2 o2 r3 o3 r4 o4 r5 o5 h' tk' k, Fr h₀ L h' m → News h₀ L h' ((T, lstO [.ref r0, .ref r1, .ref r2, .ref r3, .ref r4, .ref r5] k) :: (r0, o0) :: (r1, o1) :: (r2, o2) :: (r3, o3) :: (r4, o4) :: (r5, o5) :: news) → RowIs o0 0 lp ml → RowIs o1 7 lp ml → RowIs o2 14 lp ml → RowIs o3 21 lp ml → RowIs o4 28 lp ml → RowIs o5 35 lp ml → Q (.ref T) { s with heap := h', toks := tk' }) →
    wpAny (model PySem.Challenge.rw_ak5009_01.row.toRowW.prog w) (ktrTop dp un gd cn cs L a ccd cl outer) (call (.ref f) vs) Q E s
theorem row_at {o : Obj} {a b lp ml : Int} (h : RowIs o a lp ml) (e : a = b) : RowIs o b lp ml := e ▸ h
end

section
local macro_rules | `(tactic| walk_at "binaryOp Add float float") => `(tactic| ((refine add_ff (by assumption) (by first | assumption | exact fq_lit_half) (by omega) ?_); intro y' hy'; (try dsimp only)))
local macro_rules | `(tactic| walk_at "binaryOp Sub float float") => `(tactic| ((refine sub_ff (by assumption) (by assumption) (by omega) ?_); intro y' hy'; (try dsimp only)))
local macro_rules | `(tactic| walk_at "binaryOp Add float int") => `(tactic| ((refine add_fi (by assumption) (by omega) (by omega) ?_); intro y' hy'; (try dsimp only)))
local macro_rules | `(tactic| walk_at "binaryOp Sub float int") => `(tactic| ((refine sub_fi (by first | assumption | exact fq_epoch) (by omega) (by omega) ?_); intro y' hy'; (try dsimp only)))
local macro_rules | `(tactic| walk_at "call builtin:math.trunc") => `(tactic| ((refine trunc_w (by assumption) (by omega) ?_); intro r' t' hr'; (try dsimp only)))
local macro_rules | `(tactic| walk_at "call builtin:math.floor") => `(tactic| ((refine floor_w (by first | assumption | exact fl_of_fq (by assumption)) ?_); (try dsimp only)))
local macro_rules | `(tactic| walk_at "binaryOp Div int int") => `(tactic| ((refine div_iw rfl (by decide) (by decide) (by omega) ?_); intro y' hy'; (try dsimp only)))
local macro_rules | `(tactic| walk_at "binaryOp Mod int int") => `(tactic| ((refine mod_p (by decide) ?_); (try dsimp only)))
local macro_rules | `(tactic| walk_at "binaryOp FloorDiv int int") => `(tactic| ((refine fdiv_p (by decide) (PyProof.noPylong_of_log2 (by decide +kernel)) ?_); (try dsimp only)))
local macro_rules | `(tactic| walk_at "my enter") => `(tactic| (unfold Claim; k_fill; intro dp un gd cn cs a ccd cl outer A₀ base h₀ L m news s Q E B F X N T hk hdp hu hret; refine wpAny_call ?_; k_dflt cell_enter; k_steps))
local macro_rules | `(tactic| walk_at "eval Call") => `(tactic| (k_here; (with_reducible show wpAny _ _ (eval (Expr.Call (Expr.Name _ _) _ [] _) _) _ _ _); refine Call_ ?_))
local macro_rules | `(tactic| walk_at "ite") => `(tactic| (first
  | (refine ite_bt ?hb ?_; (case hb => first | assumption | (simp only [decide_eq_true_eq, Bool.not_eq_true', decide_eq_false_iff_not, beq_iff_eq, bne_iff_ne, Bool.and_eq_true, Bool.or_eq_true, beq_eq_false_iff_ne, bne_eq_false_iff_eq]; omega)))
  | (refine ite_bf ?hb ?_; (case hb => first | assumption | (simp only [decide_eq_true_eq, Bool.not_eq_false', decide_eq_false_iff_not, beq_iff_eq, bne_iff_ne, Bool.and_eq_false_iff, Bool.or_eq_false_iff, beq_eq_false_iff_ne, bne_eq_false_iff_eq]; omega)))))
local macro_rules | `(tactic| walk_at "compareOp In int ref") => `(tactic| (k_here; k_dflt (refine' in_tup4 ?F ?X ?l ?i ?_; (case F => k_asm); (case X => k_asm); (case l => k_is); (case i => repeat constructor)); (try dsimp only)))
local macro_rules | `(tactic| walk_at "call ref") => `(tactic| (k_here; (with_reducible show wpAny _ _ (call (Value.ref 66) _) _ _ _); k_dflt (refine' jwday_c ?a0 ?a1 _ _ _ _ _ _ _ _ _ _ _ _ _ _ _ _ _ _ ?k1 ?k2 ?k3 ?k4 ?k5 ?kK ?kd ?ku ?_; (case a0 => assumption); (case a1 => omega); (case k1 => k_asm); (case k2 => k_asm); (case k3 => k_asm); (case k4 => k_asm); (case k5 => k_asm); (case kK => first | exact rfl | assumption); (case kd => ktr_room); (case ku => ktr_units)); intro r9 h9 tk9 F9 N9 e9; obtain ⟨t9, e9⟩ := e9; subst e9; (try dsimp only); (try k_sweep); (try k_fold)))
local macro_rules | `(tactic| walk_at "call ref") => `(tactic| (k_here; (with_reducible show wpAny _ _ (call (Value.ref 391) _) _ _ _); k_dflt (refine' isleap_c _ _ _ _ _ _ _ _ _ _ _ _ _ _ _ _ _ _ ?k1 ?k2 ?k3 ?k4 ?k5 ?kK ?kd ?ku ?_; (case k1 => k_asm); (case k2 => k_asm); (case k3 => k_asm); (case k4 => k_asm); (case k5 => k_asm); (case kK => first | exact rfl | assumption); (case kd => ktr_room); (case ku => ktr_units)); intro r9 h9 tk9 F9 N9 e9; subst e9; (try dsimp only); (try k_sweep); (try k_fold)))
local macro_rules | `(tactic| walk_at "binaryOp Mult ref int") => `(tactic| (k_here; k_dflt (refine' rep_none ?F ?N ?m ?a ?b ?_; (case F => k_asm); (case N => k_asm); (case m => k_mem); (case a => omega); (case b => omega)); intro D' h' F' N' l1; (try k_lt l1); (try k_sweep)))
local macro_rules | `(tactic| walk_at "binaryOp Mult int ref") => `(tactic| (k_here; k_dflt (refine' rep_none_r ?F ?N ?m ?a ?b ?_; (case F => k_asm); (case N => k_asm); (case m => k_mem); (case a => omega); (case b => omega)); intro D' h' F' N' l1; (try k_lt l1); (try k_sweep)))
local macro_rules | `(tactic| walk_at "binaryOp Add ref ref") => `(tactic| (k_here; k_dflt (refine' add_lst ?F ?N ?m ?b ?z ?_; (case F => k_asm); (case N => k_asm); (case m => k_mem); (case b => k_mem); (case z => (simp only [List.length_append, List.length_replicate]; (try rw [IntsAre.length (by assumption)]); (try simp only [rangeKs_length]); omega))); intro D' h' F' N' l1; (try k_lt l1); (try k_sweep)))
local macro_rules | `(tactic| walk_at "eval ListComp") => `(tactic| (k_here; (with_reducible rename RowsN _ => hRn); k_dflt (refine listComp_R hRn (by k_asm) (by with_unfolding_all rfl) (by decide) (by rfl) (by decide) (by rfl) ?_)))
local macro_rules | `(tactic| k_all) => `(tactic| exact all_off (by assumption))
local macro_rules | `(tactic| walk_at "SrcC") => `(tactic| (k_here; k_dflt (refine ⟨_, _, _, _, _, _, rfl, rfl, by k_asm, by k_asm, by assumption, ⟨by omega, by omega, by decide, by decide⟩, ?_⟩; intro g9)))
local macro_rules | `(tactic| walk_at "subscriptTail Name Slice ref ref") => `(tactic| (k_here; k_dflt (refine' row_slice ?F ?N ?m ?d ?a ?b ?c ?sm ?_ ?s ?t; (case F => k_asm); (case N => k_asm); (case m => k_mem); (case d => exact days_is (by assumption) (by assumption) (by omega) (by omega) rfl); (case a => omega); (case b => rfl); (case c => omega); (case sm => omega); (case s => with_unfolding_all rfl); (case t => kmk_pure)); intro D' o' h' F' N' l1 hrow'; (try k_lt l1); (try k_sweep)))
local macro_rules | `(tactic| walk_at "CompEnd") => `(tactic| (k_here; k_dflt (refine' compEnd1 ?F ?N ?off ?a ?b ?c ?_; (case F => k_asm); (case N => k_asm); (case off => first | assumption | (simp only [LCg.Off3, and_true]; assumption)); (case a => omega); (case b => omega); (case c => omega))))
section
variable {w : World} {p : Program} {loose : List Str} {mean : ExcName → Option Value} {mg mb : Str → Option Value}
theorem helper_4 {sw ml : Int} {t u : Tok} (h1 : 0 ≤ sw) (h2 : sw < 7) (h3 : 28 ≤ ml) (h4 : ml ≤ 31) (h5 : 21 < (sw + 1) % 7 + ml) (h6 : (sw + 1) % 7 + ml ≤ 28) : Claim4 w p loose mean mg mb 71 2 [.int sw t, .int ml u] ((sw + 1) % 7) ml := by
  unfold Claim4
  w_top off
  k_fill
  intro dp un gd cn cs a ccd cl outer A₀ base h₀ L mm news s Q E B F X N T hk hdp hu hret
  have hR : RowsN 4 := trivial
  refine wpAny_call ?_
  k_dflt (refine' code_defC ?k1 ?k2 ?k3 ?k4 ?k5 ?kA ?kF ?kK ?k6 ?k7 ?k8 ?k9 ?kB ?kD ?_ ?c2 ?c3 ?c4; (case kA => exact rfl); (case kF => exact rfl); (case kK => assumption); (case k1 => k_asm); (case k2 => k_asm); (case k3 => k_asm); (case k4 => k_asm); (case k5 => k_asm); (case k6 => k_is); (case k7 => k_is); (case k8 => ktr_room); (case k9 => exact BindsTo.of_eq rfl); (case kB => exact rfl); (case kD => decide +kernel); (case c2 => exact rfl); (case c3 => exact rfl); (case c4 => exact rfl); k_whole; intro g' L' h' tk' cells' FG' F' N' Y' B' X' T' l1; (try k_lt l1); k_cells Y'; (try simp only [List.cons_append, List.nil_append] at N'); (try dsimp only); (try k_lift B'); (try k_fold))
  k_steps
  all_goals (refine' hret _ _ _ _ _ _ _ _ _ _ _ _ (by k_asm) (cb_drop ?cbN ?cbS) ?r0 ?r1 ?r2 ?r3
             (case cbN => assumption)
             (case cbS => repeat (first | refine List.forall_mem_cons.mpr ⟨by k_mem, ?_⟩ | exact (fun p hp => (by repeat (first | exact hp | apply List.Mem.tail)))))
             (case r0 => exact row_at (by assumption) (by decide))
             (case r1 => exact row_at (by assumption) (by decide))
             (case r2 => exact row_at (by assumption) (by decide))
             (case r3 => exact row_at (by assumption) (by decide)))
end
end

section
local macro_rules | `(tactic| walk_at "my pad") => `(tactic| skip)
local macro_rules | `(tactic| walk_at "binaryOp Add float float") => `(tactic| ((refine add_ff (by assumption) (by first | assumption | exact fq_lit_half) (by omega) ?_); intro y' hy'; (try dsimp only)))
local macro_rules | `(tactic| walk_at "binaryOp Sub float float") => `(tactic| ((refine sub_ff (by assumption) (by assumption) (by omega) ?_); intro y' hy'; (try dsimp only)))
local macro_rules | `(tactic| walk_at "binaryOp Add float int") => `(tactic| ((refine add_fi (by assumption) (by omega) (by omega) ?_); intro y' hy'; (try dsimp only)))
local macro_rules | `(tactic| walk_at "binaryOp Sub float int") => `(tactic| ((refine sub_fi (by first | assumption | exact fq_epoch) (by omega) (by omega) ?_); intro y' hy'; (try dsimp only)))
local macro_rules | `(tactic| walk_at "call builtin:math.trunc") => `(tactic| ((refine trunc_w (by assumption) (by omega) ?_); intro r' t' hr'; (try dsimp only)))
local macro_rules | `(tactic| walk_at "call builtin:math.floor") => `(tactic| ((refine floor_w (by first | assumption | exact fl_of_fq (by assumption)) ?_); (try dsimp only)))
local macro_rules | `(tactic| walk_at "binaryOp Div int int") => `(tactic| ((refine div_iw rfl (by decide) (by decide) (by omega) ?_); intro y' hy'; (try dsimp only)))
local macro_rules | `(tactic| walk_at "binaryOp Mod int int") => `(tactic| ((refine mod_p (by decide) ?_); (try dsimp only)))
local macro_rules | `(tactic| walk_at "binaryOp FloorDiv int int") => `(tactic| ((refine fdiv_p (by decide) (PyProof.noPylong_of_log2 (by decide +kernel)) ?_); (try dsimp only)))
local macro_rules | `(tactic| walk_at "my enter") => `(tactic| (unfold Claim; k_fill; intro dp un gd cn cs a ccd cl outer A₀ base h₀ L m news s Q E B F X N T hk hdp hu hret; refine wpAny_call ?_; k_dflt cell_enter; k_steps))
local macro_rules | `(tactic| walk_at "eval Call") => `(tactic| (k_here; (with_reducible show wpAny _ _ (eval (Expr.Call (Expr.Name _ _) _ [] _) _) _ _ _); refine Call_ ?_))
local macro_rules | `(tactic| walk_at "ite") => `(tactic| (first
  | (refine ite_bt ?hb ?_; (case hb => first | assumption | (simp only [decide_eq_true_eq, Bool.not_eq_true', decide_eq_false_iff_not, beq_iff_eq, bne_iff_ne, Bool.and_eq_true, Bool.or_eq_true, beq_eq_false_iff_ne, bne_eq_false_iff_eq]; omega)))
  | (refine ite_bf ?hb ?_; (case hb => first | assumption | (simp only [decide_eq_true_eq, Bool.not_eq_false', decide_eq_false_iff_not, beq_iff_eq, bne_iff_ne, Bool.and_eq_false_iff, Bool.or_eq_false_iff, beq_eq_false_iff_ne, bne_eq_false_iff_eq]; omega)))))
local macro_rules | `(tactic| walk_at "compareOp In int ref") => `(tactic| (k_here; k_dflt (refine' in_tup4 ?F ?X ?l ?i ?_; (case F => k_asm); (case X => k_asm); (case l => k_is); (case i => repeat constructor)); (try dsimp only)))
local macro_rules | `(tactic| walk_at "call ref") => `(tactic| (k_here; (with_reducible show wpAny _ _ (call (Value.ref 66) _) _ _ _); k_dflt (refine' jwday_c ?a0 ?a1 _ _ _ _ _ _ _ _ _ _ _ _ _ _ _ _ _ _ ?k1 ?k2 ?k3 ?k4 ?k5 ?kK ?kd ?ku ?_; (case a0 => assumption); (case a1 => omega); (case k1 => k_asm); (case k2 => k_asm); (case k3 => k_asm); (case k4 => k_asm); (case k5 => k_asm); (case kK => first | exact rfl | assumption); (case kd => ktr_room); (case ku => ktr_units)); intro r9 h9 tk9 F9 N9 e9; obtain ⟨t9, e9⟩ := e9; subst e9; (try dsimp only); (try k_sweep); (try k_fold)))
local macro_rules | `(tactic| walk_at "call ref") => `(tactic| (k_here; (with_reducible show wpAny _ _ (call (Value.ref 391) _) _ _ _); k_dflt (refine' isleap_c _ _ _ _ _ _ _ _ _ _ _ _ _ _ _ _ _ _ ?k1 ?k2 ?k3 ?k4 ?k5 ?kK ?kd ?ku ?_; (case k1 => k_asm); (case k2 => k_asm); (case k3 => k_asm); (case k4 => k_asm); (case k5 => k_asm); (case kK => first | exact rfl | assumption); (case kd => ktr_room); (case ku => ktr_units)); intro r9 h9 tk9 F9 N9 e9; subst e9; (try dsimp only); (try k_sweep); (try k_fold)))
local macro_rules | `(tactic| walk_at "binaryOp Mult ref int") => `(tactic| (k_here; k_dflt (refine' rep_none ?F ?N ?m ?a ?b ?_; (case F => k_asm); (case N => k_asm); (case m => k_mem); (case a => omega); (case b => omega)); intro D' h' F' N' l1; (try k_lt l1); (try k_sweep)))
local macro_rules | `(tactic| walk_at "binaryOp Mult int ref") => `(tactic| (k_here; k_dflt (refine' rep_none_r ?F ?N ?m ?a ?b ?_; (case F => k_asm); (case N => k_asm); (case m => k_mem); (case a => omega); (case b => omega)); intro D' h' F' N' l1; (try k_lt l1); (try k_sweep)))
local macro_rules | `(tactic| walk_at "binaryOp Add ref ref") => `(tactic| (k_here; k_dflt (refine' add_lst ?F ?N ?m ?b ?z ?_; (case F => k_asm); (case N => k_asm); (case m => k_mem); (case b => k_mem); (case z => (simp only [List.length_append, List.length_replicate]; (try rw [IntsAre.length (by assumption)]); (try simp only [rangeKs_length]); omega))); intro D' h' F' N' l1; (try k_lt l1); (try k_sweep)))
local macro_rules | `(tactic| walk_at "eval ListComp") => `(tactic| (k_here; (with_reducible rename RowsN _ => hRn); k_dflt (refine listComp_R hRn (by k_asm) (by with_unfolding_all rfl) (by decide) (by rfl) (by decide) (by rfl) ?_)))
local macro_rules | `(tactic| k_all) => `(tactic| exact all_off (by assumption))
local macro_rules | `(tactic| walk_at "SrcC") => `(tactic| (k_here; k_dflt (refine ⟨_, _, _, _, _, _, rfl, rfl, by k_asm, by k_asm, by assumption, ⟨by omega, by omega, by decide, by decide⟩, ?_⟩; intro g9)))
local macro_rules | `(tactic| walk_at "subscriptTail Name Slice ref ref") => `(tactic| (k_here; k_dflt (refine' row_slice ?F ?N ?m ?d ?a ?b ?c ?sm ?_ ?s ?t; (case F => k_asm); (case N => k_asm); (case m => k_mem); (case d => exact days_is (by assumption) (by assumption) (by omega) (by omega) rfl); (case a => omega); (case b => rfl); (case c => omega); (case sm => omega); (case s => with_unfolding_all rfl); (case t => kmk_pure)); intro D' o' h' F' N' l1 hrow'; (try k_lt l1); (try k_sweep)))
local macro_rules | `(tactic| walk_at "CompEnd") => `(tactic| (k_here; k_dflt (refine' compEnd1 ?F ?N ?off ?a ?b ?c ?_; (case F => k_asm); (case N => k_asm); (case off => first | assumption | (simp only [LCg.Off3, and_true]; assumption)); (case a => omega); (case b => omega); (case c => omega))))
section
variable {w : World} {p : Program} {loose : List Str} {mean : ExcName → Option Value} {mg mb : Str → Option Value}
theorem helper_5 {sw ml : Int} {t u : Tok} (h1 : 0 ≤ sw) (h2 : sw < 7) (h3 : 28 ≤ ml) (h4 : ml ≤ 31) (h5 : 28 < (sw + 1) % 7 + ml) (h6 : (sw + 1) % 7 + ml ≤ 35) : Claim5 w p loose mean mg mb 71 2 [.int sw t, .int ml u] ((sw + 1) % 7) ml := by
  unfold Claim5
  w_top off
  k_fill
  intro dp un gd cn cs a ccd cl outer A₀ base h₀ L mm news s Q E B F X N T hk hdp hu hret
  have hR : RowsN 5 := trivial
  refine wpAny_call ?_
  k_dflt (refine' code_defC ?k1 ?k2 ?k3 ?k4 ?k5 ?kA ?kF ?kK ?k6 ?k7 ?k8 ?k9 ?kB ?kD ?_ ?c2 ?c3 ?c4; (case kA => exact rfl); (case kF => exact rfl); (case kK => assumption); (case k1 => k_asm); (case k2 => k_asm); (case k3 => k_asm); (case k4 => k_asm); (case k5 => k_asm); (case k6 => k_is); (case k7 => k_is); (case k8 => ktr_room); (case k9 => exact BindsTo.of_eq rfl); (case kB => exact rfl); (case kD => decide +kernel); (case c2 => exact rfl); (case c3 => exact rfl); (case c4 => exact rfl); k_whole; intro g' L' h' tk' cells' FG' F' N' Y' B' X' T' l1; (try k_lt l1); k_cells Y'; (try simp only [List.cons_append, List.nil_append] at N'); (try dsimp only); (try k_lift B'); (try k_fold))
  k_steps
  all_goals (refine' hret _ _ _ _ _ _ _ _ _ _ _ _ _ _ (by k_asm) (cb_drop ?cbN ?cbS) ?r0 ?r1 ?r2 ?r3 ?r4
             (case cbN => assumption)
             (case cbS => repeat (first | refine List.forall_mem_cons.mpr ⟨by k_mem, ?_⟩ | exact (fun p hp => (by repeat (first | exact hp | apply List.Mem.tail)))))
             (case r0 => exact row_at (by assumption) (by decide))
             (case r1 => exact row_at (by assumption) (by decide))
             (case r2 => exact row_at (by assumption) (by decide))
             (case r3 => exact row_at (by assumption) (by decide))
             (case r4 => exact row_at (by assumption) (by decide)))
end
end

section
local macro_rules | `(tactic| walk_at "binaryOp Add float float") => `(tactic| ((refine add_ff (by assumption) (by first | assumption | exact fq_lit_half) (by omega) ?_); intro y' hy'; (try dsimp only)))
local macro_rules | `(tactic| walk_at "binaryOp Sub float float") => `(tactic| ((refine sub_ff (by assumption) (by assumption) (by omega) ?_); intro y' hy'; (try dsimp only)))
local macro_rules | `(tactic| walk_at "binaryOp Add float int") => `(tactic| ((refine add_fi (by assumption) (by omega) (by omega) ?_); intro y' hy'; (try dsimp only)))
local macro_rules | `(tactic| walk_at "binaryOp Sub float int") => `(tactic| ((refine sub_fi (by first | assumption | exact fq_epoch) (by omega) (by omega) ?_); intro y' hy'; (try dsimp only)))
local macro_rules | `(tactic| walk_at "call builtin:math.trunc") => `(tactic| ((refine trunc_w (by assumption) (by omega) ?_); intro r' t' hr'; (try dsimp only)))
local macro_rules | `(tactic| walk_at "call builtin:math.floor") => `(tactic| ((refine floor_w (by first | assumption | exact fl_of_fq (by assumption)) ?_); (try dsimp only)))
local macro_rules | `(tactic| walk_at "binaryOp Div int int") => `(tactic| ((refine div_iw rfl (by decide) (by decide) (by omega) ?_); intro y' hy'; (try dsimp only)))
local macro_rules | `(tactic| walk_at "binaryOp Mod int int") => `(tactic| ((refine mod_p (by decide) ?_); (try dsimp only)))
local macro_rules | `(tactic| walk_at "binaryOp FloorDiv int int") => `(tactic| ((refine fdiv_p (by decide) (PyProof.noPylong_of_log2 (by decide +kernel)) ?_); (try dsimp only)))
local macro_rules | `(tactic| walk_at "my enter") => `(tactic| (unfold Claim; k_fill; intro dp un gd cn cs a ccd cl outer A₀ base h₀ L m news s Q E B F X N T hk hdp hu hret; refine wpAny_call ?_; k_dflt cell_enter; k_steps))
local macro_rules | `(tactic| walk_at "eval Call") => `(tactic| (k_here; (with_reducible show wpAny _ _ (eval (Expr.Call (Expr.Name _ _) _ [] _) _) _ _ _); refine Call_ ?_))
local macro_rules | `(tactic| walk_at "ite") => `(tactic| (first
  | (refine ite_bt ?hb ?_; (case hb => first | assumption | (simp only [decide_eq_true_eq, Bool.not_eq_true', decide_eq_false_iff_not, beq_iff_eq, bne_iff_ne, Bool.and_eq_true, Bool.or_eq_true, beq_eq_false_iff_ne, bne_eq_false_iff_eq]; omega)))
  | (refine ite_bf ?hb ?_; (case hb => first | assumption | (simp only [decide_eq_true_eq, Bool.not_eq_false', decide_eq_false_iff_not, beq_iff_eq, bne_iff_ne, Bool.and_eq_false_iff, Bool.or_eq_false_iff, beq_eq_false_iff_ne, bne_eq_false_iff_eq]; omega)))))
local macro_rules | `(tactic| walk_at "compareOp In int ref") => `(tactic| (k_here; k_dflt (refine' in_tup4 ?F ?X ?l ?i ?_; (case F => k_asm); (case X => k_asm); (case l => k_is); (case i => repeat constructor)); (try dsimp only)))
local macro_rules | `(tactic| walk_at "call ref") => `(tactic| (k_here; (with_reducible show wpAny _ _ (call (Value.ref 66) _) _ _ _); k_dflt (refine' jwday_c ?a0 ?a1 _ _ _ _ _ _ _ _ _ _ _ _ _ _ _ _ _ _ ?k1 ?k2 ?k3 ?k4 ?k5 ?kK ?kd ?ku ?_; (case a0 => assumption); (case a1 => omega); (case k1 => k_asm); (case k2 => k_asm); (case k3 => k_asm); (case k4 => k_asm); (case k5 => k_asm); (case kK => first | exact rfl | assumption); (case kd => ktr_room); (case ku => ktr_units)); intro r9 h9 tk9 F9 N9 e9; obtain ⟨t9, e9⟩ := e9; subst e9; (try dsimp only); (try k_sweep); (try k_fold)))
local macro_rules | `(tactic| walk_at "call ref") => `(tactic| (k_here; (with_reducible show wpAny _ _ (call (Value.ref 391) _) _ _ _); k_dflt (refine' isleap_c _ _ _ _ _ _ _ _ _ _ _ _ _ _ _ _ _ _ ?k1 ?k2 ?k3 ?k4 ?k5 ?kK ?kd ?ku ?_; (case k1 => k_asm); (case k2 => k_asm); (case k3 => k_asm); (case k4 => k_asm); (case k5 => k_asm); (case kK => first | exact rfl | assumption); (case kd => ktr_room); (case ku => ktr_units)); intro r9 h9 tk9 F9 N9 e9; subst e9; (try dsimp only); (try k_sweep); (try k_fold)))
local macro_rules | `(tactic| walk_at "binaryOp Mult ref int") => `(tactic| (k_here; k_dflt (refine' rep_none ?F ?N ?m ?a ?b ?_; (case F => k_asm); (case N => k_asm); (case m => k_mem); (case a => omega); (case b => omega)); intro D' h' F' N' l1; (try k_lt l1); (try k_sweep)))
local macro_rules | `(tactic| walk_at "binaryOp Mult int ref") => `(tactic| (k_here; k_dflt (refine' rep_none_r ?F ?N ?m ?a ?b ?_; (case F => k_asm); (case N => k_asm); (case m => k_mem); (case a => omega); (case b => omega)); intro D' h' F' N' l1; (try k_lt l1); (try k_sweep)))
local macro_rules | `(tactic| walk_at "binaryOp Add ref ref") => `(tactic| (k_here; k_dflt (refine' add_lst ?F ?N ?m ?b ?z ?_; (case F => k_asm); (case N => k_asm); (case m => k_mem); (case b => k_mem); (case z => (simp only [List.length_append, List.length_replicate]; (try rw [IntsAre.length (by assumption)]); (try simp only [rangeKs_length]); omega))); intro D' h' F' N' l1; (try k_lt l1); (try k_sweep)))
local macro_rules | `(tactic| walk_at "eval ListComp") => `(tactic| (k_here; (with_reducible rename RowsN _ => hRn); k_dflt (refine listComp_R hRn (by k_asm) (by with_unfolding_all rfl) (by decide) (by rfl) (by decide) (by rfl) ?_)))
local macro_rules | `(tactic| k_all) => `(tactic| exact all_off (by assumption))
local macro_rules | `(tactic| walk_at "SrcC") => `(tactic| (k_here; k_dflt (refine ⟨_, _, _, _, _, _, rfl, rfl, by k_asm, by k_asm, by assumption, ⟨by omega, by omega, by decide, by decide⟩, ?_⟩; intro g9)))
local macro_rules | `(tactic| walk_at "subscriptTail Name Slice ref ref") => `(tactic| (k_here; k_dflt (refine' row_slice ?F ?N ?m ?d ?a ?b ?c ?sm ?_ ?s ?t; (case F => k_asm); (case N => k_asm); (case m => k_mem); (case d => exact days_is (by assumption) (by assumption) (by omega) (by omega) rfl); (case a => omega); (case b => rfl); (case c => omega); (case sm => omega); (case s => with_unfolding_all rfl); (case t => kmk_pure)); intro D' o' h' F' N' l1 hrow'; (try k_lt l1); (try k_sweep)))
local macro_rules | `(tactic| walk_at "CompEnd") => `(tactic| (k_here; k_dflt (refine' compEnd1 ?F ?N ?off ?a ?b ?c ?_; (case F => k_asm); (case N => k_asm); (case off => first | assumption | (simp only [LCg.Off3, and_true]; assumption)); (case a => omega); (case b => omega); (case c => omega))))
section
variable {w : World} {p : Program} {loose : List Str} {mean : ExcName → Option Value} {mg mb : Str → Option Value}
theorem helper_6 {sw ml : Int} {t u : Tok} (h1 : 0 ≤ sw) (h2 : sw < 7) (h3 : 28 ≤ ml) (h4 : ml ≤ 31) (h5 : 35 < (sw + 1) % 7 + ml) (h6 : (sw + 1) % 7 + ml ≤ 42) : Claim6 w p loose mean mg mb 71 2 [.int sw t, .int ml u] ((sw + 1) % 7) ml := by
  unfold Claim6
  w_top off
  k_fill
  intro dp un gd cn cs a ccd cl outer A₀ base h₀ L mm news s Q E B F X N T hk hdp hu hret
  have hR : RowsN 6 := trivial
  refine wpAny_call ?_
  k_dflt (refine' code_defC ?k1 ?k2 ?k3 ?k4 ?k5 ?kA ?kF ?kK ?k6 ?k7 ?k8 ?k9 ?kB ?kD ?_ ?c2 ?c3 ?c4; (case kA => exact rfl); (case kF => exact rfl); (case kK => assumption); (case k1 => k_asm); (case k2 => k_asm); (case k3 => k_asm); (case k4 => k_asm); (case k5 => k_asm); (case k6 => k_is); (case k7 => k_is); (case k8 => ktr_room); (case k9 => exact BindsTo.of_eq rfl); (case kB => exact rfl); (case kD => decide +kernel); (case c2 => exact rfl); (case c3 => exact rfl); (case c4 => exact rfl); k_whole; intro g' L' h' tk' cells' FG' F' N' Y' B' X' T' l1; (try k_lt l1); k_cells Y'; (try simp only [List.cons_append, List.nil_append] at N'); (try dsimp only); (try k_lift B'); (try k_fold))
  k_steps
  all_goals (refine' hret _ _ _ _ _ _ _ _ _ _ _ _ _ _ _ _ (by k_asm) (cb_drop ?cbN ?cbS) ?r0 ?r1 ?r2 ?r3 ?r4 ?r5
             (case cbN => assumption)
             (case cbS => repeat (first | refine List.forall_mem_cons.mpr ⟨by k_mem, ?_⟩ | exact (fun p hp => (by repeat (first | exact hp | apply List.Mem.tail)))))
             (case r0 => exact row_at (by assumption) (by decide))
             (case r1 => exact row_at (by assumption) (by decide))
             (case r2 => exact row_at (by assumption) (by decide))
             (case r3 => exact row_at (by assumption) (by decide))
             (case r4 => exact row_at (by assumption) (by decide))
             (case r5 => exact row_at (by assumption) (by decide)))
end
end

section
local macro_rules | `(tactic| walk_at "binaryOp Add float float") => `(tactic| ((refine add_ff (by assumption) (by first | assumption | exact fq_lit_half) (by omega) ?_); intro y' hy'; (try dsimp only)))
local macro_rules | `(tactic| walk_at "binaryOp Sub float float") => `(tactic| ((refine sub_ff (by assumption) (by assumption) (by omega) ?_); intro y' hy'; (try dsimp only)))
local macro_rules | `(tactic| walk_at "binaryOp Add float int") => `(tactic| ((refine add_fi (by assumption) (by omega) (by omega) ?_); intro y' hy'; (try dsimp only)))
local macro_rules | `(tactic| walk_at "binaryOp Sub float int") => `(tactic| ((refine sub_fi (by first | assumption | exact fq_epoch) (by omega) (by omega) ?_); intro y' hy'; (try dsimp only)))
local macro_rules | `(tactic| walk_at "call builtin:math.trunc") => `(tactic| ((refine trunc_w (by assumption) (by omega) ?_); intro r' t' hr'; (try dsimp only)))
local macro_rules | `(tactic| walk_at "call builtin:math.floor") => `(tactic| ((refine floor_w (by first | assumption | exact fl_of_fq (by assumption)) ?_); (try dsimp only)))
local macro_rules | `(tactic| walk_at "binaryOp Div int int") => `(tactic| ((refine div_iw rfl (by decide) (by decide) (by omega) ?_); intro y' hy'; (try dsimp only)))
local macro_rules | `(tactic| walk_at "binaryOp Mod int int") => `(tactic| ((refine mod_p (by decide) ?_); (try dsimp only)))
local macro_rules | `(tactic| walk_at "binaryOp FloorDiv int int") => `(tactic| ((refine fdiv_p (by decide) (PyProof.noPylong_of_log2 (by decide +kernel)) ?_); (try dsimp only)))
local macro_rules | `(tactic| walk_at "my enter") => `(tactic| (unfold Claim; k_fill; intro dp un gd cn cs a ccd cl outer A₀ base h₀ L m news s Q E B F X N T hk hdp hu hret; refine wpAny_call ?_; k_dflt cell_enter; k_steps))
local macro_rules | `(tactic| walk_at "eval Call") => `(tactic| (k_here; (with_reducible show wpAny _ _ (eval (Expr.Call (Expr.Name _ _) _ [] _) _) _ _ _); refine Call_ ?_))
local macro_rules | `(tactic| walk_at "ite") => `(tactic| (first
  | (refine ite_bt ?hb ?_; (case hb => first | assumption | (simp only [decide_eq_true_eq, Bool.not_eq_true', decide_eq_false_iff_not, beq_iff_eq, bne_iff_ne, Bool.and_eq_true, Bool.or_eq_true, beq_eq_false_iff_ne, bne_eq_false_iff_eq]; omega)))
  | (refine ite_bf ?hb ?_; (case hb => first | assumption | (simp only [decide_eq_true_eq, Bool.not_eq_false', decide_eq_false_iff_not, beq_iff_eq, bne_iff_ne, Bool.and_eq_false_iff, Bool.or_eq_false_iff, beq_eq_false_iff_ne, bne_eq_false_iff_eq]; omega)))))
local macro_rules | `(tactic| walk_at "compareOp In int ref") => `(tactic| (k_here; k_dflt (refine' in_tup4 ?F ?X ?l ?i ?_; (case F => k_asm); (case X => k_asm); (case l => k_is); (case i => repeat constructor)); (try dsimp only)))
local macro_rules | `(tactic| walk_at "call ref") => `(tactic| (k_here; (with_reducible show wpAny _ _ (call (Value.ref 66) _) _ _ _); k_dflt (refine' jwday_c ?a0 ?a1 _ _ _ _ _ _ _ _ _ _ _ _ _ _ _ _ _ _ ?k1 ?k2 ?k3 ?k4 ?k5 ?kK ?kd ?ku ?_; (case a0 => assumption); (case a1 => omega); (case k1 => k_asm); (case k2 => k_asm); (case k3 => k_asm); (case k4 => k_asm); (case k5 => k_asm); (case kK => first | exact rfl | assumption); (case kd => ktr_room); (case ku => ktr_units)); intro r9 h9 tk9 F9 N9 e9; obtain ⟨t9, e9⟩ := e9; subst e9; (try dsimp only); (try k_sweep); (try k_fold)))
local macro_rules | `(tactic| walk_at "call ref") => `(tactic| (k_here; (with_reducible show wpAny _ _ (call (Value.ref 391) _) _ _ _); k_dflt (refine' isleap_c _ _ _ _ _ _ _ _ _ _ _ _ _ _ _ _ _ _ ?k1 ?k2 ?k3 ?k4 ?k5 ?kK ?kd ?ku ?_; (case k1 => k_asm); (case k2 => k_asm); (case k3 => k_asm); (case k4 => k_asm); (case k5 => k_asm); (case kK => first | exact rfl | assumption); (case kd => ktr_room); (case ku => ktr_units)); intro r9 h9 tk9 F9 N9 e9; subst e9; (try dsimp only); (try k_sweep); (try k_fold)))
local macro_rules | `(tactic| walk_at "call ref") => `(tactic| (k_here; (with_reducible show wpAny _ _ (call (Value.ref 434) _) _ _ _); k_dflt (refine' to_jd_g_c ?a0 ?a1 ?a2 ?a3 ?a4 ?a5 _ _ _ _ _ _ _ _ _ _ _ _ _ _ _ _ _ _ ?k1 ?k2 ?k3 ?k4 ?k5 ?kK ?kd ?ku ?_; (case a0 => omega); (case a1 => omega); (case a2 => omega); (case a3 => omega); (case a4 => omega); (case a5 => first | assumption | (exact Int.le_trans (by decide) (mlen_b _ _).1)); (case k1 => k_asm); (case k2 => k_asm); (case k3 => k_asm); (case k4 => k_asm); (case k5 => k_asm); (case kK => first | exact rfl | assumption); (case kd => ktr_room); (case ku => ktr_units)); intro r9 h9 tk9 F9 N9 e9; obtain ⟨z9, t9, e9, hz9⟩ := e9; subst e9; (try dsimp only); (try k_sweep); (try k_fold)))
local macro_rules | `(tactic| walk_at "call ref") => `(tactic| (k_here; (with_reducible show wpAny _ _ (call (Value.ref 71) _) _ _ _); (k_dflt (refine' helper_4 ?a0 ?a1 ?a2 ?a3 ?a4 ?a5 _ _ _ _ _ _ _ _ _ _ _ _ _ _ _ _ _ _ ?k1 ?k2 ?k3 ?k4 ?k5 ?kK ?kd ?ku ?_; (case a0 => omega); (case a1 => omega); (case a2 => exact (mlen_b _ _).1); (case a3 => exact (mlen_b _ _).2); (case a4 => assumption); (case a5 => assumption); (case k1 => k_asm); (case k2 => k_asm); (case k3 => k_asm); (case k4 => k_asm); (case k5 => k_asm); (case kK => first | exact rfl | assumption); (case kd => ktr_room); (case ku => ktr_units)); intro T9 r0 o0 r1 o1 r2 o2 r3 o3 h9 tk9 k9 F9 N9 hrow0 hrow1 hrow2 hrow3; (try dsimp only); (try k_sweep); (try k_fold))))
local macro_rules | `(tactic| walk_at "call ref") => `(tactic| (k_here; (with_reducible show wpAny _ _ (call (Value.ref 441) _) _ _ _); k_dflt (refine' mlen_g_c ?a0 ?a1 _ _ _ _ _ _ _ _ _ _ _ _ _ _ _ _ _ _ ?k1 ?k2 ?k3 ?k4 ?k5 ?kK ?kd ?ku ?_; (case a0 => omega); (case a1 => omega); (case k1 => k_asm); (case k2 => k_asm); (case k3 => k_asm); (case k4 => k_asm); (case k5 => k_asm); (case kK => first | exact rfl | assumption); (case kd => ktr_room); (case ku => ktr_units)); intro r9 h9 tk9 F9 N9 e9; obtain ⟨t9, e9⟩ := e9; subst e9; (try dsimp only); (try k_sweep); (try k_fold)))
section
variable {w : World} {p : Program} {loose : List Str} {mean : ExcName → Option Value} {mg mb : Str → Option Value}
theorem cal_4 {y m : Int} {t u : Tok} (hy1 : -10000010 < y) (hy2 : y < 10000010) (h1 : 1 ≤ m) (h2 : m ≤ 12) (h5 : 21 < ((gN y m 1 + 1) % 7 + 1) % 7 + mlenI y m) (h6 : ((gN y m 1 + 1) % 7 + 1) % 7 + mlenI y m ≤ 28) :
    Claim4 w p loose mean mg mb 448 9 [.int y t, .int m u] (((gN y m 1 + 1) % 7 + 1) % 7) (mlenI y m) := by
  unfold Claim4
  w_top off
  k_fill
  intro dp un gd cn cs a ccd cl outer A₀ base h₀ L mm news s Q E B F X N T hk hdp hu hret
  have hgb := gN_b hy1 hy2 h1 h2 (d := 1) (by decide) (by decide)
  refine wpAny_call ?_
  k_dflt cell_enter
  k_steps
  all_goals (refine' hret _ _ _ _ _ _ _ _ _ _ _ _ (by k_asm) ?cbN ?r0 ?r1 ?r2 ?r3
             (case cbN => assumption)
             (case r0 => assumption)
             (case r1 => assumption)
             (case r2 => assumption)
             (case r3 => assumption))
end
end

section
local macro_rules | `(tactic| walk_at "my pad") => `(tactic| skip)
local macro_rules | `(tactic| walk_at "binaryOp Add float float") => `(tactic| ((refine add_ff (by assumption) (by first | assumption | exact fq_lit_half) (by omega) ?_); intro y' hy'; (try dsimp only)))
local macro_rules | `(tactic| walk_at "binaryOp Sub float float") => `(tactic| ((refine sub_ff (by assumption) (by assumption) (by omega) ?_); intro y' hy'; (try dsimp only)))
local macro_rules | `(tactic| walk_at "binaryOp Add float int") => `(tactic| ((refine add_fi (by assumption) (by omega) (by omega) ?_); intro y' hy'; (try dsimp only)))
local macro_rules | `(tactic| walk_at "binaryOp Sub float int") => `(tactic| ((refine sub_fi (by first | assumption | exact fq_epoch) (by omega) (by omega) ?_); intro y' hy'; (try dsimp only)))
local macro_rules | `(tactic| walk_at "call builtin:math.trunc") => `(tactic| ((refine trunc_w (by assumption) (by omega) ?_); intro r' t' hr'; (try dsimp only)))
local macro_rules | `(tactic| walk_at "call builtin:math.floor") => `(tactic| ((refine floor_w (by first | assumption | exact fl_of_fq (by assumption)) ?_); (try dsimp only)))
local macro_rules | `(tactic| walk_at "binaryOp Div int int") => `(tactic| ((refine div_iw rfl (by decide) (by decide) (by omega) ?_); intro y' hy'; (try dsimp only)))
local macro_rules | `(tactic| walk_at "binaryOp Mod int int") => `(tactic| ((refine mod_p (by decide) ?_); (try dsimp only)))
local macro_rules | `(tactic| walk_at "binaryOp FloorDiv int int") => `(tactic| ((refine fdiv_p (by decide) (PyProof.noPylong_of_log2 (by decide +kernel)) ?_); (try dsimp only)))
local macro_rules | `(tactic| walk_at "my enter") => `(tactic| (unfold Claim; k_fill; intro dp un gd cn cs a ccd cl outer A₀ base h₀ L m news s Q E B F X N T hk hdp hu hret; refine wpAny_call ?_; k_dflt cell_enter; k_steps))
local macro_rules | `(tactic| walk_at "eval Call") => `(tactic| (k_here; (with_reducible show wpAny _ _ (eval (Expr.Call (Expr.Name _ _) _ [] _) _) _ _ _); refine Call_ ?_))
local macro_rules | `(tactic| walk_at "ite") => `(tactic| (first
  | (refine ite_bt ?hb ?_; (case hb => first | assumption | (simp only [decide_eq_true_eq, Bool.not_eq_true', decide_eq_false_iff_not, beq_iff_eq, bne_iff_ne, Bool.and_eq_true, Bool.or_eq_true, beq_eq_false_iff_ne, bne_eq_false_iff_eq]; omega)))
  | (refine ite_bf ?hb ?_; (case hb => first | assumption | (simp only [decide_eq_true_eq, Bool.not_eq_false', decide_eq_false_iff_not, beq_iff_eq, bne_iff_ne, Bool.and_eq_false_iff, Bool.or_eq_false_iff, beq_eq_false_iff_ne, bne_eq_false_iff_eq]; omega)))))
local macro_rules | `(tactic| walk_at "compareOp In int ref") => `(tactic| (k_here; k_dflt (refine' in_tup4 ?F ?X ?l ?i ?_; (case F => k_asm); (case X => k_asm); (case l => k_is); (case i => repeat constructor)); (try dsimp only)))
local macro_rules | `(tactic| walk_at "call ref") => `(tactic| (k_here; (with_reducible show wpAny _ _ (call (Value.ref 66) _) _ _ _); k_dflt (refine' jwday_c ?a0 ?a1 _ _ _ _ _ _ _ _ _ _ _ _ _ _ _ _ _ _ ?k1 ?k2 ?k3 ?k4 ?k5 ?kK ?kd ?ku ?_; (case a0 => assumption); (case a1 => omega); (case k1 => k_asm); (case k2 => k_asm); (case k3 => k_asm); (case k4 => k_asm); (case k5 => k_asm); (case kK => first | exact rfl | assumption); (case kd => ktr_room); (case ku => ktr_units)); intro r9 h9 tk9 F9 N9 e9; obtain ⟨t9, e9⟩ := e9; subst e9; (try dsimp only); (try k_sweep); (try k_fold)))
local macro_rules | `(tactic| walk_at "call ref") => `(tactic| (k_here; (with_reducible show wpAny _ _ (call (Value.ref 391) _) _ _ _); k_dflt (refine' isleap_c _ _ _ _ _ _ _ _ _ _ _ _ _ _ _ _ _ _ ?k1 ?k2 ?k3 ?k4 ?k5 ?kK ?kd ?ku ?_; (case k1 => k_asm); (case k2 => k_asm); (case k3 => k_asm); (case k4 => k_asm); (case k5 => k_asm); (case kK => first | exact rfl | assumption); (case kd => ktr_room); (case ku => ktr_units)); intro r9 h9 tk9 F9 N9 e9; subst e9; (try dsimp only); (try k_sweep); (try k_fold)))
local macro_rules | `(tactic| walk_at "call ref") => `(tactic| (k_here; (with_reducible show wpAny _ _ (call (Value.ref 434) _) _ _ _); k_dflt (refine' to_jd_g_c ?a0 ?a1 ?a2 ?a3 ?a4 ?a5 _ _ _ _ _ _ _ _ _ _ _ _ _ _ _ _ _ _ ?k1 ?k2 ?k3 ?k4 ?k5 ?kK ?kd ?ku ?_; (case a0 => omega); (case a1 => omega); (case a2 => omega); (case a3 => omega); (case a4 => omega); (case a5 => first | assumption | (exact Int.le_trans (by decide) (mlen_b _ _).1)); (case k1 => k_asm); (case k2 => k_asm); (case k3 => k_asm); (case k4 => k_asm); (case k5 => k_asm); (case kK => first | exact rfl | assumption); (case kd => ktr_room); (case ku => ktr_units)); intro r9 h9 tk9 F9 N9 e9; obtain ⟨z9, t9, e9, hz9⟩ := e9; subst e9; (try dsimp only); (try k_sweep); (try k_fold)))
local macro_rules | `(tactic| walk_at "call ref") => `(tactic| (k_here; (with_reducible show wpAny _ _ (call (Value.ref 71) _) _ _ _); (k_dflt (refine' helper_5 ?a0 ?a1 ?a2 ?a3 ?a4 ?a5 _ _ _ _ _ _ _ _ _ _ _ _ _ _ _ _ _ _ ?k1 ?k2 ?k3 ?k4 ?k5 ?kK ?kd ?ku ?_; (case a0 => omega); (case a1 => omega); (case a2 => exact (mlen_b _ _).1); (case a3 => exact (mlen_b _ _).2); (case a4 => assumption); (case a5 => assumption); (case k1 => k_asm); (case k2 => k_asm); (case k3 => k_asm); (case k4 => k_asm); (case k5 => k_asm); (case kK => first | exact rfl | assumption); (case kd => ktr_room); (case ku => ktr_units)); intro T9 r0 o0 r1 o1 r2 o2 r3 o3 r4 o4 h9 tk9 k9 F9 N9 hrow0 hrow1 hrow2 hrow3 hrow4; (try dsimp only); (try k_sweep); (try k_fold))))
local macro_rules | `(tactic| walk_at "call ref") => `(tactic| (k_here; (with_reducible show wpAny _ _ (call (Value.ref 441) _) _ _ _); k_dflt (refine' mlen_g_c ?a0 ?a1 _ _ _ _ _ _ _ _ _ _ _ _ _ _ _ _ _ _ ?k1 ?k2 ?k3 ?k4 ?k5 ?kK ?kd ?ku ?_; (case a0 => omega); (case a1 => omega); (case k1 => k_asm); (case k2 => k_asm); (case k3 => k_asm); (case k4 => k_asm); (case k5 => k_asm); (case kK => first | exact rfl | assumption); (case kd => ktr_room); (case ku => ktr_units)); intro r9 h9 tk9 F9 N9 e9; obtain ⟨t9, e9⟩ := e9; subst e9; (try dsimp only); (try k_sweep); (try k_fold)))
section
variable {w : World} {p : Program} {loose : List Str} {mean : ExcName → Option Value} {mg mb : Str → Option Value}
theorem cal_5 {y m : Int} {t u : Tok} (hy1 : -10000010 < y) (hy2 : y < 10000010) (h1 : 1 ≤ m) (h2 : m ≤ 12) (h5 : 28 < ((gN y m 1 + 1) % 7 + 1) % 7 + mlenI y m) (h6 : ((gN y m 1 + 1) % 7 + 1) % 7 + mlenI y m ≤ 35) :
    Claim5 w p loose mean mg mb 448 9 [.int y t, .int m u] (((gN y m 1 + 1) % 7 + 1) % 7) (mlenI y m) := by
  unfold Claim5
  w_top off
  k_fill
  intro dp un gd cn cs a ccd cl outer A₀ base h₀ L mm news s Q E B F X N T hk hdp hu hret
  have hgb := gN_b hy1 hy2 h1 h2 (d := 1) (by decide) (by decide)
  refine wpAny_call ?_
  k_dflt cell_enter
  k_steps
  all_goals (refine' hret _ _ _ _ _ _ _ _ _ _ _ _ _ _ (by k_asm) ?cbN ?r0 ?r1 ?r2 ?r3 ?r4
             (case cbN => assumption)
             (case r0 => assumption)
             (case r1 => assumption)
             (case r2 => assumption)
             (case r3 => assumption)
             (case r4 => assumption))
end
end

section
local macro_rules | `(tactic| walk_at "binaryOp Add float float") => `(tactic| ((refine add_ff (by assumption) (by first | assumption | exact fq_lit_half) (by omega) ?_); intro y' hy'; (try dsimp only)))
local macro_rules | `(tactic| walk_at "binaryOp Sub float float") => `(tactic| ((refine sub_ff (by assumption) (by assumption) (by omega) ?_); intro y' hy'; (try dsimp only)))
local macro_rules | `(tactic| walk_at "binaryOp Add float int") => `(tactic| ((refine add_fi (by assumption) (by omega) (by omega) ?_); intro y' hy'; (try dsimp only)))
local macro_rules | `(tactic| walk_at "binaryOp Sub float int") => `(tactic| ((refine sub_fi (by first | assumption | exact fq_epoch) (by omega) (by omega) ?_); intro y' hy'; (try dsimp only)))
local macro_rules | `(tactic| walk_at "call builtin:math.trunc") => `(tactic| ((refine trunc_w (by assumption) (by omega) ?_); intro r' t' hr'; (try dsimp only)))
local macro_rules | `(tactic| walk_at "call builtin:math.floor") => `(tactic| ((refine floor_w (by first | assumption | exact fl_of_fq (by assumption)) ?_); (try dsimp only)))
local macro_rules | `(tactic| walk_at "binaryOp Div int int") => `(tactic| ((refine div_iw rfl (by decide) (by decide) (by omega) ?_); intro y' hy'; (try dsimp only)))
local macro_rules | `(tactic| walk_at "binaryOp Mod int int") => `(tactic| ((refine mod_p (by decide) ?_); (try dsimp only)))
local macro_rules | `(tactic| walk_at "binaryOp FloorDiv int int") => `(tactic| ((refine fdiv_p (by decide) (PyProof.noPylong_of_log2 (by decide +kernel)) ?_); (try dsimp only)))
local macro_rules | `(tactic| walk_at "my enter") => `(tactic| (unfold Claim; k_fill; intro dp un gd cn cs a ccd cl outer A₀ base h₀ L m news s Q E B F X N T hk hdp hu hret; refine wpAny_call ?_; k_dflt cell_enter; k_steps))
local macro_rules | `(tactic| walk_at "eval Call") => `(tactic| (k_here; (with_reducible show wpAny _ _ (eval (Expr.Call (Expr.Name _ _) _ [] _) _) _ _ _); refine Call_ ?_))
local macro_rules | `(tactic| walk_at "ite") => `(tactic| (first
  | (refine ite_bt ?hb ?_; (case hb => first | assumption | (simp only [decide_eq_true_eq, Bool.not_eq_true', decide_eq_false_iff_not, beq_iff_eq, bne_iff_ne, Bool.and_eq_true, Bool.or_eq_true, beq_eq_false_iff_ne, bne_eq_false_iff_eq]; omega)))
  | (refine ite_bf ?hb ?_; (case hb => first | assumption | (simp only [decide_eq_true_eq, Bool.not_eq_false', decide_eq_false_iff_not, beq_iff_eq, bne_iff_ne, Bool.and_eq_false_iff, Bool.or_eq_false_iff, beq_eq_false_iff_ne, bne_eq_false_iff_eq]; omega)))))
local macro_rules | `(tactic| walk_at "compareOp In int ref") => `(tactic| (k_here; k_dflt (refine' in_tup4 ?F ?X ?l ?i ?_; (case F => k_asm); (case X => k_asm); (case l => k_is); (case i => repeat constructor)); (try dsimp only)))
local macro_rules | `(tactic| walk_at "call ref") => `(tactic| (k_here; (with_reducible show wpAny _ _ (call (Value.ref 66) _) _ _ _); k_dflt (refine' jwday_c ?a0 ?a1 _ _ _ _ _ _ _ _ _ _ _ _ _ _ _ _ _ _ ?k1 ?k2 ?k3 ?k4 ?k5 ?kK ?kd ?ku ?_; (case a0 => assumption); (case a1 => omega); (case k1 => k_asm); (case k2 => k_asm); (case k3 => k_asm); (case k4 => k_asm); (case k5 => k_asm); (case kK => first | exact rfl | assumption); (case kd => ktr_room); (case ku => ktr_units)); intro r9 h9 tk9 F9 N9 e9; obtain ⟨t9, e9⟩ := e9; subst e9; (try dsimp only); (try k_sweep); (try k_fold)))
local macro_rules | `(tactic| walk_at "call ref") => `(tactic| (k_here; (with_reducible show wpAny _ _ (call (Value.ref 391) _) _ _ _); k_dflt (refine' isleap_c _ _ _ _ _ _ _ _ _ _ _ _ _ _ _ _ _ _ ?k1 ?k2 ?k3 ?k4 ?k5 ?kK ?kd ?ku ?_; (case k1 => k_asm); (case k2 => k_asm); (case k3 => k_asm); (case k4 => k_asm); (case k5 => k_asm); (case kK => first | exact rfl | assumption); (case kd => ktr_room); (case ku => ktr_units)); intro r9 h9 tk9 F9 N9 e9; subst e9; (try dsimp only); (try k_sweep); (try k_fold)))
local macro_rules | `(tactic| walk_at "call ref") => `(tactic| (k_here; (with_reducible show wpAny _ _ (call (Value.ref 434) _) _ _ _); k_dflt (refine' to_jd_g_c ?a0 ?a1 ?a2 ?a3 ?a4 ?a5 _ _ _ _ _ _ _ _ _ _ _ _ _ _ _ _ _ _ ?k1 ?k2 ?k3 ?k4 ?k5 ?kK ?kd ?ku ?_; (case a0 => omega); (case a1 => omega); (case a2 => omega); (case a3 => omega); (case a4 => omega); (case a5 => first | assumption | (exact Int.le_trans (by decide) (mlen_b _ _).1)); (case k1 => k_asm); (case k2 => k_asm); (case k3 => k_asm); (case k4 => k_asm); (case k5 => k_asm); (case kK => first | exact rfl | assumption); (case kd => ktr_room); (case ku => ktr_units)); intro r9 h9 tk9 F9 N9 e9; obtain ⟨z9, t9, e9, hz9⟩ := e9; subst e9; (try dsimp only); (try k_sweep); (try k_fold)))
local macro_rules | `(tactic| walk_at "call ref") => `(tactic| (k_here; (with_reducible show wpAny _ _ (call (Value.ref 71) _) _ _ _); (k_dflt (refine' helper_6 ?a0 ?a1 ?a2 ?a3 ?a4 ?a5 _ _ _ _ _ _ _ _ _ _ _ _ _ _ _ _ _ _ ?k1 ?k2 ?k3 ?k4 ?k5 ?kK ?kd ?ku ?_; (case a0 => omega); (case a1 => omega); (case a2 => exact (mlen_b _ _).1); (case a3 => exact (mlen_b _ _).2); (case a4 => assumption); (case a5 => assumption); (case k1 => k_asm); (case k2 => k_asm); (case k3 => k_asm); (case k4 => k_asm); (case k5 => k_asm); (case kK => first | exact rfl | assumption); (case kd => ktr_room); (case ku => ktr_units)); intro T9 r0 o0 r1 o1 r2 o2 r3 o3 r4 o4 r5 o5 h9 tk9 k9 F9 N9 hrow0 hrow1 hrow2 hrow3 hrow4 hrow5; (try dsimp only); (try k_sweep); (try k_fold))))
local macro_rules | `(tactic| walk_at "call ref") => `(tactic| (k_here; (with_reducible show wpAny _ _ (call (Value.ref 441) _) _ _ _); k_dflt (refine' mlen_g_c ?a0 ?a1 _ _ _ _ _ _ _ _ _ _ _ _ _ _ _ _ _ _ ?k1 ?k2 ?k3 ?k4 ?k5 ?kK ?kd ?ku ?_; (case a0 => omega); (case a1 => omega); (case k1 => k_asm); (case k2 => k_asm); (case k3 => k_asm); (case k4 => k_asm); (case k5 => k_asm); (case kK => first | exact rfl | assumption); (case kd => ktr_room); (case ku => ktr_units)); intro r9 h9 tk9 F9 N9 e9; obtain ⟨t9, e9⟩ := e9; subst e9; (try dsimp only); (try k_sweep); (try k_fold)))
section
variable {w : World} {p : Program} {loose : List Str} {mean : ExcName → Option Value} {mg mb : Str → Option Value}
theorem cal_6 {y m : Int} {t u : Tok} (hy1 : -10000010 < y) (hy2 : y < 10000010) (h1 : 1 ≤ m) (h2 : m ≤ 12) (h5 : 35 < ((gN y m 1 + 1) % 7 + 1) % 7 + mlenI y m) (h6 : ((gN y m 1 + 1) % 7 + 1) % 7 + mlenI y m ≤ 42) :
    Claim6 w p loose mean mg mb 448 9 [.int y t, .int m u] (((gN y m 1 + 1) % 7 + 1) % 7) (mlenI y m) := by
  unfold Claim6
  w_top off
  k_fill
  intro dp un gd cn cs a ccd cl outer A₀ base h₀ L mm news s Q E B F X N T hk hdp hu hret
  have hgb := gN_b hy1 hy2 h1 h2 (d := 1) (by decide) (by decide)
  refine wpAny_call ?_
  k_dflt cell_enter
  k_steps
  all_goals (refine' hret _ _ _ _ _ _ _ _ _ _ _ _ _ _ _ _ (by k_asm) ?cbN ?r0 ?r1 ?r2 ?r3 ?r4 ?r5
             (case cbN => assumption)
             (case r0 => assumption)
             (case r1 => assumption)
             (case r2 => assumption)
             (case r3 => assumption)
             (case r4 => assumption)
             (case r5 => assumption))
end
end

section
def dN (k : Int) : Int := [3, 28, 7, 4, 9, 6, 11, 8, 5, 10, 7, 12].getD (k - 1).toNat 0
def adG (y k : Int) : Int := if leapB y = true ∧ k < 3 then 1 else 0
def adJ (y k : Int) : Int := if y % 4 = 0 ∧ k < 3 then 1 else 0
def rulI (y : Int) : Int := (y + y / 4 - y / 100 + y / 400 + 1) % 7
def oldI (y : Int) : Int := (y + y / 4 + 6) % 7
theorem months {k : Int} (h1 : 1 ≤ k) (h2 : k ≤ 12) : k = 1 ∨ k = 2 ∨ k = 3 ∨ k = 4 ∨ k = 5 ∨ k = 6 ∨ k = 7 ∨ k = 8 ∨ k = 9 ∨ k = 10 ∨ k = 11 ∨ k = 12 := by omega
theorem dN_b {k : Int} (h1 : 1 ≤ k) (h2 : k ≤ 12) : 3 ≤ dN k ∧ dN k ≤ 28 := by
  rcases months h1 h2 with rfl | rfl | rfl | rfl | rfl | rfl | rfl | rfl | rfl | rfl | rfl | rfl <;> decide
theorem adG_b (y k : Int) : 0 ≤ adG y k ∧ adG y k ≤ 1 := by unfold adG; split <;> omega
theorem adJ_b (y k : Int) : 0 ≤ adJ y k ∧ adJ y k ≤ 1 := by unfold adJ; split <;> omega
theorem legalG {y k : Int} (h1 : 1 ≤ k) (h2 : k ≤ 12) : dN k + adG y k ≤ mlenI y k := by
  rcases months h1 h2 with rfl | rfl | rfl | rfl | rfl | rfl | rfl | rfl | rfl | rfl | rfl | rfl <;>
    (unfold adG mlenI; cases leapB y <;> simp [dN])
theorem legalJ {y k : Int} (h1 : 1 ≤ k) (h2 : k ≤ 12) : dN k + adJ y k ≤ mlenJ y k := by
  rcases months h1 h2 with rfl | rfl | rfl | rfl | rfl | rfl | rfl | rfl | rfl | rfl | rfl | rfl <;>
    (unfold adJ mlenJ; by_cases hy : y % 4 = 0 <;> simp [dN, hy])
theorem leap_cases (y : Int) : (leapB y = true ∧ y % 4 = 0 ∧ (y % 100 ≠ 0 ∨ y % 400 = 0)) ∨ (leapB y = false ∧ (y % 4 ≠ 0 ∨ (y % 100 = 0 ∧ y % 400 ≠ 0))) := by
  cases h : leapB y
  · refine .inr ⟨rfl, ?_⟩
    unfold leapB at h
    simp only [decide_eq_false_iff_not] at h
    omega
  · refine .inl ⟨rfl, ?_⟩
    unfold leapB at h
    simp only [decide_eq_true_eq] at h
    omega
theorem gN_lin (y m d : Int) : gN y m d = gN y m 1 + (d - 1) := by unfold gN; omega
theorem pred_div (y d : Int) (hd : 0 < d) : (y % d = 0 ∧ (y - 1) / d = y / d - 1) ∨ (y % d ≠ 0 ∧ (y - 1) / d = y / d) := by
  have e := Int.mul_ediv_add_emod y d
  have h0 := Int.emod_nonneg y (Int.ne_of_gt hd)
  have h1 := Int.emod_lt_of_pos y hd
  by_cases h : y % d = 0
  · refine .inl ⟨h, (Int.ediv_eq_iff_of_pos hd).mpr ?_⟩
    have e2 : (y / d - 1) * d = d * (y / d) - d := by rw [Int.sub_mul, Int.one_mul, Int.mul_comm]
    omega
  · refine .inr ⟨h, (Int.ediv_eq_iff_of_pos hd).mpr ?_⟩
    have e2 : (y / d) * d = d * (y / d) := Int.mul_comm _ _
    omega
theorem rul_jan (y : Int) : (gN y 1 (3 + adG y 1) + 1) % 7 = rulI y := by
  unfold gN rulI adjI adG
  have p4 := pred_div y 4 (by decide)
  have p100 := pred_div y 100 (by decide)
  have p400 := pred_div y 400 (by decide)
  rcases leap_cases y with ⟨h, h1, h2⟩ | ⟨h, h1⟩
  · simp only [h]; simp; clear h
    rcases p4 with ⟨a, e4⟩ | ⟨a, e4⟩ <;> rcases p100 with ⟨b, e1⟩ | ⟨b, e1⟩ <;> rcases p400 with ⟨c, e2⟩ | ⟨c, e2⟩ <;> (first | (exfalso; clear e4 e1 e2; omega) | (rw [e4, e1, e2]; clear e4 e1 e2 a b c; generalize y / 4 = A; generalize y / 100 = B; generalize y / 400 = C; omega))
  · simp only [h]; simp; clear h
    rcases p4 with ⟨a, e4⟩ | ⟨a, e4⟩ <;> rcases p100 with ⟨b, e1⟩ | ⟨b, e1⟩ <;> rcases p400 with ⟨c, e2⟩ | ⟨c, e2⟩ <;> (first | (exfalso; clear e4 e1 e2; omega) | (rw [e4, e1, e2]; clear e4 e1 e2 a b c; generalize y / 4 = A; generalize y / 100 = B; generalize y / 400 = C; omega))
theorem gN_step {y k : Int} (h1 : 1 ≤ k) (h2 : k ≤ 12) : (gN y k (dN k + adG y k) - gN y 1 (3 + adG y 1)) % 7 = 0 := by
  rcases months h1 h2 with rfl | rfl | rfl | rfl | rfl | rfl | rfl | rfl | rfl | rfl | rfl | rfl <;>
    (unfold gN adjI adG; cases leapB y <;> simp [dN] <;> omega)
theorem rulG {y k : Int} (h1 : 1 ≤ k) (h2 : k ≤ 12) : (gN y k (dN k + adG y k) + 1) % 7 = rulI y := by
  have a := rul_jan y
  have b := gN_step (y := y) h1 h2
  omega
theorem jA_mod (y : Int) : ((1461 * (y + 4716)) / 4) % 7 = (y + y / 4 + 1) % 7 := by
  have e := Int.mul_ediv_add_emod y 4
  have h0 := Int.emod_nonneg y (show (4 : Int) ≠ 0 by decide)
  have h3 := Int.emod_lt_of_pos y (show (0 : Int) < 4 by decide)
  generalize y / 4 = q at *
  have hr : y % 4 = 0 ∨ y % 4 = 1 ∨ y % 4 = 2 ∨ y % 4 = 3 := by omega
  rcases hr with hr | hr | hr | hr <;> (rw [hr] at e; clear hr h0 h3; subst e)
  · have f : 1461 * (4 * q + 0 + 4716) / 4 = 1461 * q + 1722519 := by omega
    rw [f]; omega
  · have f : 1461 * (4 * q + 1 + 4716) / 4 = 1461 * q + 1722884 := by omega
    rw [f]; omega
  · have f : 1461 * (4 * q + 2 + 4716) / 4 = 1461 * q + 1723249 := by omega
    rw [f]; omega
  · have f : 1461 * (4 * q + 3 + 4716) / 4 = 1461 * q + 1723614 := by omega
    rw [f]; omega
theorem rulJ {y k : Int} (h1 : 1 ≤ k) (h2 : k ≤ 12) : (jN y k (dN k + adJ y k) + 1) % 7 = oldI y := by
  have a0 := jA_mod y
  have a1 := jA_mod (y - 1)
  have p4 := pred_div y 4 (by decide)
  unfold jN oldI adJ
  by_cases hk : k ≤ 2
  · simp only [hk, if_true]
    have hk3 : k < 3 := by omega
    simp only [hk3, and_true]
    clear a0
    generalize (1461 * (y - 1 + 4716)) / 4 = b at *
    have hk2 : k = 1 ∨ k = 2 := by omega
    rcases p4 with ⟨h, e4⟩ | ⟨h, e4⟩ <;> rw [e4] at a1 <;> rcases hk2 with rfl | rfl <;> simp [dN, h] <;> (clear h e4; generalize y / 4 = z at *; omega)
  · simp only [hk, if_false]
    have hk3 : ¬ k < 3 := by omega
    simp only [hk3]
    generalize (1461 * (y + 4716)) / 4 = b at *
    simp only [and_false, if_false]
    clear a1 p4
    generalize y + y / 4 = z at *
    rcases months h1 h2 with rfl | rfl | rfl | rfl | rfl | rfl | rfl | rfl | rfl | rfl | rfl | rfl <;> first | (exfalso; omega) | (simp [dN]; omega)
theorem rel_fw {y k : Int} (h1 : 1 ≤ k) (h2 : k ≤ 12) : (rulI y - fwI y k) % 7 = (dN k + adG y k - 1) % 7 := by
  have a := rulG (y := y) h1 h2
  rw [gN_lin] at a
  unfold fwI
  omega
theorem endG (y : Int) : gN y 12 12 - gN y 1 (3 + adG y 1) = 343 := by
  unfold gN adjI adG
  cases leapB y <;> simp <;> omega
theorem jA_step (y : Int) : (1461 * (y + 4716)) / 4 - (1461 * (y - 1 + 4716)) / 4 = if y % 4 = 0 then 366 else 365 := by
  have e := Int.mul_ediv_add_emod y 4
  have h0 := Int.emod_nonneg y (show (4 : Int) ≠ 0 by decide)
  have h3 := Int.emod_lt_of_pos y (show (0 : Int) < 4 by decide)
  generalize y / 4 = q at *
  have hr : y % 4 = 0 ∨ y % 4 = 1 ∨ y % 4 = 2 ∨ y % 4 = 3 := by omega
  rcases hr with hr | hr | hr | hr <;> rw [hr] <;> (rw [hr] at e; clear hr h0 h3; subst e)
  · have f : 1461 * (4 * q + 0 + 4716) / 4 = 1461 * q + 1722519 := by omega
    have f' : 1461 * (4 * q + 0 - 1 + 4716) / 4 = 1461 * q + 1722153 := by omega
    rw [f, f', if_pos rfl]; omega
  · have f : 1461 * (4 * q + 1 + 4716) / 4 = 1461 * q + 1722884 := by omega
    have f' : 1461 * (4 * q + 1 - 1 + 4716) / 4 = 1461 * q + 1722519 := by omega
    rw [f, f', if_neg (by decide)]; omega
  · have f : 1461 * (4 * q + 2 + 4716) / 4 = 1461 * q + 1723249 := by omega
    have f' : 1461 * (4 * q + 2 - 1 + 4716) / 4 = 1461 * q + 1722884 := by omega
    rw [f, f', if_neg (by decide)]; omega
  · have f : 1461 * (4 * q + 3 + 4716) / 4 = 1461 * q + 1723614 := by omega
    have f' : 1461 * (4 * q + 3 - 1 + 4716) / 4 = 1461 * q + 1723249 := by omega
    rw [f, f', if_neg (by decide)]; omega
theorem endJ (y : Int) : jN y 12 12 - jN y 1 (3 + adJ y 1) = 343 := by
  have a := jA_step y
  have e12 : jN y 12 12 = (1461 * (y + 4716)) / 4 - 1116 := by
    unfold jN
    rw [if_neg (by decide), if_neg (by decide)]
    omega
  have e1 : jN y 1 (3 + adJ y 1) = (1461 * (y - 1 + 4716)) / 4 + 428 + (3 + adJ y 1) - 1525 := by
    unfold jN
    rw [if_pos (by decide), if_pos (by decide)]
    omega
  rw [e12, e1]
  unfold adJ
  generalize (1461 * (y - 1 + 4716)) / 4 = b at *
  generalize (1461 * (y + 4716)) / 4 = c at *
  clear e12 e1
  by_cases hy : y % 4 = 0
  · rw [if_pos hy] at a; rw [if_pos ⟨hy, by decide⟩]; omega
  · rw [if_neg hy] at a; rw [if_neg (fun h => hy h.1)]; omega
theorem rel_jan (y : Int) : (rulI y - (2 + adG y 1)) % 7 = fwI y 1 := by
  have a := rel_fw (y := y) (k := 1) (by decide) (by decide)
  have e : dN 1 = 3 := by decide
  rw [e] at a
  have b := fw_b y 1
  omega
theorem rul_b (y : Int) : 0 ≤ rulI y ∧ rulI y ≤ 6 := by unfold rulI; omega
end

section
/-- the end of a month's turn: nothing that the rest asks has changed -/
def TurnEnd (h₀ : Heap) (L : Addr) (x : Str) (stored : List Str) (m₀ : Str → Option Value) (news own : List (Addr × Obj)) (s : Shared) (Q : Flow → Shared → Prop) (f : Flow) (s₂ : Shared) : Prop :=
  match f with
  | .ret v => Q (.ret v) s₂
  | .brk => Q .next s₂
  | _ => ∃ h' tk m' news', s₂ = { s with heap := h', toks := tk } ∧ Fr h₀ L h' m' ∧ News h₀ L h' news' ∧ (∀ p ∈ news, p ∈ news') ∧ (∀ p ∈ own, p ∈ news') ∧ ∀ z, z ≠ x → stored.contains z = false → m' z = m₀ z
theorem loop_k {prog : Program} {w : World} {A : Around} {E : Value → Shared → Prop} {s : Shared} {env : Env} {h₀ : Heap} {x : Str} {body : List Stmt} {Q : Flow → Shared → Prop} {r : Addr} {t₀ u₀ v₀ : Tok} {m₀ : Str → Option Value} {news : List (Addr × Obj)} {L : Addr} (stored : List Str)
    (hh : A.handled = none) (hr : IsRange s.heap r 1 13 1 t₀ u₀ v₀) (F : Fr h₀ L s.heap m₀) (N : News h₀ L s.heap news)
    (turn : ∀ k t (u : Str → Option Value) h tk own, 1 ≤ k → k ≤ 12 → OwnOff own (news.map (·.1)) →
      Fr h₀ L h (fun y => if y = x then some (.int k t) else if stored.contains y then u y else m₀ y) → News h₀ L h (news ++ own) →
      wpAny (model prog w) A (execs body env) (TurnEnd h₀ L x stored m₀ news own { s with heap := h, toks := tk } Q) E { s with heap := h, toks := tk })
    (done : ∀ (u : Str → Option Value) h tk, Fr h₀ L h (fun y => if y = x then u y else if stored.contains y then u y else m₀ y) → News h₀ L h news → Q .next { s with heap := h, toks := tk }) (hLe : env.locals = L) :
    wpAny (model prog w) A (pyIter (.ref r)) (fun it s₂ => LoopAtV prog w A h₀ env x body Q E it s₂) E s := by
  subst hLe
  refine kst_range (σ := Unit) (n := 12) (fun _ => news) (fun _ => []) (fun _ => True) stored (fun _ _ => True) () hh hr (by decide) (by decide) F N trivial (fun p hp => (nomatch hp)) trivial ?_ ?_
  · intro c pre k t u h tk own hk hlt hoff _ _ F' N'
    have hs : (fun y => if y = x then some (Value.int k t) else kstB (fun z => if stored.contains z then u z else m₀ z) [] y) = fun y => if y = x then some (Value.int k t) else if stored.contains y then u y else m₀ y := rfl
    refine wpAny_mono (turn k t u h tk own (by omega) (by omega) hoff F' N') (fun f s₂ p => ?_) fun _ _ e => e
    cases f with
    | ret v => exact p
    | brk => exact p
    | next =>
      obtain ⟨h', tk', m', news', e, F2, N2, hn, ho, hm⟩ := p
      exact ⟨h', tk', m', news', news, e, F2, N2, hn, ho, rfl, (), rfl, trivial, (fun p hp => (nomatch hp)), fun z hz _ hc => hm z hz hc, trivial⟩
    | cont =>
      obtain ⟨h', tk', m', news', e, F2, N2, hn, ho, hm⟩ := p
      exact ⟨h', tk', m', news', news, e, F2, N2, hn, ho, rfl, (), rfl, trivial, (fun p hp => (nomatch hp)), fun z hz _ hc => hm z hz hc, trivial⟩
  · intro c u h tk _ _ F' N'
    exact done u h tk F' N'

def YearIs (uy : Int) : Prop := True
def NthIs (un : Int) : Prop := True
def MonthIs (uk : Int) : Prop := True
section
variable {M : Model} {A : Around} {E : Value → Shared → Prop} {s : Shared} {tree : Sem Value} {Q : Value → Shared → Prop} {y k : Int}
theorem join_year (sub : wpAny M A tree (fun v s' => ∃ y t tk, v = .int y t ∧ (-10000000 < y ∧ y < 10000000) ∧ s' = { s with toks := tk }) E s)
    (cont : ∀ y t tk, YearIs y → -10000000 < y → y < 10000000 → Q (.int y t) { s with toks := tk }) : wpAny M A tree Q E s :=
  wpAny_mono sub (fun v s' ⟨y, t, tk, e, ⟨h1, h2⟩, e2⟩ => by subst e e2; exact cont y t tk trivial h1 h2) fun _ _ e => e
theorem join_nth (sub : wpAny M A tree (fun v s' => ∃ y t tk, v = .int y t ∧ (0 ≤ y ∧ y ≤ 5) ∧ s' = { s with toks := tk }) E s)
    (cont : ∀ y t tk, NthIs y → 0 ≤ y → y ≤ 5 → Q (.int y t) { s with toks := tk }) : wpAny M A tree Q E s :=
  wpAny_mono sub (fun v s' ⟨y, t, tk, e, ⟨h1, h2⟩, e2⟩ => by subst e e2; exact cont y t tk trivial h1 h2) fun _ _ e => e
theorem join_long (uhY : YearIs y) (sub : wpAny M A tree (fun v s' => ∃ b tk, v = .bool b ∧ b = leapB y ∧ s' = { s with toks := tk }) E s)
    (cont : ∀ tk, Q (.bool (leapB y)) { s with toks := tk }) : wpAny M A tree Q E s :=
  wpAny_mono sub (fun v s' ⟨b, tk, e, e1, e2⟩ => by subst e e1 e2; exact cont tk) fun _ _ e => e
theorem join_G (uhY : YearIs y) (uhK : MonthIs k) (sub : wpAny M A tree (fun v s' => ∃ a t tk, v = .int a t ∧ a = adG y k ∧ s' = { s with toks := tk }) E s)
    (cont : ∀ t tk, Q (.int (adG y k) t) { s with toks := tk }) : wpAny M A tree Q E s :=
  wpAny_mono sub (fun v s' ⟨a, t, tk, e, e1, e2⟩ => by subst e e1 e2; exact cont t tk) fun _ _ e => e
theorem join_J (uhY : YearIs y) (uhK : MonthIs k) (sub : wpAny M A tree (fun v s' => ∃ a t tk, v = .int a t ∧ a = adJ y k ∧ s' = { s with toks := tk }) E s)
    (cont : ∀ t tk, Q (.int (adJ y k) t) { s with toks := tk }) : wpAny M A tree Q E s :=
  wpAny_mono sub (fun v s' ⟨a, t, tk, e, e1, e2⟩ => by subst e e1 e2; exact cont t tk) fun _ _ e => e
end
section
variable {prog : Program} {w : World} {A : Around} {E : Value → Shared → Prop} {s : Shared} {h₀ : Heap} {L l : Addr} {m : Str → Option Value} {news : List (Addr × Obj)} {value slice : PySem.Expr} {vs : List Value} {k : Int} {u : Tok} {n : Nat} {Q : Value → Shared → Prop}
theorem item_days (N : News h₀ L s.heap news) (hm : (l, lstO vs n) ∈ news) (hI : IntsAre vs [3, 28, 7, 4, 9, 6, 11, 8, 5, 10, 7, 12]) (h1 : 1 ≤ k) (h2 : k ≤ 12) (h : ∀ t, Q (.int (dN k) t) s)
    (hs : subscripted slice false (.ref l) (.int (k - 1) u) = operate [.ref l, .int (k - 1) u] (getItem (.ref l) (.int (k - 1) u)) := by with_unfolding_all rfl) :
    wpAny (model prog w) A (subscriptTail value slice (.ref l) (.int (k - 1) u)) Q E s := by
  have hL := News.isList N hm
  have e : ([3, 28, 7, 4, 9, 6, 11, 8, 5, 10, 7, 12] : List Int)[(k - 1).toNat]? = some (dN k) := by
    rcases months h1 h2 with rfl | rfl | rfl | rfl | rfl | rfl | rfl | rfl | rfl | rfl | rfl | rfl <;> rfl
  obtain ⟨t, ht⟩ := ints_at hI _ e
  exact tail_any hL.typeIs slot_list_getitem.lookup (wpAny_getItem_list hL (by omega) (by omega) (by simpa using ht) (h t)) hs
end
end

section
/-- the end of a check that is passed: nothing that the rest asks has changed -/
def PassEnd (h₀ : Heap) (L : Addr) (m : Str → Option Value) (news : List (Addr × Obj)) (s : Shared) (f : Flow) (s' : Shared) : Prop :=
  f = .next ∧ ∃ h' tk', Fr h₀ L h' m ∧ News h₀ L h' news ∧ s' = { s with heap := h', toks := tk' }
section
variable {M : Model} {A : Around} {E : Value → Shared → Prop} {s : Shared} {tree : Sem Value} {Q : Value → Shared → Prop} {y k : Int}
theorem join_rul (uhY : YearIs y) (sub : wpAny M A tree (fun v s' => ∃ a t tk, v = .int a t ∧ a = rulI y ∧ s' = { s with toks := tk }) E s)
    (cont : ∀ t tk, Q (.int (rulI y) t) { s with toks := tk }) : wpAny M A tree Q E s :=
  wpAny_mono sub (fun v s' ⟨a, t, tk, e, e1, e2⟩ => by subst e e1 e2; exact cont t tk) fun _ _ e => e
theorem join_old (uhY : YearIs y) (sub : wpAny M A tree (fun v s' => ∃ a t tk, v = .int a t ∧ a = oldI y ∧ s' = { s with toks := tk }) E s)
    (cont : ∀ t tk, Q (.int (oldI y) t) { s with toks := tk }) : wpAny M A tree Q E s :=
  wpAny_mono sub (fun v s' ⟨a, t, tk, e, e1, e2⟩ => by subst e e1 e2; exact cont t tk) fun _ _ e => e
theorem join_pass {stm : Sem Flow} {Q : Flow → Shared → Prop} {h₀ : Heap} {L : Addr} {m : Str → Option Value} {news : List (Addr × Obj)} (uF : Fr h₀ L s.heap m) (uN : News h₀ L s.heap news)
    (sub : wpAny M A stm (PassEnd h₀ L m news s) E s)
    (cont : ∀ h' tk, Fr h₀ L h' m → News h₀ L h' news → Q .next { s with heap := h', toks := tk }) : wpAny M A stm Q E s :=
  wpAny_mono sub (fun v s' ⟨e, h', tk, F, N, e2⟩ => by subst e e2; exact cont h' tk F N) fun _ _ e => e
end
theorem jN_b {y m d : Int} (hy1 : -10000010 < y) (hy2 : y < 10000010) (h1 : 1 ≤ m) (h2 : m ≤ 12) (h3 : 1 ≤ d) (h4 : d ≤ 31) : (jN y m d).natAbs < 2 ^ 40 := by
  unfold jN
  repeat' split
  all_goals omega
/-- what a month's turn rests on -/
abbrev MonthFacts (y k : Int) : Prop :=
  (3 ≤ dN k ∧ dN k ≤ 28) ∧
  (0 ≤ adG y k ∧ adG y k ≤ 1) ∧
  (0 ≤ adJ y k ∧ adJ y k ≤ 1) ∧
  (dN k + adG y k ≤ mlenI y k) ∧
  (dN k + adJ y k ≤ mlenJ y k) ∧
  ((gN y k (dN k + adG y k) + 1) % 7 = rulI y) ∧
  ((jN y k (dN k + adJ y k) + 1) % 7 = oldI y) ∧
  ((rulI y - fwI y k) % 7 = (dN k + adG y k - 1) % 7) ∧
  (28 ≤ mlenI y k ∧ mlenI y k ≤ 31) ∧
  (0 ≤ fwI y k ∧ fwI y k < 7) ∧
  (0 ≤ rulI y ∧ rulI y ≤ 6) ∧
  ((gN y k (dN k + adG y k)).natAbs < 2 ^ 40) ∧
  ((jN y k (dN k + adJ y k)).natAbs < 2 ^ 40)
theorem month_facts {y k : Int} (hy1 : -10000000 < y) (hy2 : y < 10000000) (h1 : 1 ≤ k) (h2 : k ≤ 12) : MonthFacts y k := by
  have d := dN_b h1 h2
  have g := adG_b y k
  have j := adJ_b y k
  exact ⟨d, g, j, legalG h1 h2, legalJ h1 h2, rulG h1 h2, rulJ h1 h2, rel_fw h1 h2, mlen_b y k, fw_b y k, rul_b y, gN_b (by omega) (by omega) h1 h2 (by omega) (by omega), jN_b (by omega) (by omega) h1 h2 (by omega) (by omega)⟩
def IntEnd (P : Int → Prop) (s : Shared) (v : Value) (s' : Shared) : Prop := ∃ y t tk, v = .int y t ∧ P y ∧ s' = { s with toks := tk }
def BoolEnd (P : Bool → Prop) (s : Shared) (v : Value) (s' : Shared) : Prop := ∃ c tk, v = .bool c ∧ P c ∧ s' = { s with toks := tk }
def YearP (P : Int → Prop) : Prop := ∀ y : Int, -10000000 < y → y < 10000000 → P y
def NthP (P : Int → Prop) : Prop := ∀ y : Int, 0 ≤ y → y ≤ 5 → P y
def EqP (b : Int) (P : Int → Prop) : Prop := ∀ a, a = b → P a
def EqB (b : Bool) (P : Bool → Prop) : Prop := ∀ a, a = b → P a
section
variable {M : Model} {A : Around} {E : Value → Shared → Prop} {s : Shared} {tree : Sem Value} {Q : Value → Shared → Prop} {y k : Int}
theorem joinYear (sub : ∀ P, YearP P → wpAny M A tree (IntEnd P s) E s)
    (cont : ∀ y t tk, YearIs y → -10000000 < y → y < 10000000 → Q (.int y t) { s with toks := tk }) : wpAny M A tree Q E s := join_year (sub _ (fun _ a b => ⟨a, b⟩)) cont
theorem joinNth (sub : ∀ P, NthP P → wpAny M A tree (IntEnd P s) E s)
    (cont : ∀ y t tk, NthIs y → 0 ≤ y → y ≤ 5 → Q (.int y t) { s with toks := tk }) : wpAny M A tree Q E s := join_nth (sub _ (fun _ a b => ⟨a, b⟩)) cont
theorem joinLong (hY : YearIs y) (sub : ∀ P, EqB (leapB y) P → wpAny M A tree (BoolEnd P s) E s) (cont : ∀ tk, Q (.bool (leapB y)) { s with toks := tk }) : wpAny M A tree Q E s := join_long hY (sub _ (fun _ e => e)) cont
theorem joinG (hY : YearIs y) (hK : MonthIs k) (sub : ∀ P, EqP (adG y k) P → wpAny M A tree (IntEnd P s) E s) (cont : ∀ t tk, Q (.int (adG y k) t) { s with toks := tk }) : wpAny M A tree Q E s := join_G hY hK (sub _ (fun _ e => e)) cont
theorem joinJ (hY : YearIs y) (hK : MonthIs k) (sub : ∀ P, EqP (adJ y k) P → wpAny M A tree (IntEnd P s) E s) (cont : ∀ t tk, Q (.int (adJ y k) t) { s with toks := tk }) : wpAny M A tree Q E s := join_J hY hK (sub _ (fun _ e => e)) cont
theorem joinRul (hY : YearIs y) (sub : ∀ P, EqP (rulI y) P → wpAny M A tree (IntEnd P s) E s) (cont : ∀ t tk, Q (.int (rulI y) t) { s with toks := tk }) : wpAny M A tree Q E s := join_rul hY (sub _ (fun _ e => e)) cont
theorem joinOld (hY : YearIs y) (sub : ∀ P, EqP (oldI y) P → wpAny M A tree (IntEnd P s) E s) (cont : ∀ t tk, Q (.int (oldI y) t) { s with toks := tk }) : wpAny M A tree Q E s := join_old hY (sub _ (fun _ e => e)) cont
end
end

section
def colF (a : Int) : Nat → Nat → List Int
  | _, 0 => []
  | i, k + 1 => (a + (i : Int) * 7) :: colF a (i + 1) k
theorem colF_at (a : Int) : ∀ (k i j : Nat), j < k → (colF a i k)[j]? = some (a + ((i + j : Nat) : Int) * 7)
  | 0, _, _, h => absurd h (Nat.not_lt_zero _)
  | k + 1, i, 0, _ => rfl
  | k + 1, i, j + 1, h => by
    have e := colF_at a k (i + 1) j (by omega)
    show (colF a (i + 1) k)[j]? = _
    rw [e]
    have e2 : i + 1 + j = i + (j + 1) := by omega
    rw [e2]
theorem colF_length (a : Int) : ∀ (k i : Nat), (colF a i k).length = k
  | 0, _ => rfl
  | k + 1, i => by show (colF a (i + 1) k).length + 1 = _; rw [colF_length a k (i + 1)]
theorem rs7 {a b : Int} {n : Nat} (h1 : a + 7 * (n : Int) - 7 < b) (h2 : b ≤ a + 7 * (n : Int)) (h3 : 0 < n) : Builtin.Range.rangeSize a b 7 = (n : Int) := by
  unfold Builtin.Range.rangeSize
  simp only [gt_iff_lt, Int.reduceLT, if_true]
  rw [if_pos (by omega)]
  omega
theorem small7 {a b : Int} {n : Nat} (hn : Builtin.Range.rangeSize a b 7 = (n : Int)) (h0 : 0 ≤ a) (ha : a ≤ 100) (h1 : 0 ≤ b) (h2 : b ≤ 100) (h3 : n ≤ 20) : Builtin.Range.small a b 7 = true := by
  unfold Builtin.Range.small
  rw [hn]
  simp only [Builtin.Range.rangeFitsLong, Bool.and_eq_true, Bool.or_eq_true, decide_eq_true_eq, beq_iff_eq, show (7 : Int) > 0 by decide, if_true]
  first | omega | (split <;> omega)
section
variable {prog : Program} {w : World} {A : Around} {E : Value → Shared → Prop} {s : Shared} {h₀ : Heap} {L : Addr} {m : Str → Option Value} {env : Env}
/-- one turn of a comprehension that hands back its own name -/
def OneTurn (prog : Program) (w : World) (A : Around) (h₀ : Heap) (L : Addr) (m : Str → Option Value) (env : Env) (elt : Expr) (x : Str) (scope : Scope) (cl : List (Str × Addr)) (s : Shared) (news : List (Addr × Obj)) : Prop :=
  ∀ v I oI C oC D oD m₂ h tk (E' : Value → Shared → Prop) (rest : Value → List (Addr × Obj) → Prop), LCg.NsObj oC m₂ → m₂ x = some v → Fr h₀ L h m → News h₀ L h ((I, oI) :: (C, oC) :: (D, oD) :: news) → LCg.Off3 I C D news → ((@Ne Nat I C) ∧ (@Ne Nat I D) ∧ (@Ne Nat C D)) → rest v news →
    wpAny (model prog w) A (eval elt (compEnvC scope cl C env)) (LCg.CompEnd h₀ L m { s with heap := h, toks := tk } I oI C oC D oD (fun _ => True) rest) E' { s with heap := h, toks := tk }
theorem compEnd0 {I C D : Addr} {s₁ : Shared} {oI oC oD : Obj} {rest : Value → List (Addr × Obj) → Prop} {y : Value} {h' : Heap} {tk : Nat} {news : List (Addr × Obj)}
    (F : Fr h₀ L h' m) (N : News h₀ L h' ((I, oI) :: (C, oC) :: (D, oD) :: news)) (off : LCg.Off3 I C D news) (r : rest y news) :
    LCg.CompEnd h₀ L m s₁ I oI C oC D oD (fun _ => True) rest y { s₁ with heap := h', toks := tk } :=
  LCg.CompEnd.intro F N news (fun p hp => hp) off trivial r
theorem cols_rest {elt : Expr} {x : Str} {scope : Scope} {cl : List (Str × Addr)} {news : List (Addr × Obj)} {a : Int} {Fin : List Value → List (Addr × Obj) → Prop} (T : OneTurn prog w A h₀ L m env elt x scope cl s news) :
    ∀ (k i : Nat) (ys : List Value), (∀ vs, IntsAre vs (colF a i k) → Fin (ys ++ vs) news) →
      LCg.CompRest prog w A h₀ L m env elt x scope cl s (fun _ => True) (fun i v => ∃ t, v = .int (a + (i : Int) * 7) t) Fin k i ys news
  | 0, i, ys, h => by
    have h0 := h [] .nil
    rw [List.append_nil] at h0
    exact h0
  | k + 1, i, ys, h => by
    intro v I oI C oC D m₂ h' tk E' hP hC hx F N off ne
    obtain ⟨t, rfl⟩ := hP
    refine T _ I oI C oC D (LCg.lst ys) m₂ h' tk E' _ hC hx F N off ne ?_
    refine cols_rest T k (i + 1) _ (fun vs hI => ?_)
    rw [List.append_assoc]
    exact h (_ :: vs) (.cons _ t hI)
/-- a comprehension over the days by sevens -/
def SrcV (prog : Program) (w : World) (A : Around) (h₀ : Heap) (L : Addr) (m : Str → Option Value) (env : Env) (elt : Expr) (x : Str) (scope : Scope) (cl : List (Str × Addr)) (y : Str) (Q : Flow → Shared → Prop) (xv : Value) (s₁ : Shared) : Prop :=
  ∃ r a b t u v news, xv = .ref r ∧ A.handled = none ∧ Fr h₀ L s₁.heap m ∧ News h₀ L s₁.heap news ∧ IsRange s₁.heap r a b 7 t u v ∧ (0 ≤ a ∧ a ≤ 50 ∧ a + 21 < b ∧ b ≤ a + 35) ∧
    (∀ g : Heap, OneTurn prog w A h₀ L m env elt x scope cl { s₁ with heap := g } news) ∧
    (∀ vs n D h tk, IntsAre vs (colF a 0 n) → (n = 4 ∧ b ≤ a + 28) ∨ (n = 5 ∧ a + 28 < b) → Fr h₀ L h (fun z => if z = y then some (.ref D) else m z) → News h₀ L h ((D, LCg.lst vs) :: news) → LCg.Off1 D news → Q .next { s₁ with heap := h, toks := tk })
theorem assign_V {elt iter : Expr} {x y : Str} {px py : Pos} {scope : Scope} {cl : List (Str × Addr)} {pos spos : Pos} {Q : Flow → Shared → Prop} (F₀ : Fr h₀ L s.heap m) (hLe : env.locals = L)
    (hsw : swapsWith (.ListComp elt [⟨.Name x px, iter, [], 0⟩] scope pos) (some (.Name y py)) spos.line env = pure true)
    (hclos : closureFor scope env = pure cl) (hcell : ∀ z ∈ scope.names, z.2 ≠ .cell) (hkind : scope.kind = .function)
    (hnames : ∀ z ∈ scope.names, z.2 = .local → scope.names.lookup z.1 = some .local) (hx : scope.names.lookup x = some .local)
    (hy : env.kindOf y = some .local) (hp : (env.scope.kind == .class || (env.scope.kind == .module && env.locals != env.globals)) = false)
    (h : wpAny (model prog w) A (eval iter env) (SrcV prog w A h₀ L m env elt x scope cl y Q) E s)
    (hs : ∀ x, foldedSetIterable iter env x = pure x := by intro _; rfl) :
    wpAny (model prog w) A (exec (.Assign [.Name y py] (.ListComp elt [⟨.Name x px, iter, [], 0⟩] scope pos) spos) env) Q E s := by
  subst hLe
  rw [exec_Assign_Name_used _ _ _ _ hsw]
  refine wpAny_bind (wpAny_standAt (wpAny_bind ?_))
  show wpAny _ A (do let _ ← comprehension (.ListComp elt [⟨.Name x px, iter, [], 0⟩] scope pos) scope env _ (newList []) false (eval iter env) (some (assign (.Name y py) env))) _ _ s
  refine wpAny_bind (wpAny_mono (wpAny_comprehension_free (use := some (assign (.Name y py) env)) (Q := fun _ s' => Q .next s') rfl hs hclos hkind hnames
    (wpAny_mono h (fun xv s₁ h₁ => ?_) fun _ _ e => e)) (fun _ s' hq => wpAny_pure (wpAny_pure hq)) fun _ _ e => e)
  obtain ⟨r, a, b, t, u, v, news, rfl, hh, F, N, hr, ⟨b1, b2, b3, b4⟩, R, fin⟩ := h₁
  have hn : ∃ n : Nat, ((n = 4 ∧ b ≤ a + 28) ∨ (n = 5 ∧ a + 28 < b)) ∧ n ≤ 20 ∧ Builtin.Range.rangeSize a b 7 = (n : Int) := by
    by_cases c : b ≤ a + 28
    · exact ⟨4, .inl ⟨rfl, c⟩, by decide, rs7 (by omega) (by omega) (by decide)⟩
    · exact ⟨5, .inr ⟨rfl, by omega⟩, by decide, rs7 (by omega) (by omega) (by decide)⟩
  obtain ⟨n, hc, hn20, hn⟩ := hn
  have hsm := small7 hn (by omega) (by omega) (by omega) (by omega) (by omega)
  have hsz : n ≤ sizeLine := by rw [sizeLine_eq]; omega
  refine wpAny_pyIter_range hr hsm ?_
  refine LCg.block_U (Walks.range hh s₁.heap.objs.size a 7 n) hsz (fun i h st => ⟨_, st⟩) rows_st hcell hkind hx (by show IsRangeIter _ _ _ _ _; rw [hn]; simpa using Heap.get?_push_size _ rfl) (fun b hb => ?_)
    (F.keeps fun _ _ e => Heap.get?_push_of_some _ e) (N.grown fun _ _ e => Heap.get?_push_of_some _ e) (Nat.ne_of_lt F.ns.lt) (next_is_new F) (fun p hp => Nat.ne_of_lt (Heap.lt_size (N p hp).1)) trivial
    (cols_rest (Fin := fun vs nw => IntsAre vs (colF a 0 n) ∧ nw = news) (R _) n 0 [] (fun vs hI => ⟨hI, rfl⟩)) ?_
  · rw [List.mem_singleton.mp hb]
    show s₁.heap.objs.size < (s₁.heap.push _).objs.size
    rw [Heap.size_push]; exact Nat.lt_succ_self _
  · intro D C h' tk m' ys news' F' N' o1 hn' hC₀ hD₀ hCL hDL hCD offC fn
    obtain ⟨hI, rfl⟩ := fn
    show wpAny _ A (assign (.Name y py) env (.ref D)) _ _ _
    refine wpAny_assign_Name (wpAny_storeName_local hy F'.ns (fun h₂ hn₂ hs₂ => ?_) hp)
    have hL₀ : h₀.get? env.locals = none := Heap.get?_none_of_le F'.above
    have F₂ : Fr h₀ env.locals h₂ (fun z => if z = y then some (.ref D) else m z) := ⟨hn₂, fun b o e => hs₂.extBut b o (fun q => by rw [q, hL₀] at e; cases e) (F'.keep b o e), F'.above⟩
    refine ⟨m', hn'.sameBut hs₂ hCL, fun h'' hs'' => fin ys n D h'' _ hI hc (F₂.change hs'' hCL hC₀) (fun p hp => ?_) o1⟩
    have z : h₂.get? p.1 = some p.2 := hs₂.extBut _ _ (N' p hp).2.1 (N' p hp).1
    refine ⟨hs''.extBut _ _ ?_ z, (N' p hp).2⟩
    rcases List.mem_cons.mp hp with rfl | hp
    · exact Ne.symm hCD
    · exact offC p hp
end
end

section
/-- nth_day_of_month: a day, or the refusal -/
theorem nth_any {w : World} {p : Program} {loose : List Str} {mean : ExcName → Option Value} {mg mb : Str → Option Value} {n wd m y : Int} {t1 t2 t3 t4 : Tok} (hn : 0 ≤ n) (hn5 : n ≤ 5) (hw : 0 ≤ wd) (hw6 : wd ≤ 6) (h1 : 1 ≤ m) (h2 : m ≤ 12)
    (dp un : Nat) (gd : Option (List Code)) (cn : Str) (cs : Scope) (a : Addr) (ccd : Value) (cl : List (Str × Addr)) (outer : List Env) (A₀ : Around) (base h₀ : Heap) (L : Addr) (mm : Str → Option Value) (news : List (Addr × Obj)) (s : Shared) (Q E : Value → Shared → Prop)
    (k1 : Below A₀ base outer h₀) (k2 : Fr h₀ L s.heap mm) (k3 : (hd.heap_39 w.params).In h₀) (k4 : News h₀ L s.heap news) (k5 : Top p loose mean mg mb h₀) (kK : cs.kind = .function) (kd : dp + 8 < recursionLimit) (ku : un + 64 < cLine)
    (ok : (n = 5 → 1 + (wd - fwI y m) % 7 + 28 ≤ mlenI y m) → ∀ T h' tk' t', Fr h₀ L h' mm → News h₀ L h' ((T, { cls := .type "tuple", data := .seq #[.int y t4, .int m t3, .int (nthI n wd y m) t'] }) :: news) → (∀ p ∈ news, p.1 < T) → Q (.ref T) { s with heap := h', toks := tk' })
    (bad : n = 5 → ¬ (1 + (wd - fwI y m) % 7 + 28 ≤ mlenI y m) → ∀ g' e h' tk', Fr h₀ L g' mm → RaisedN base (envX cn cs L a ccd cl :: outer) e (.type "IndexError") news h' → g'.UpToSlots h' → E (.ref e) { s with heap := h', toks := tk' }) :
    wpAny (model PySem.Challenge.rw_ak5009_01.row.toRowW.prog w) (ktrTop dp un gd cn cs L a ccd cl outer) (call (.ref 419) [.int n t1, .int wd t2, .int m t3, .int y t4]) Q E s := by
  by_cases hb : n = 5 ∧ ¬ (1 + (wd - fwI y m) % 7 + 28 ≤ mlenI y m)
  · obtain ⟨rfl, hb⟩ := hb
    exact nth_raise_c hw hw6 h1 h2 hb dp un gd cn cs a ccd cl outer A₀ base h₀ L mm news s Q E k1 k2 k3 k4 k5 kK kd ku (bad rfl hb)
  · have hok : n = 5 → 1 + (wd - fwI y m) % 7 + 28 ≤ mlenI y m := fun e => Decidable.byContradiction fun c => hb ⟨e, c⟩
    refine nth_c hn hn5 hw hw6 h1 h2 hok dp un gd cn cs a ccd cl outer A₀ base h₀ L mm news s Q E k1 k2 k3 k4 k5 kK kd ku ?_
    intro T o h' tk' F' N' l' e
    obtain ⟨t', rfl⟩ := e
    exact ok hok T h' tk' t' F' N' l'
def itemV (a c k : Int) : Int := if k < 0 then a + (c - 1) * 7 else a + k * 7
section
variable {prog : Program} {w : World} {A : Around} {E : Value → Shared → Prop} {s : Shared} {h₀ : Heap} {L l : Addr} {m : Str → Option Value} {news : List (Addr × Obj)} {value slice : PySem.Expr} {vs : List Value} {a k : Int} {u : Tok} {n : Nat} {Q : Value → Shared → Prop}
theorem item_V (N : News h₀ L s.heap news) (hm : (l, LCg.lst vs) ∈ news) (hI : IntsAre vs (colF a 0 n)) (h1 : -1 ≤ k) (h2 : k < n) (h3 : 0 < n) (h4 : n ≤ 5) (h : ∀ t, Q (.int (itemV a n k) t) s)
    (hs : subscripted slice false (.ref l) (.int k u) = operate [.ref l, .int k u] (getItem (.ref l) (.int k u)) := by with_unfolding_all rfl) :
    wpAny (model prog w) A (subscriptTail value slice (.ref l) (.int k u)) Q E s := by
  have hL := News.isList N hm
  have hlen := hI.length
  rw [colF_length] at hlen
  refine tail_any hL.typeIs slot_list_getitem.lookup ?_ hs
  by_cases hk : k < 0
  · have hk1 : k = -1 := by omega
    subst hk1
    obtain ⟨t, ht⟩ := ints_at hI (n - 1) (colF_at a n 0 (n - 1) (by omega))
    have e : itemV a n (-1) = a + ((0 + (n - 1) : Nat) : Int) * 7 := by
      unfold itemV; rw [if_pos (by decide)]; omega
    have h' := h t
    rw [e] at h'
    refine wpAny_getItem_list_neg hL (by omega) (by simp only [List.size_toArray]; omega) (by omega) ?_ h'
    have e2 : ((-1 : Int) + (vs.toArray.size : Int)).toNat = n - 1 := by simp only [List.size_toArray]; omega
    simp only [List.getElem?_toArray]
    first | (rw [e2]; exact ht) | (simp only [List.size_toArray] at *; rw [show ((-1 : Int) + (vs.length : Int)).toNat = n - 1 by omega]; exact ht) | (rw [show ((vs.length : Int) + -1).toNat = n - 1 by omega]; exact ht)
  · obtain ⟨t, ht⟩ := ints_at hI k.toNat (colF_at a n 0 k.toNat (by omega))
    have e : itemV a n k = a + ((0 + k.toNat : Nat) : Int) * 7 := by
      unfold itemV; rw [if_neg hk]; omega
    have h' := h t
    rw [e] at h'
    exact wpAny_getItem_list hL (by omega) (by omega) (by simpa using ht) h'
end
theorem nth_item {n y k c : Int} (h1 : 1 ≤ k) (h2 : k ≤ 12) (hn : 0 ≤ n) (hn5 : n ≤ 5) (hc : (c = 4 ∧ mlenI y k + 1 ≤ (dN k + adG y k - 1) % 7 + 1 + 28) ∨ (c = 5 ∧ (dN k + adG y k - 1) % 7 + 1 + 28 < mlenI y k + 1)) :
    nthI n (rulI y) y k = itemV ((dN k + adG y k - 1) % 7 + 1) c (n - 1) := by
  have r := rel_fw (y := y) h1 h2
  unfold nthI itemV
  rw [r]
  repeat' split
  all_goals omega
theorem nth_item2 {n y k c : Int} (h1 : 1 ≤ k) (h2 : k ≤ 12) (hn : 0 < n) (hn5 : n < 5) :
    nthI n ((rulI y + n + 1) % 7) y k = itemV (((dN k + adG y k - 1) % 7 + 1 + n) % 7 + 1) c (n - 1) := by
  have r := rel_fw (y := y) h1 h2
  unfold nthI itemV
  rw [if_neg (show ¬ n = 0 by omega), if_neg (show ¬ n - 1 < 0 by omega)]
  have b := fw_b y k
  have e : ((rulI y + n + 1) % 7 - fwI y k) % 7 = ((dN k + adG y k - 1) % 7 + 1 + n) % 7 := by omega
  rw [e]
  omega
theorem nth_itemN {n y k : Int} {c : Nat} (h1 : 1 ≤ k) (h2 : k ≤ 12) (hn : 0 ≤ n) (hn5 : n ≤ 5) (hc : (c = 4 ∧ mlenI y k + 1 ≤ (dN k + adG y k - 1) % 7 + 1 + 28) ∨ (c = 5 ∧ (dN k + adG y k - 1) % 7 + 1 + 28 < mlenI y k + 1)) :
    nthI n (rulI y) y k = itemV ((dN k + adG y k - 1) % 7 + 1) (c : Int) (n - 1) := nth_item h1 h2 hn hn5 (by omega)
theorem nth_item2N {n y k : Int} {c : Nat} {P R : Prop} (h1 : 1 ≤ k) (h2 : k ≤ 12) (hn : 0 ≤ n) (hn5 : n ≤ 5) (uhc : (c = 4 ∧ P) ∨ (c = 5 ∧ R)) :
    n = 0 ∨ n = 5 ∨ nthI n ((rulI y + n + 1) % 7) y k = itemV (((dN k + adG y k - 1) % 7 + 1 + n) % 7 + 1) (c : Int) (n - 1) := by
  by_cases h0 : n = 0
  · exact .inl h0
  · by_cases h5 : n = 5
    · exact .inr (.inl h5)
    · exact .inr (.inr (nth_item2 h1 h2 (by omega) (by omega)))
end

section
section
variable {prog : Program} {w : World} {A : Around} {E : Value → Shared → Prop} {s' : Shared} {h₀ h : Heap} {outer : List Env} {L a e : Addr} {m : Str → Option Value} {cn : Str} {cs : Scope} {ccd : Value} {cl : List (Str × Addr)}
  {b₀ : Stmt} {suite : List Stmt} {pos np : Pos} {rest : List ExceptHandler} {Q : Flow → Shared → Prop} {news : List (Addr × Obj)} {K : Frag}
  {p : Program} {loose : List Str} {mg mb : Str → Option Value} {x : Str} {X T' : String}
/-- an exception of a callee, taken by a clause without a name, in a frame that keeps cells; the suite raises nothing -/
theorem caught_NX (hA : A.frames = some (envX cn cs L a ccd cl :: outer)) (F : Fr h₀ L h m) (hsm : h.UpToSlots s'.heap) (R : RaisedN h₀ (envX cn cs L a ccd cl :: outer) e (.type X) news s'.heap)
    (KX : K.In h₀) (T : TopRead p loose mg mb h₀) (en : nsIn K mainGlobals x = some none) (hv : bootBuiltins x = some (.type T')) (hnn : x ≠ "__name__")
    (hexc : isSubtype (.type T') (.type "BaseException") = pure true) (hnt : isSubtype (.type ((Manifest.find? T').elim "type" fun y => y.metatype)) (.type "tuple") = pure false) (hsub : isSubtype (.type X) (.type T') = pure true)
    (k : ∀ h', Fr h₀ L h' m → News h₀ L h' news → wpAny (model prog w) (A.mark (some (.ref e))) (execs (b₀ :: suite) (envX cn cs L a ccd cl)) Q (fun _ _ => False) { s' with heap := h' })
    (hk : cs.kind = .function := by rfl) (hx : (envX cn cs L a ccd cl).kindOf x = some .globalImplicit := by rfl) (hd : (x == ("__debug__" : Str)) = false := by decide) :
    wpAny (model prog w) A (noteFrame (.ref e) (envX cn cs L a ccd cl))
      (fun _ s₂ => wpAny (model prog w) A (setFlight (.ref e) none) (fun _ s₃ =>
        wpAny (model prog w) A (handleBy (.ref e) (envX cn cs L a ccd cl) (.ExceptHandler (some (.Name x np)) none (b₀ :: suite) pos :: rest)) Q E s₃) E s₂) E s' := by
  obtain ⟨Bx, a0, hB, hl, hfl⟩ := R
  have hL : Bx.get? L = none := by
    obtain ⟨_, ⟨L', _, hf, hn', _⟩, _⟩ := hfl.2.2.1
    obtain rfl : L = L' := Option.some.inj hf
    exact hn'
  refine wpAny_looks_onW hA rfl hfl fun g1 held1 up1 => ?_
  refine wpAny_landsW held1 fun g2 fly2 up2 => ?_
  have up12 := up1.trans up2
  have base2 := flyingW_base hB fly2
  have F2 := F.of_stays base2.1 (hsm.trans up12)
  obtain ⟨ob, hob, hobc⟩ := base2.there
  refine wpAny_handleBy_builtin (X := X) (T := T') (b := true) hexc hnt hsub (nameX_B F2 KX T en hv hnn ⟨rfl, ⟨ob, hob, hobc⟩, ?_⟩ hk hx hd)
  refine lands_againW fly2 fun g3 fly3 up3 => ?_
  have F3 := F.of_stays (flyingW_base hB fly3).1 ((hsm.trans up12).trans up3)
  exact wpAny_mono (k g3 F3 fun q hq => ⟨fly3.1 _ _ (hl q hq).1, (fun z => by have := (hl q hq).1; rw [z, hL] at this; cases this), (hl q hq).2⟩) (fun _ _ q => q) (fun _ _ f => f.elim)
end
section
variable {prog : Program} {w : World} {A : Around} {E : Value → Shared → Prop} {s : Shared} {env : Env} {a b : Stmt} {rest : List Stmt} {Q P : Flow → Shared → Prop}
/-- two statements that pass to the next one in every way: the rest is walked once -/
theorem two_join (sub : wpAny (model prog w) A (exec a env) (fun f s₁ => match f with | .next => wpAny (model prog w) A (exec b env) P E s₁ | _ => False) E s)
    (pass : ∀ f s₂, P f s₂ → f = .next) (cont : ∀ s₂, P .next s₂ → wpAny (model prog w) A (execs rest env) Q E s₂) :
    wpAny (model prog w) A (execs (a :: b :: rest) env) Q E s := by
  refine wpAny_execs_cons (wpAny_mono sub (fun f s₁ h => ?_) fun _ _ e => e)
  cases f with
  | next =>
    refine wpAny_execs_cons (wpAny_mono h (fun f s₂ hp => ?_) fun _ _ e => e)
    have e := pass f s₂ hp
    subst e
    exact cont s₂ hp
  | _ => exact h.elim
/-- one statement that passes to the next one in every way -/
theorem one_join (sub : wpAny (model prog w) A (exec a env) P E s)
    (pass : ∀ f s₂, P f s₂ → f = .next) (cont : ∀ s₂, P .next s₂ → wpAny (model prog w) A (execs rest env) Q E s₂) :
    wpAny (model prog w) A (execs (a :: rest) env) Q E s := by
  refine wpAny_execs_cons (wpAny_mono sub (fun f s₁ h => ?_) fun _ _ e => e)
  have e := pass f s₁ h
  subst e
  exact cont s₁ h
/-- the name x may hold anything now; the ledger still bears what it bore -/
def SetEnd (x : Str) (h₀ : Heap) (L : Addr) (m : Str → Option Value) (news : List (Addr × Obj)) (s : Shared) (f : Flow) (s' : Shared) : Prop :=
  f = .next ∧ ∃ h' tk' v, Fr h₀ L h' (fun z => if z = x then some v else m z) ∧ News h₀ L h' news ∧ s' = { s with heap := h', toks := tk' }
theorem two_set (x : Str) {h₀ : Heap} {L : Addr} {m : Str → Option Value} {news : List (Addr × Obj)} (uF : Fr h₀ L s.heap m) (uN : News h₀ L s.heap news)
    (sub : wpAny (model prog w) A (exec a env) (fun f s₁ => match f with | .next => wpAny (model prog w) A (exec b env) (SetEnd x h₀ L m news s) E s₁ | _ => False) E s)
    (cont : ∀ h' tk' v, Fr h₀ L h' (fun z => if z = x then some v else m z) → News h₀ L h' news → wpAny (model prog w) A (execs rest env) Q E { s with heap := h', toks := tk' }) :
    wpAny (model prog w) A (execs (a :: b :: rest) env) Q E s :=
  two_join sub (fun _ _ h => h.1) fun s₂ h => by
    obtain ⟨_, h', tk', v, F, N, rfl⟩ := h
    exact cont h' tk' v F N
theorem one_pass {h₀ : Heap} {L : Addr} {m : Str → Option Value} {news : List (Addr × Obj)} (uF : Fr h₀ L s.heap m) (uN : News h₀ L s.heap news)
    (sub : wpAny (model prog w) A (exec a env) (PassEnd h₀ L m news s) E s)
    (cont : ∀ h' tk', Fr h₀ L h' m → News h₀ L h' news → wpAny (model prog w) A (execs rest env) Q E { s with heap := h', toks := tk' }) :
    wpAny (model prog w) A (execs (a :: rest) env) Q E s :=
  one_join sub (fun _ _ h => h.1) fun s₂ h => by
    obtain ⟨_, h', tk', F, N, rfl⟩ := h
    exact cont h' tk' F N
theorem below_like {A : Around} {outer : List Env} {h₀ h : Heap} {L : Addr} {m : Str → Option Value} (uF : Fr h₀ L h m) (K : Below A h₀ outer h₀) : Below A h₀ outer h₀ := K
end
theorem off_stored {stored : List Str} {z : Str} (h : stored.contains z = false) : ∀ n ∈ stored, z ≠ n := fun n hn e => by
  subst e
  have := List.contains_iff_mem.mpr hn
  rw [h] at this
  cases this
theorem turn_end {h₀ h' : Heap} {L : Addr} {x : Str} {stored : List Str} {m₀ m' : Str → Option Value} {news own all : List (Addr × Obj)} {s : Shared} {tk : Nat} {Q : Flow → Shared → Prop} (F : Fr h₀ L h' m') (N : News h₀ L h' all)
    (h1 : ∀ p ∈ news, p ∈ all) (h2 : ∀ p ∈ own, p ∈ all) (hm : ∀ z, z ≠ x → stored.contains z = false → m' z = m₀ z) :
    TurnEnd h₀ L x stored m₀ news own s Q .next { s with heap := h', toks := tk } := ⟨_, _, _, _, rfl, F, N, h1, h2, hm⟩
section
variable {prog : Program} {w : World} {A : Around} {E : Value → Shared → Prop} {s : Shared} {h₀ : Heap} {L l : Addr} {m : Str → Option Value} {news : List (Addr × Obj)} {vs : List Value} {a : Int} {n : Nat} {Q : Value → Shared → Prop}
theorem len_V (N : News h₀ L s.heap news) (hm : (l, LCg.lst vs) ∈ news) (hI : IntsAre vs (colF a 0 n)) (hn : n ≤ 20) (h : ∀ t, Q (.int (n : Int) t) { s with toks := s.toks + 1 + 1 }) :
    wpAny (model prog w) A (call (.builtin "len") [.ref l]) Q E s := by
  have hl : s.heap.IsList l vs.toArray := News.isList N hm
  have hlen := hI.length
  rw [colF_length] at hlen
  refine Calls.call_len_list hl (by simp only [List.size_toArray]; omega) ?_
  have h' := h (s.toks + 1)
  rw [show ((vs.toArray.size : Nat) : Int) = (n : Int) by simp only [List.size_toArray]; omega]
  exact h'
end
theorem any2 {a b k : Int} : [a, b].any (· == k) = decide (k = a ∨ k = b) := by
  rw [Bool.eq_iff_iff]
  simp only [List.any_cons, List.any_nil, Bool.or_false, Bool.or_eq_true, beq_iff_eq, decide_eq_true_eq]
  constructor <;> (intro h; omega)
theorem in_tup2 {prog : Program} {w : World} {A : Around} {E : Value → Shared → Prop} {s : Shared} {h₀ : Heap} {L a : Addr} {news : List (Addr × Obj)} {k x y : Int} {t u v : Tok} {Q : Value → Shared → Prop}
    (N : News h₀ L s.heap news) (hm : (a, ({ cls := .type "tuple", data := .seq #[.int x u, .int y v] } : Obj)) ∈ news) (h : Q (.bool (decide (k = x ∨ k = y))) s) :
    wpAny (model prog w) A (compareOp .In (.int k t) (.ref a)) Q E s :=
  in_tuple_ints (News.isTup N hm) (.cons _ _ (.cons _ _ .nil)) (by rw [any2]; exact h)
end

section
def RowsAre (rows : List (Addr × Obj)) (lp ml : Int) : Prop :=
  (∀ (j : Nat) (p : Addr × Obj), rows[j]? = some p → RowIs p.2 (7 * (j : Int)) lp ml) ∧ 4 ≤ rows.length ∧ rows.length ≤ 6 ∧ 7 * (rows.length : Int) - 7 < lp + ml ∧ lp + ml ≤ 7 * (rows.length : Int)
abbrev refsOf (rows : List (Addr × Obj)) : List Value := rows.map fun p => Value.ref p.1
section
variable {w : World} {p : Program} {loose : List Str} {mean : ExcName → Option Value} {mg mb : Str → Option Value}
/-- monthcalendar: a sheet of four, five or six rows -/
theorem cal_any {y m : Int} {t u : Tok} (hy1 : -10000010 < y) (hy2 : y < 10000010) (h1 : 1 ≤ m) (h2 : m ≤ 12)
    (dp un : Nat) (gd : Option (List Code)) (cn : Str) (cs : Scope) (a : Addr) (ccd : Value) (cl : List (Str × Addr)) (outer : List Env) (A₀ : Around) (base h₀ : Heap) (L : Addr) (mm : Str → Option Value) (news : List (Addr × Obj)) (s : Shared) (Q E : Value → Shared → Prop)
    (k1 : Below A₀ base outer h₀) (k2 : Fr h₀ L s.heap mm) (k3 : (hd.heap_39 w.params).In h₀) (k4 : News h₀ L s.heap news) (k5 : Top p loose mean mg mb h₀) (kK : cs.kind = .function) (kd : dp + 9 < recursionLimit) (ku : un + 8 * 9 < cLine)
    (ret : ∀ T rows h' tk' k, Fr h₀ L h' mm → News h₀ L h' ((T, lstO (refsOf rows) k) :: (rows ++ news)) → RowsAre rows ((fwI y m + 1) % 7) (mlenI y m) → Q (.ref T) { s with heap := h', toks := tk' }) :
    wpAny (model PySem.Challenge.rw_ak5009_01.row.toRowW.prog w) (ktrTop dp un gd cn cs L a ccd cl outer) (call (.ref 448) [.int y t, .int m u]) Q E s := by
  have hml := mlen_b y m
  have hfw := fw_b y m
  have e0 : ((gN y m 1 + 1) % 7 + 1) % 7 = (fwI y m + 1) % 7 := rfl
  by_cases c4 : (fwI y m + 1) % 7 + mlenI y m ≤ 28
  · refine cal_4 hy1 hy2 h1 h2 (by rw [e0]; omega) (by rw [e0]; omega) dp un gd cn cs a ccd cl outer A₀ base h₀ L mm news s Q E k1 k2 k3 k4 k5 kK kd ku ?_
    intro T r0 o0 r1 o1 r2 o2 r3 o3 h' tk' k F N q0 q1 q2 q3
    refine ret T [(r0, o0), (r1, o1), (r2, o2), (r3, o3)] h' tk' k F N ⟨?_, Nat.le_of_ble_eq_true rfl, Nat.le_of_ble_eq_true rfl, ?_, ?_⟩
    · intro j p e
      match j, e with
      | 0, e => cases e; exact q0
      | 1, e => cases e; exact q1
      | 2, e => cases e; exact q2
      | 3, e => cases e; exact q3
    · simp only [List.length_cons, List.length_nil]; omega
    · simp only [List.length_cons, List.length_nil]; omega
  · by_cases c5 : (fwI y m + 1) % 7 + mlenI y m ≤ 35
    · refine cal_5 hy1 hy2 h1 h2 (by rw [e0]; omega) (by rw [e0]; omega) dp un gd cn cs a ccd cl outer A₀ base h₀ L mm news s Q E k1 k2 k3 k4 k5 kK kd ku ?_
      intro T r0 o0 r1 o1 r2 o2 r3 o3 r4 o4 h' tk' k F N q0 q1 q2 q3 q4
      refine ret T [(r0, o0), (r1, o1), (r2, o2), (r3, o3), (r4, o4)] h' tk' k F N ⟨?_, Nat.le_of_ble_eq_true rfl, Nat.le_of_ble_eq_true rfl, ?_, ?_⟩
      · intro j p e
        match j, e with
        | 0, e => cases e; exact q0
        | 1, e => cases e; exact q1
        | 2, e => cases e; exact q2
        | 3, e => cases e; exact q3
        | 4, e => cases e; exact q4
      · simp only [List.length_cons, List.length_nil]; omega
      · simp only [List.length_cons, List.length_nil]; omega
    · refine cal_6 hy1 hy2 h1 h2 (by rw [e0]; omega) (by rw [e0]; omega) dp un gd cn cs a ccd cl outer A₀ base h₀ L mm news s Q E k1 k2 k3 k4 k5 kK kd ku ?_
      intro T r0 o0 r1 o1 r2 o2 r3 o3 r4 o4 r5 o5 h' tk' k F N q0 q1 q2 q3 q4 q5
      refine ret T [(r0, o0), (r1, o1), (r2, o2), (r3, o3), (r4, o4), (r5, o5)] h' tk' k F N ⟨?_, Nat.le_of_ble_eq_true rfl, Nat.le_of_ble_eq_true rfl, ?_, ?_⟩
      · intro j p e
        match j, e with
        | 0, e => cases e; exact q0
        | 1, e => cases e; exact q1
        | 2, e => cases e; exact q2
        | 3, e => cases e; exact q3
        | 4, e => cases e; exact q4
        | 5, e => cases e; exact q5
      · simp only [List.length_cons, List.length_nil]; omega
      · simp only [List.length_cons, List.length_nil]; omega
end
/-- the ints that one column of the sheet holds, row by row -/
def calF (c lp ml : Int) : Nat → Nat → List Int
  | _, 0 => []
  | j, n + 1 => if lp ≤ 7 * (j : Int) + c ∧ 7 * (j : Int) + c < lp + ml then (7 * (j : Int) + c - lp + 1) :: calF c lp ml (j + 1) n else calF c lp ml (j + 1) n
theorem calF_col {c lp ml : Int} : ∀ (n k j : Nat), lp ≤ 7 * (j : Int) + c → (k = 0 ∨ 7 * ((j + k : Nat) : Int) + c < 7 + lp + ml) → (k = n ∨ (k < n ∧ lp + ml ≤ 7 * ((j + k : Nat) : Int) + c)) →
    calF c lp ml j n = colF (c - lp + 1) j k
  | 0, k, j, _, _, h3 => by
    have e : k = 0 := by omega
    subst e; rfl
  | n + 1, 0, j, h1, _, h3 => by
    show (if lp ≤ 7 * (j : Int) + c ∧ 7 * (j : Int) + c < lp + ml then _ else calF c lp ml (j + 1) n) = _
    rw [if_neg (by omega)]
    exact calF_col n 0 (j + 1) (by omega) (.inl rfl) (by omega)
  | n + 1, k + 1, j, h1, h2, h3 => by
    show (if lp ≤ 7 * (j : Int) + c ∧ 7 * (j : Int) + c < lp + ml then (7 * (j : Int) + c - lp + 1) :: calF c lp ml (j + 1) n else _) = (c - lp + 1 + (j : Int) * 7) :: colF (c - lp + 1) (j + 1) k
    rw [if_pos (by omega), calF_col n k (j + 1) (by omega) (by omega) (by omega)]
    congr 1
    omega
theorem colF_shift (a : Int) : ∀ (k i : Nat), colF a (i + 1) k = colF (a + 7) i k
  | 0, _ => rfl
  | k + 1, i => by
    show (a + ((i + 1 : Nat) : Int) * 7) :: colF a (i + 1 + 1) k = (a + 7 + (i : Int) * 7) :: colF (a + 7) (i + 1) k
    rw [colF_shift a k (i + 1)]
    congr 1
    omega
theorem cal_col {c lp ml f : Int} {R n : Nat} (hc : 0 ≤ c ∧ c < 7) (hl : 0 ≤ lp ∧ lp < 7) (hm : 28 ≤ ml ∧ ml ≤ 31) (hR : 4 ≤ R ∧ R ≤ 6) (h1 : 7 * (R : Int) - 7 < lp + ml) (h2 : lp + ml ≤ 7 * (R : Int))
    (hf : f = (c - lp) % 7 + 1) (hn : (n = 4 ∧ ml + 1 ≤ f + 28) ∨ (n = 5 ∧ f + 28 < ml + 1)) : calF c lp ml 0 R = colF f 0 n := by
  by_cases g : lp ≤ c
  · have e : f = c - lp + 1 := by omega
    subst e
    exact calF_col R n 0 (by omega) (by omega) (by omega)
  · have e : f = c - lp + 1 + 7 := by omega
    subst e
    obtain ⟨r, rfl⟩ : ∃ r, R = r + 1 := ⟨R - 1, by omega⟩
    show (if lp ≤ 7 * ((0 : Nat) : Int) + c ∧ 7 * ((0 : Nat) : Int) + c < lp + ml then _ else calF c lp ml (0 + 1) r) = _
    rw [if_neg (by omega), ← colF_shift]
    exact calF_col r n (0 + 1) (by omega) (by omega) (by omega)
end

section
section
variable {prog : Program} {w : World} {A : Around} {E : Value → Shared → Prop} {s : Shared} {h₀ : Heap} {L : Addr} {m : Str → Option Value} {env : Env}
/-- the end of a row's turn: the frame and the ledger stand -/
def RowEnd (h₀ : Heap) (L : Addr) (m : Str → Option Value) (s : Shared) (led : List (Addr × Obj)) (P : Value → Prop) (y : Value) (s' : Shared) : Prop :=
  ∃ h' tk, s' = { s with heap := h', toks := tk } ∧ Fr h₀ L h' m ∧ News h₀ L h' led ∧ P y
/-- one row's turn of the comprehension over a sheet: the column's day, or nothing -/
def RowTurn (prog : Program) (w : World) (A : Around) (h₀ : Heap) (L : Addr) (m : Str → Option Value) (env : Env) (ct elt : Expr) (x : Str) (scope : Scope) (cl : List (Str × Addr)) (s : Shared) (cA : Addr) (cO : Obj) (lp ml c : Int) : Prop :=
  ∀ (r : Addr) (o : Obj) (a : Int) (I : Addr) (oI : Obj) (C : Addr) (oC : Obj) (D : Addr) (oD : Obj) (m₂ : Str → Option Value) (h : Heap) (tk : Nat) (E' : Value → Shared → Prop) (own : List (Addr × Obj)),
    RowIs o a lp ml → LCg.NsObj oC m₂ → m₂ x = some (.ref r) → Fr h₀ L h m → News h₀ L h ((I, oI) :: (C, oC) :: (D, oD) :: (r, o) :: (cA, cO) :: own) →
    wpAny (model prog w) A (isTrue ct (compEnvC scope cl C env) (eval ct (compEnvC scope cl C env)))
      (fun ok s' => if ok = true then wpAny (model prog w) A (eval elt (compEnvC scope cl C env)) (RowEnd h₀ L m { s with heap := h, toks := tk } ((I, oI) :: (C, oC) :: (D, oD) :: (r, o) :: (cA, cO) :: own) (fun y => ∃ t, y = .int (a + c - lp + 1) t ∧ lp ≤ a + c ∧ a + c < lp + ml)) E' s'
        else RowEnd h₀ L m { s with heap := h, toks := tk } ((I, oI) :: (C, oC) :: (D, oD) :: (r, o) :: (cA, cO) :: own) (fun _ => a + c < lp ∨ lp + ml ≤ a + c) Value.none s') E' { s with heap := h, toks := tk }
theorem cal_rest {ct elt : Expr} {x : Str} {scope : Scope} {cl : List (Str × Addr)} {T : Addr} {k : Nat} {rows news : List (Addr × Obj)} {cA : Addr} {cO : Obj} {lp ml c : Int} {Fin : List Value → List (Addr × Obj) → Prop}
    (hR : ∀ (j : Nat) (p : Addr × Obj), rows[j]? = some p → RowIs p.2 (7 * (j : Int)) lp ml) (hcell : (cA, cO) ∈ news) (turn : RowTurn prog w A h₀ L m env ct elt x scope cl s cA cO lp ml c) :
    ∀ (n i : Nat) (ys : List Value), i + n = rows.length → (∀ vs, IntsAre vs (calF c lp ml i n) → Fin (ys ++ vs) ((T, lstO (refsOf rows) k) :: (rows ++ news))) →
      LCt.CompRestT prog w A h₀ L m env ct elt x scope cl s (LCg.SrcAt h₀ T (refsOf rows).toArray) (fun i v => (refsOf rows).toArray[i]? = some v) Fin n i ys ((T, lstO (refsOf rows) k) :: (rows ++ news))
  | 0, i, ys, _, h => by
    have h0 := h [] .nil
    rw [List.append_nil] at h0
    exact h0
  | n + 1, i, ys, hi, h => by
    refine LCt.CompRestT.succ fun v I oI C oC D m₂ g tk E' hP hC hx F N off ne => ?_
    have hlt : i < rows.length := by omega
    have hp : rows[i]? = some rows[i] := List.getElem?_eq_getElem hlt
    have hv : v = Value.ref (rows[i]).1 := by
      have e : (refsOf rows)[i]? = some v := by simpa using hP
      rw [List.getElem?_map, hp] at e
      exact (Option.some.inj e).symm
    subst hv
    have hrow := hR i _ hp
    have hmem : rows[i] ∈ rows := List.getElem_mem hlt
    have hS : LCg.SrcAt h₀ T (refsOf rows).toArray ((T, lstO (refsOf rows) k) :: (rows ++ news)) := .inr ⟨_, .head _, rfl, k, rfl⟩
    have N2 : News h₀ L g ((I, oI) :: (C, oC) :: (D, LCg.lst ys) :: ((rows[i]).1, (rows[i]).2) :: (cA, cO) :: ((T, lstO (refsOf rows) k) :: (rows ++ news))) := fun q hq => N q (by
      simp only [List.mem_cons, List.mem_append] at hq ⊢
      rcases hq with h | h | h | h | h | h | h | h
      · exact .inl h
      · exact .inr (.inl h)
      · exact .inr (.inr (.inl h))
      · exact .inr (.inr (.inr (.inr (.inl (h ▸ hmem)))))
      · exact .inr (.inr (.inr (.inr (.inr (h ▸ hcell)))))
      · exact .inr (.inr (.inr (.inl h)))
      · exact .inr (.inr (.inr (.inr (.inl h))))
      · exact .inr (.inr (.inr (.inr (.inr h)))))
    have back : ∀ {g' : Heap}, News h₀ L g' ((I, oI) :: (C, oC) :: (D, LCg.lst ys) :: ((rows[i]).1, (rows[i]).2) :: (cA, cO) :: ((T, lstO (refsOf rows) k) :: (rows ++ news))) → News h₀ L g' ((I, oI) :: (C, oC) :: (D, LCg.lst ys) :: ((T, lstO (refsOf rows) k) :: (rows ++ news))) := fun N' q hq => N' q (by
      simp only [List.mem_cons] at hq ⊢
      rcases hq with h | h | h | h
      · exact .inl h
      · exact .inr (.inl h)
      · exact .inr (.inr (.inl h))
      · exact .inr (.inr (.inr (.inr (.inr h)))))
    refine wpAny_mono (turn (rows[i]).1 (rows[i]).2 (7 * (i : Int)) I oI C oC D (LCg.lst ys) m₂ g tk E' _ hrow hC hx F N2) (fun ok s₂ hq => ?_) fun _ _ e => e
    cases ok with
    | true =>
      simp only [if_true] at hq ⊢
      refine wpAny_mono hq (fun y s₃ hr => ?_) fun _ _ e => e
      obtain ⟨g', tk', rfl, F', N', t, rfl, c1, c2⟩ := hr
      refine ⟨g', tk', _, rfl, F', back N', off, hS, ?_⟩
      refine cal_rest hR hcell turn n (i + 1) _ (by omega) fun vs hI => ?_
      rw [List.append_assoc]
      refine h (_ :: vs) ?_
      show IntsAre _ (if lp ≤ 7 * (i : Int) + c ∧ 7 * (i : Int) + c < lp + ml then (7 * (i : Int) + c - lp + 1) :: calF c lp ml (i + 1) n else calF c lp ml (i + 1) n)
      rw [if_pos ⟨c1, c2⟩]
      exact .cons _ t hI
    | false =>
      simp only [Bool.false_eq_true, if_false] at hq ⊢
      obtain ⟨g', tk', rfl, F', N', c1⟩ := hq
      refine ⟨g', tk', _, rfl, F', back N', off, hS, ?_⟩
      refine cal_rest hR hcell turn n (i + 1) _ (by omega) fun vs hI => ?_
      refine h vs ?_
      show IntsAre _ (if lp ≤ 7 * (i : Int) + c ∧ 7 * (i : Int) + c < lp + ml then (7 * (i : Int) + c - lp + 1) :: calF c lp ml (i + 1) n else calF c lp ml (i + 1) n)
      rw [if_neg (by omega)]
      exact hI
/-- the comprehension over a sheet gives the column -/
theorem cal_src {ct elt : Expr} {x : Str} {scope : Scope} {cl : List (Str × Addr)} {T : Addr} {k n : Nat} {rows news : List (Addr × Obj)} {cA : Addr} {cO : Obj} {lp ml c f ρ : Int} {tρ : Tok} {Q : Value → Shared → Prop}
    (uhd : cO.data = .cell (some (.int ρ tρ))) (hh : A.handled = none) (F : Fr h₀ L s.heap m) (N : News h₀ L s.heap ((T, lstO (refsOf rows) k) :: (rows ++ news))) (hR : RowsAre rows lp ml) (hcell : (cA, cO) ∈ news)
    (hc : 0 ≤ c ∧ c < 7) (hl : 0 ≤ lp ∧ lp < 7) (hm : 28 ≤ ml ∧ ml ≤ 31) (hf : f = (c - lp) % 7 + 1) (hn : (n = 4 ∧ ml + 1 ≤ f + 28) ∨ (n = 5 ∧ f + 28 < ml + 1))
    (turn : ∀ g, RowTurn prog w A h₀ L m env ct elt x scope cl { s with heap := g } cA cO lp ml c)
    (fin : ∀ D vs h tk, IntsAre vs (colF f 0 n) → Fr h₀ L h m → News h₀ L h ((D, LCg.lst vs) :: news) → Q (.ref D) { s with heap := h, toks := tk }) :
    LCt.CompSrcT prog w A h₀ L m env ct elt x scope cl (fun s₂ => LCg.FinE h₀ L m s₂ Q) (.ref T) s := by
  obtain ⟨r0, r1, r2, r3, r4⟩ := hR
  have hlen : (refsOf rows).toArray.size = rows.length := by simp
  refine LCt.CompSrcT.ledger hh F N (.head _) (by rw [hlen, sizeLine_eq]; omega) fun g => ?_
  rw [hlen]
  refine cal_rest r0 hcell (turn g) rows.length 0 [] (by omega) fun vs hI => ?_
  rw [cal_col hc hl hm ⟨r1, r2⟩ r3 r4 hf hn] at hI
  intro D h tk F' N' o1
  exact fin D _ h tk hI F' fun q hq => N' q (by
    simp only [List.nil_append, List.mem_cons, List.mem_append] at hq ⊢
    rcases hq with h | h
    · exact .inl h
    · exact .inr (.inr (.inr h)))
/-- one place of a row -/
theorem row_item {r : Addr} {l : List Value} {k : Nat} {c : Int} {u : Tok} {own : List (Addr × Obj)} {value slice : PySem.Expr} {v : Value} {Q : Value → Shared → Prop} (N : News h₀ L s.heap own) (hm : (r, lstO l k) ∈ own) (h0 : 0 ≤ c) (h7 : c < 7) (hv : l[c.toNat]? = some v) (h : Q v s)
    (hs : subscripted slice false (.ref r) (.int c u) = operate [.ref r, .int c u] (getItem (.ref r) (.int c u)) := by with_unfolding_all rfl) :
    wpAny (model prog w) A (subscriptTail value slice (.ref r) (.int c u)) Q E s := by
  have hL := News.isList N hm
  exact tail_any hL.typeIs slot_list_getitem.lookup (wpAny_getItem_list hL h0 (by omega) (by simpa using hv) h) hs
end
end

section
local macro_rules | `(tactic| walk_at "binaryOp Add float float") => `(tactic| ((refine add_ff (by assumption) (by first | assumption | exact fq_lit_half) (by omega) ?_); intro y' hy'; (try dsimp only)))
local macro_rules | `(tactic| walk_at "binaryOp Sub float float") => `(tactic| ((refine sub_ff (by assumption) (by assumption) (by omega) ?_); intro y' hy'; (try dsimp only)))
local macro_rules | `(tactic| walk_at "binaryOp Add float int") => `(tactic| ((refine add_fi (by assumption) (by omega) (by omega) ?_); intro y' hy'; (try dsimp only)))
local macro_rules | `(tactic| walk_at "binaryOp Sub float int") => `(tactic| ((refine sub_fi (by first | assumption | exact fq_epoch) (by omega) (by omega) ?_); intro y' hy'; (try dsimp only)))
local macro_rules | `(tactic| walk_at "call builtin:math.trunc") => `(tactic| ((refine trunc_w (by assumption) (by omega) ?_); intro r' t' hr'; (try dsimp only)))
local macro_rules | `(tactic| walk_at "call builtin:math.floor") => `(tactic| ((refine floor_w (by first | assumption | exact fl_of_fq (by assumption)) ?_); (try dsimp only)))
local macro_rules | `(tactic| walk_at "binaryOp Div int int") => `(tactic| ((refine div_iw rfl (by decide) (by decide) (by omega) ?_); intro y' hy'; (try dsimp only)))
local macro_rules | `(tactic| walk_at "binaryOp Mod int int") => `(tactic| ((refine mod_p (by decide) ?_); (try dsimp only)))
local macro_rules | `(tactic| walk_at "binaryOp FloorDiv int int") => `(tactic| ((refine fdiv_p (by decide) (PyProof.noPylong_of_log2 (by decide +kernel)) ?_); (try dsimp only)))
local macro_rules | `(tactic| walk_at "my enter") => `(tactic| (unfold Claim; k_fill; intro dp un gd cn cs a ccd cl outer A₀ base h₀ L m news s Q E B F X N T hk hdp hu hret; refine wpAny_call ?_; k_dflt cell_enter; k_steps))
local macro_rules | `(tactic| walk_at "eval Call") => `(tactic| (k_here; (with_reducible show wpAny _ _ (eval (Expr.Call (Expr.Name _ _) _ [] _) _) _ _ _); refine Call_ ?_))
local macro_rules | `(tactic| walk_at "ite") => `(tactic| (first
  | (refine ite_bt ?hb ?_; (case hb => first | assumption | (simp only [decide_eq_true_eq, Bool.not_eq_true', decide_eq_false_iff_not, beq_iff_eq, bne_iff_ne, Bool.and_eq_true, Bool.or_eq_true, beq_eq_false_iff_ne, bne_eq_false_iff_eq]; omega)))
  | (refine ite_bf ?hb ?_; (case hb => first | assumption | (simp only [decide_eq_true_eq, Bool.not_eq_false', decide_eq_false_iff_not, beq_iff_eq, bne_iff_ne, Bool.and_eq_false_iff, Bool.or_eq_false_iff, beq_eq_false_iff_ne, bne_eq_false_iff_eq]; omega)))))
local macro_rules | `(tactic| walk_at "compareOp In int ref") => `(tactic| (k_here; k_dflt (refine' in_tup4 ?F ?X ?l ?i ?_; (case F => k_asm); (case X => k_asm); (case l => k_is); (case i => repeat constructor)); (try dsimp only)))
local macro_rules | `(tactic| walk_at "compareOp Eq int ref") => `(tactic| (k_here; (with_reducible show wpAny _ _ (compareOp CmpOp.Eq (Value.int _ _) (Value.ref 331)) _ _ _); k_dflt (refine' eq_feb ?hu ?X ?_; (case hu => ktr_units); (case X => k_in)); (try dsimp only)))
local macro_rules | `(tactic| walk_at "binaryOp Sub int ref") => `(tactic| (k_here; (with_reducible show wpAny _ _ (binaryOp Operator.Sub (Value.int _ _) (Value.ref (dayA _))) _ _ _); k_dflt (refine' sub_day ?a ?b ?X ?_; (case a => exact (fw_b _ _).1); (case b => exact (fw_b _ _).2); (case X => k_in)); (try dsimp only)))
local macro_rules | `(tactic| walk_at "subscriptTail") => `(tactic| (k_here; (with_reducible show wpAny _ _ (subscriptTail _ _ (Value.ref 384) (Value.int _ _)) _ _ _); k_dflt (refine' mdays_item ?a ?b ?X ?_; (case a => omega); (case b => omega); (case X => k_in)); intro t'; (try dsimp only)))
local macro_rules | `(tactic| walk_at "call ref") => `(tactic| (k_here; (first | (with_reducible show wpAny _ _ (call (Value.ref 405) _) _ _ _) | (with_reducible show wpAny _ _ (call (Value.ref 412) _) _ _ _)); k_dflt (refine wpAny_call ?_; refine' code_def ?k1 ?k2 ?k3 ?k4 ?k5 ?kA ?kF ?kK ?k6 ?k7 ?k8 ?k9 ?kB ?_ ?c2 ?c3 ?c4 ?c5; (case kA => exact rfl); (case kF => exact rfl); (case kK => first | exact rfl | assumption); (case k1 => k_asm); (case k2 => k_asm); (case k3 => k_asm); (case k4 => k_asm); (case k5 => k_asm); (case k6 => k_is); (case k7 => k_is); (case k8 => ktr_room); (case k9 => exact BindsTo.of_eq rfl); (case c5 => decide); (case kB => exact locs rfl); (case c2 => exact rfl); (case c3 => exact rfl); (case c4 => exact rfl); k_whole; intro g' L' h' FG' F' N' B' X' T'; (try dsimp only); (try k_lift B'); (try k_fold))))
local macro_rules | `(tactic| walk_at "call ref") => `(tactic| (k_here; (with_reducible show wpAny _ _ (call (Value.ref 66) _) _ _ _); k_dflt (refine' jwday_c ?a0 ?a1 _ _ _ _ _ _ _ _ _ _ _ _ _ _ _ _ _ _ ?k1 ?k2 ?k3 ?k4 ?k5 ?kK ?kd ?ku ?_; (case a0 => assumption); (case a1 => omega); (case k1 => k_asm); (case k2 => k_asm); (case k3 => k_asm); (case k4 => k_asm); (case k5 => k_asm); (case kK => first | exact rfl | assumption); (case kd => ktr_room); (case ku => ktr_units)); intro r9 h9 tk9 F9 N9 e9; obtain ⟨t9, e9⟩ := e9; subst e9; (try dsimp only); (try k_sweep); (try k_fold)))
local macro_rules | `(tactic| walk_at "call ref") => `(tactic| (k_here; (with_reducible show wpAny _ _ (call (Value.ref 391) _) _ _ _); k_dflt (refine' isleap_c _ _ _ _ _ _ _ _ _ _ _ _ _ _ _ _ _ _ ?k1 ?k2 ?k3 ?k4 ?k5 ?kK ?kd ?ku ?_; (case k1 => k_asm); (case k2 => k_asm); (case k3 => k_asm); (case k4 => k_asm); (case k5 => k_asm); (case kK => first | exact rfl | assumption); (case kd => ktr_room); (case ku => ktr_units)); intro r9 h9 tk9 F9 N9 e9; subst e9; (try dsimp only); (try k_sweep); (try k_fold)))
local macro_rules | `(tactic| walk_at "call ref") => `(tactic| (k_here; (with_reducible show wpAny _ _ (call (Value.ref 434) _) _ _ _); k_dflt (refine' to_jd_g_c ?a0 ?a1 ?a2 ?a3 ?a4 ?a5 _ _ _ _ _ _ _ _ _ _ _ _ _ _ _ _ _ _ ?k1 ?k2 ?k3 ?k4 ?k5 ?kK ?kd ?ku ?_; (case a0 => omega); (case a1 => omega); (case a2 => omega); (case a3 => omega); (case a4 => omega); (case a5 => first | assumption | omega | (exact Int.le_trans (by decide) (mlen_b _ _).1)); (case k1 => k_asm); (case k2 => k_asm); (case k3 => k_asm); (case k4 => k_asm); (case k5 => k_asm); (case kK => first | exact rfl | assumption); (case kd => ktr_room); (case ku => ktr_units)); intro r9 h9 tk9 F9 N9 e9; obtain ⟨z9, t9, e9, hz9⟩ := e9; subst e9; (try dsimp only); (try k_sweep); (try k_fold)))
local macro_rules | `(tactic| walk_at "call ref") => `(tactic| (k_here; (with_reducible show wpAny _ _ (call (Value.ref 484) _) _ _ _); k_dflt (refine' to_jd_j_c ?a0 ?a1 ?a2 ?a3 ?a4 ?a5 ?a6 _ _ _ _ _ _ _ _ _ _ _ _ _ _ _ _ _ _ ?k1 ?k2 ?k3 ?k4 ?k5 ?kK ?kd ?ku ?_; (case a0 => omega); (case a1 => omega); (case a2 => omega); (case a3 => omega); (case a4 => omega); (case a5 => first | assumption | omega | (unfold mlenJ; (repeat split) <;> omega)); (case a6 => omega); (case k1 => k_asm); (case k2 => k_asm); (case k3 => k_asm); (case k4 => k_asm); (case k5 => k_asm); (case kK => first | exact rfl | assumption); (case kd => ktr_room); (case ku => ktr_units)); intro r9 h9 tk9 F9 N9 e9; obtain ⟨z9, t9, e9, hz9⟩ := e9; subst e9; (try dsimp only); (try k_sweep); (try k_fold)))
local macro_rules | `(tactic| walk_at "call ref") => `(tactic| (k_here; (with_reducible show wpAny _ _ (call (Value.ref 441) _) _ _ _); k_dflt (refine' mlen_g_c ?a0 ?a1 _ _ _ _ _ _ _ _ _ _ _ _ _ _ _ _ _ _ ?k1 ?k2 ?k3 ?k4 ?k5 ?kK ?kd ?ku ?_; (case a0 => omega); (case a1 => omega); (case k1 => k_asm); (case k2 => k_asm); (case k3 => k_asm); (case k4 => k_asm); (case k5 => k_asm); (case kK => first | exact rfl | assumption); (case kd => ktr_room); (case ku => ktr_units)); intro r9 h9 tk9 F9 N9 e9; obtain ⟨t9, e9⟩ := e9; subst e9; (try dsimp only); (try k_sweep); (try k_fold)))
local macro_rules | `(tactic| walk_at "call ref") => `(tactic| (k_here; (with_reducible show wpAny _ _ (call (Value.ref 455) _) _ _ _); k_dflt (refine' weeks_c ?a0 ?a1 _ _ _ _ _ _ _ _ _ _ _ _ _ _ _ _ _ _ ?k1 ?k2 ?k3 ?k4 ?k5 ?kK ?kd ?ku ?_; (case a0 => omega); (case a1 => omega); (case k1 => k_asm); (case k2 => k_asm); (case k3 => k_asm); (case k4 => k_asm); (case k5 => k_asm); (case kK => first | exact rfl | assumption); (case kd => ktr_room); (case ku => ktr_units)); intro r9 h9 tk9 F9 N9 e9; obtain ⟨t9, e9⟩ := e9; subst e9; (try dsimp only); (try k_sweep); (try k_fold)))
local macro_rules | `(tactic| walk_at "IntEnd") => `(tactic| (k_here; refine ⟨_, _, _, rfl, ?_, rfl⟩; (first | ((with_reducible rename YearP _ => hP9); refine hP9 _ ?_ ?_ <;> omega) | ((with_reducible rename NthP _ => hP9); refine hP9 _ ?_ ?_ <;> omega) | ((with_reducible rename EqP _ _ => hP9); refine hP9 _ ?_; first | rfl | (unfold adG; rw [if_pos ⟨by assumption, by omega⟩]) | (unfold adG; rw [if_neg (by rintro ⟨h1, h2⟩; first | omega | (rename (leapB _ = false) => hl9; rw [hl9] at h1; cases h1))]) | (unfold adJ; first | rw [if_pos ⟨by omega, by omega⟩] | rw [if_neg (by omega)])))))
local macro_rules | `(tactic| walk_at "BoolEnd") => `(tactic| (k_here; refine ⟨_, _, rfl, ?_, rfl⟩; ((with_reducible rename EqB _ _ => hP9); refine hP9 _ ?_; rw [Bool.eq_iff_iff]; simp only [leapB, decide_eq_true_eq, bne_iff_ne, beq_iff_eq, Bool.false_eq_true, Bool.true_eq_false, iff_false, false_iff, iff_true, true_iff]; omega)))
local macro_rules | `(tactic| walk_at "pyIter ref") => `(tactic| ((with_reducible show wpAny _ _ (pyIter (Value.ref _)) (fun it s₂ => LoopAtV _ _ _ _ _ _ _ _ _ it s₂) _ _); k_here; (rename Fr _ _ _ _ => lF'); (rename News _ _ _ _ => lN'); (rename IsRange _ _ _ _ _ _ _ _ => rgX); (rename YearIs _ => hYr); (with_unfolding_all refine' loop_k ["day", "first", "mine", "told", "other", "theirs"] rfl rgX lF' lN' (fun k9 t9 u9 h9 tk9 own9 hk1 hk2 hoff9 F9 N9 => ?_) (fun u9 h9 tk9 F9 N9 => ?_)) <;> (clear lF' lN'); (case' refine_1 => (have hMo : MonthIs k9 := trivial; have hMF := month_facts (y := _) (by assumption) (by assumption) hk1 hk2; obtain ⟨f_d, f_g, f_j, f_lg, f_lj, f_rg, f_rj, f_rf, f_ml, f_fw, f_ru, f_gb, f_jb⟩ := hMF; simp only [List.cons_append, List.nil_append] at N9))))
local macro_rules | `(tactic| walk_at "subscriptTail Name BinOp ref int") => `(tactic| (k_here; k_dflt (refine' item_days ?iN ?im ?iI ?i1 ?i2 ?_ ?is; (case iN => k_asm); (case im => k_mem); (case iI => (repeat (first | exact IntsAre.nil | refine IntsAre.cons _ _ ?_))); (case i1 => assumption); (case i2 => assumption); (case is => with_unfolding_all rfl)); intro t9; (try dsimp only)))
local macro_rules | `(tactic| walk_at "exec Assign cons ListComp") => `(tactic| (k_here; k_dflt (refine assign_V (F₀ := by k_asm) (by rfl) (by with_unfolding_all rfl) (by rfl) (by decide) (by rfl) (by decide) (by rfl) (by rfl) (by rfl) ?_)))
local macro_rules | `(tactic| walk_at "SrcV") => `(tactic| (k_here; k_dflt (refine ⟨_, _, _, _, _, _, _, rfl, (by exact rfl), (by k_asm), (by k_asm), (by assumption), ⟨by omega, by omega, by omega, by omega⟩, fun g9 => ?_, fun vs9 c9 D9 h9 tk9 hI9 hc9 F9 N9 o9 => ?_⟩) <;> ((try simp only [LCg.Off1, and_true] at o9); (try dsimp only); (try k_sweep))))
local macro_rules | `(tactic| walk_at "OneTurn") => `(tactic| (intro v9 I9 oI9 C9 oC9 D9 oD9 m9 h9 tk9 E9 rest9 hC9 hx9 F9 N9 off9 ne9 hr9))
local macro_rules | `(tactic| walk_at "CompEnd") => `(tactic| (refine compEnd0 (by k_asm) (by assumption) (by assumption) (by assumption)))
local macro_rules | `(tactic| walk_at "call ref") => `(tactic| (k_here; (with_reducible show wpAny _ _ (call (Value.ref 419) _) _ _ _); focus (k_dflt (refine' nth_any ?a0 ?a1 ?a2 ?a3 ?a4 ?a5 _ _ _ _ _ _ _ _ _ _ _ _ _ _ _ _ _ _ ?k1 ?k2 ?k3 ?k4 ?k5 ?kK ?kd ?ku (fun hok9 T9 h9 tk9 t9 F9 N9 l9 => ?_) (fun hn9 hbad9 g9 e9 h9 tk9 F9 R9 u9 => ?_); (case a0 => omega); (case a1 => omega); (case a2 => omega); (case a3 => omega); (case a4 => omega); (case a5 => omega); (case k1 => k_asm); (case k2 => k_asm); (case k3 => k_asm); (case k4 => k_asm); (case k5 => k_asm); (case kK => first | exact rfl | assumption); (case kd => ktr_room); (case ku => ktr_units)); all_goals ((try (have hz9 := hn9; exfalso; omega)); (try k_lt l9); (try dsimp only); (try k_sweep); (try k_fold)))))
local macro_rules | `(tactic| walk_at "subscriptTail") => `(tactic| (k_here; (try dsimp only); k_dflt (refine' item_V ?iN ?im ?iI ?i1 ?i2 ?i3 ?i4 ?_ ?is; (case iN => k_asm); (case im => k_mem); (case iI => assumption); (case i1 => omega); (case i2 => omega); (case i3 => omega); (case i4 => omega); (case is => with_unfolding_all rfl)); intro t9; (try dsimp only)))
local macro_rules | `(tactic| walk_at "exec For Name Call cons nil") => `(tactic| (k_here; (rename Fr _ _ _ _ => lF'); (with_unfolding_all refine' For_invVF lF' ?k1 ?k2 ?_; (case k1 => exact rfl); (case k2 => exact rfl); k_whole); skip))
local macro_rules | `(tactic| walk_at "s1") => `(tactic| first | walk1 | (dsimp only; walk1) | (k_unfold; (try dsimp only)))
local macro_rules | `(tactic| walk_at "to execs") => `(tactic| repeat ((fail_if_success (focus (with_reducible show wpAny _ _ (execs _ _) _ _ _))); walk_at "s1"))
local macro_rules | `(tactic| walk_at "to IfExp") => `(tactic| repeat ((fail_if_success (focus (with_reducible show wpAny _ _ (eval (Expr.IfExp _ _ _ _) _) _ _ _))); walk_at "s1"))
local macro_rules | `(tactic| walk_at "to BoolOp") => `(tactic| repeat ((fail_if_success (focus (with_reducible show wpAny _ _ (eval (Expr.BoolOp _ _ _) _) _ _ _))); walk_at "s1"))
local macro_rules | `(tactic| walk_at "to BinOp") => `(tactic| repeat ((fail_if_success (focus (with_reducible show wpAny _ _ (eval (Expr.BinOp _ _ _ _) _) _ _ _))); walk_at "s1"))
local macro_rules | `(tactic| walk_at "to pyIter") => `(tactic| repeat ((fail_if_success (focus (with_reducible show wpAny _ _ (pyIter _) _ _ _))); walk_at "s1"))
local macro_rules | `(tactic| walk_at "to ite") => `(tactic| repeat ((fail_if_success (focus (with_reducible show ite _ _ _))); walk_at "s1"))
local macro_rules | `(tactic| walk_at "call builtin:len") => `(tactic| (k_here; (with_reducible show wpAny _ _ (call (Value.builtin "len") [Value.ref _]) _ _ _); k_dflt (refine' len_V ?iN ?im ?iI ?i1 ?_; (case iN => k_asm); (case im => k_mem); (case iI => with_reducible assumption); (case i1 => omega)); intro t9; (try dsimp only)))
local macro_rules | `(tactic| walk_at "SetEnd") => `(tactic| (k_here; k_dflt (refine ⟨rfl, _, _, _, by k_asm, cb_drop (by k_asm) (fun p hp => by repeat (first | exact hp | apply List.Mem.tail)), rfl⟩)))
local macro_rules | `(tactic| walk_at "PassEnd") => `(tactic| (k_here; k_dflt (refine ⟨rfl, _, _, by k_asm, cb_drop (by k_asm) (fun p hp => by repeat (first | exact hp | apply List.Mem.tail)), rfl⟩)))
local macro_rules | `(tactic| walk_at "subscriptTail Name BinOp ref int") => `(tactic| (k_here; (try dsimp only); k_dflt (refine' item_V ?iN ?im ?iI ?i1 ?i2 ?i3 ?i4 ?_ ?is; (case iN => k_asm); (case im => k_mem); (case iI => assumption); (case i1 => omega); (case i2 => omega); (case i3 => omega); (case i4 => omega); (case is => with_unfolding_all rfl)); intro t9; (try dsimp only)))
local macro_rules | `(tactic| walk_at "to sub") => `(tactic| repeat ((fail_if_success (focus (with_reducible show wpAny _ _ (subscriptTail _ _ _ _) _ _ _))); walk_at "s1"))
local macro_rules | `(tactic| walk_at "noteFrame ref") => `(tactic| (k_here; (rename RaisedN _ _ _ _ _ _ => rkX9); k_dflt (refine caught_NX (T' := "IndexError") rfl (by assumption) (by assumption) rkX9 (by assumption) (topRead_of (by assumption)) (by kernel_rfl) PyProof.Rows.Boot.«IndexError» (by decide) PySem.F.isExc_IndexError PySem.F.notTuple_IndexError (by rw [isSubtype_type]; kernel_rfl) ?_); intro h9 F9 N9; (try dsimp only); (try k_sweep)))
local macro_rules | `(tactic| walk_at "exec Try") => `(tactic| (k_here; refine wpAny_Try_except ?_; (try k_fold)))
local macro_rules | `(tactic| walk_at "call ref") => `(tactic| (k_here; (with_reducible show wpAny _ _ (call (Value.ref 448) _) _ _ _); k_dflt (refine' cal_any ?a0 ?a1 ?a2 ?a3 _ _ _ _ _ _ _ _ _ _ _ _ _ _ _ _ _ _ ?k1 ?k2 ?k3 ?k4 ?k5 ?kK ?kd ?ku ?_; (case a0 => omega); (case a1 => omega); (case a2 => omega); (case a3 => omega); (case k1 => k_asm); (case k2 => k_asm); (case k3 => k_asm); (case k4 => k_asm); (case k5 => k_asm); (case kK => first | exact rfl | assumption); (case kd => ktr_room); (case ku => ktr_units)); intro T9 rows9 h9 tk9 k9 F9 N9 hR9; (try dsimp only); (try k_sweep)))
local macro_rules | `(tactic| walk_at "eval ListComp") => `(tactic| (k_here; k_dflt (refine LCt.ListComp_T (F₀ := by k_asm) (by with_unfolding_all rfl) (by decide) (by rfl) (by decide) (by rfl) ?_)))
local macro_rules | `(tactic| walk_at "subscriptTail Name BinOp ref int") => `(tactic| (k_here; (try dsimp only); k_dflt (refine' row_item ?iN ?im ?i1 ?i2 ?iI ?_ ?is; (case iN => k_asm); (case im => k_mem); (case iI => with_reducible assumption); (case i1 => omega); (case i2 => omega); (case is => with_unfolding_all rfl)); (try dsimp only)))
local macro_rules | `(tactic| walk_at "RowEnd") => `(tactic| (k_here; k_dflt (refine ⟨_, _, rfl, by k_asm, by k_asm, ?_⟩); first | exact ⟨_, rfl, by omega, by omega⟩ | omega))
local macro_rules | `(tactic| walk_at "compareOp NotEq float int") => `(tactic| (refine ne_fi_w (by assumption) ?_; (try dsimp only)))
local macro_rules | `(tactic| walk_at "compareOp In int ref") => `(tactic| (k_here; (try dsimp only); k_dflt (refine' in_tup2 ?F ?l ?_; (case F => k_asm); (case l => k_mem)); (try dsimp only)))
theorem law1 : PySem.Challenge.rw_ak5009_01.Holds := by
  exact Mine.hd (by
    w_strict (
      k_go0
      (all_goals try k_fold)
      rename Below _ _ _ _ => K0
      dsimp only [PyProof.Rows.Top.heap] at K0
      walk_at "to IfExp"
      walk_say "YEAR"
      refine joinYear ?jy1 ?_
      case jy1 => (intro P9 hP9; k_steps)
      intro y9 t9 tk9 hY9 hy1 hy2
      dsimp only
      walk_at "to IfExp"
      walk_say "NTH"
      refine joinNth ?jy2 ?_
      case jy2 => (intro P9 hP9; k_steps)
      intro n9 tn9 tk9 hN9 hn1 hn2
      dsimp only
      walk_at "to BoolOp"
      walk_say "LONG"
      refine joinLong hY9 ?jy3 ?_
      case jy3 => (intro P9 hP9; k_steps)
      intro tk9
      dsimp only
      walk_at "to BinOp"
      walk_say "RULING"
      refine joinRul hY9 ?jy4 ?_
      case jy4 => (intro P9 hP9; k_steps)
      intro tr9 tk9
      dsimp only
      walk_at "to BinOp"
      walk_say "OLD"
      refine joinOld hY9 ?jy5 ?_
      case jy5 => (intro P9 hP9; k_steps)
      intro to9 tk9
      dsimp only
      walk_at "to pyIter"
      walk_say "LOOP"
      rename Fr _ _ _ _ => lF'
      rename News _ _ _ _ => lN'
      rename IsRange _ _ _ _ _ _ _ _ => rgX
      (with_unfolding_all refine' loop_k ["day", "first", "mine", "told", "other", "theirs"] rfl rgX lF' lN' (fun k9 t9 u9 h9 tk9 own9 hk1 hk2 hoff9 F9 N9 => ?turn) (fun u9 h9 tk9 F9 N9 => ?tail) (by exact rfl)) <;> (clear lF' lN')
      case tail =>
        (try dsimp only)
        (try k_fold)
        have hrj := rel_jan y9
        have hfw1 := fw_b y9 1
        have hru := rul_b y9
        have heG := endG y9
        have heJ := endJ y9
        walk_say "TAIL"
        rcases leap_cases y9 with ⟨hl, hl4, hl2⟩ | ⟨hl, hl2⟩
        · have ha : adG y9 1 = 1 := by unfold adG; rw [if_pos ⟨hl, by decide⟩]
          have hj : adJ y9 1 = 1 := by unfold adJ; rw [if_pos ⟨hl4, by decide⟩]
          rw [ha] at heG hrj
          rw [hj] at heJ
          rw [show (3 : Int) + 1 = 4 from rfl] at heG heJ
          rw [show (2 : Int) + 1 = 3 from rfl] at hrj
          (repeat (walk_at "s1"))
          walk_say "TAILA"
          · have hw : fwI y9 1 = 3 ∨ fwI y9 1 = 2 ∧ leapB y9 = true := by by_cases h3 : fwI y9 1 = 3 <;> first | exact .inl h3 | exact .inr ⟨by omega, hl⟩
            rw [if_pos hw, show ((53 : Int) == 53) = true from rfl]
            wrow_close
          (repeat (walk_at "s1"))
          walk_say "TAILA2"
          · have hw : ¬ (fwI y9 1 = 3 ∨ fwI y9 1 = 2 ∧ leapB y9 = true) := by rintro (h | ⟨h, _⟩) <;> omega
            rw [if_neg hw, show ((52 : Int) == 52) = true from rfl]
            wrow_close
        · have ha : adG y9 1 = 0 := by unfold adG; rw [if_neg (by rintro ⟨h1, _⟩; rw [hl] at h1; cases h1)]
          rw [ha] at heG hrj
          rw [show (3 : Int) + 0 = 3 from rfl] at heG
          rw [show (2 : Int) + 0 = 2 from rfl] at hrj
          by_cases hl4 : y9 % 4 = 0
          · have hj : adJ y9 1 = 1 := by unfold adJ; rw [if_pos ⟨hl4, by decide⟩]
            rw [hj] at heJ
            rw [show (3 : Int) + 1 = 4 from rfl] at heJ
            (repeat (walk_at "s1"))
            walk_say "TAILB"
            · have hw : fwI y9 1 = 3 ∨ fwI y9 1 = 2 ∧ leapB y9 = true := .inl (by omega)
              rw [if_pos hw, show ((53 : Int) == 53) = true from rfl]
              wrow_close
            (repeat (walk_at "s1"))
            walk_say "TAILB2"
            · have hw : ¬ (fwI y9 1 = 3 ∨ fwI y9 1 = 2 ∧ leapB y9 = true) := by rintro (h | ⟨_, h⟩) <;> first | omega | (rw [hl] at h; cases h)
              rw [if_neg hw, show ((52 : Int) == 52) = true from rfl]
              wrow_close
          · have hj : adJ y9 1 = 0 := by unfold adJ; rw [if_neg (fun h => hl4 h.1)]
            rw [hj] at heJ
            rw [show (3 : Int) + 0 = 3 from rfl] at heJ
            (repeat (walk_at "s1"))
            walk_say "TAILC"
            · have hw : fwI y9 1 = 3 ∨ fwI y9 1 = 2 ∧ leapB y9 = true := .inl (by omega)
              rw [if_pos hw, show ((53 : Int) == 53) = true from rfl]
              wrow_close
            (repeat (walk_at "s1"))
            walk_say "TAILC2"
            · have hw : ¬ (fwI y9 1 = 3 ∨ fwI y9 1 = 2 ∧ leapB y9 = true) := by rintro (h | ⟨_, h⟩) <;> first | omega | (rw [hl] at h; cases h)
              rw [if_neg hw, show ((52 : Int) == 52) = true from rfl]
              wrow_close
      case turn =>
        have hMo : MonthIs k9 := trivial
        obtain ⟨f_d, f_g, f_j, f_lg, f_lj, f_rg, f_rj, f_rf, f_ml, f_fw, f_ru, f_gb, f_jb⟩ := month_facts hy1 hy2 hk1 hk2
        simp only [List.cons_append, List.nil_append] at N9
        dsimp only
        try k_fold
        walk_say "DAY"
        walk_at "s1"
        walk_at "to execs"
        walk_say "JWG"
        walk_at "s1"
        walk_at "to IfExp"
        refine joinG hY9 hMo ?jG ?_
        case jG => (intro P9 hP9; k_steps)
        intro ta9 tk9
        dsimp only
        walk_at "to execs"
        walk_say "JWJ"
        walk_at "s1"
        walk_at "to IfExp"
        refine joinJ hY9 hMo ?jJ ?_
        case jJ => (intro P9 hP9; k_steps)
        intro ta9 tk9
        dsimp only
        walk_at "to execs"
        clear f_gb f_jb f_rg f_rj f_g f_j f_lg f_lj
        walk_say "FIRST"
        walk_at "s1"
        walk_at "to IfExp"
        refine joinG hY9 hMo ?jG2 ?_
        case jG2 => (intro P9 hP9; k_steps)
        intro ta9 tk9
        dsimp only
        walk_at "to execs"
        walk_say "MINE"
        walk_at "s1"
        walk_at "s1"
        walk_at "to execs"
        walk_say "TOLD"
        rename (_ = 4 ∧ _ ∨ _ = 5 ∧ _) => hc1
        have hNI := nth_itemN (n := n9) hk1 hk2 hn1 hn2 hc1
        rename Fr _ _ _ _ => tF
        rename News _ _ _ _ => tN
        refine two_set (Str.ofString "told") tF tN ?tsub ?tcont
        case tsub =>
          (repeat (walk_at "s1"))
        case tcont =>
          intro hh9 tk9 tv9 F9 N9
          clear hNI tF tN
          walk_say "OTHER"
          walk_at "s1"
          walk_at "to execs"
          walk_say "THEIRS"
          walk_at "s1"
          walk_at "s1"
          walk_at "to execs"
          walk_say "CHK"
          rename (_ = 4 ∧ _ ≤ (_ + n9) % 7 + 1 + 28 ∨ _ = 5 ∧ _) => hc2
          have hNI2 := nth_item2N (n := n9) (y := y9) hk1 hk2 hn1 hn2 hc2
          rename Fr _ _ _ _ => tF
          rename News _ _ _ _ => tN
          refine one_pass tF tN ?csub ?ccont
          case csub =>
            (repeat (walk_at "s1"))
            walk_say "CSUBEND"
            done
          case ccont =>
            intro hh9 tk9 F9 N9
            clear tF tN
            walk_say "CAL"
            rename Fr _ _ _ _ => tF
            rename News _ _ _ _ => tN
            refine one_pass tF tN ?dsub ?dcont
            case dsub =>
              (repeat (walk_at "s1"))
              walk_say "DSUBA"
              rename (_ = Data.cell (some (Value.int (rulI y9) _))) => hcd9
              k_dflt (refine cal_src (c := (rulI y9 + 1) % 7) (f := (dN k9 + adG y9 k9 - 1) % 7 + 1) hcd9 rfl (by k_asm) (by k_asm) (by assumption) (by k_mem) ⟨by omega, by omega⟩ ⟨by omega, by omega⟩ f_ml (by omega) hc1 ?rturn ?rfin)
              case rturn =>
                intro g9 r9 o9 a9 I9 oI9 C9 oC9 D9 oD9 m9 h9 tk9 E9 own9 hrow hC9 hx9 F9 N9
                obtain ⟨l9, kk9, rfl, hlen9, hcells9⟩ := hrow
                obtain ⟨v9, hv9, hcA, hcB⟩ := hcells9 ((rulI y9 + 1) % 7).toNat (by omega)
                have hcc : ((((rulI y9 + 1) % 7).toNat : Nat) : Int) = (rulI y9 + 1) % 7 := by omega
                rw [hcc] at hcA hcB
                clear hcells9 hcc
                by_cases hin : (fwI y9 k9 + 1) % 7 ≤ a9 + (rulI y9 + 1) % 7 ∧ a9 + (rulI y9 + 1) % 7 < (fwI y9 k9 + 1) % 7 + mlenI y9 k9
                · obtain ⟨t9, rfl⟩ := hcB hin.1 hin.2
                  clear hcA hcB
                  (repeat (walk_at "s1"))
                  walk_say "ROWA"
                  done
                · have e9 : v9 = Value.none := hcA (by omega)
                  subst e9
                  clear hcA hcB
                  (repeat (walk_at "s1"))
                  walk_say "ROWB"
                  done
              case rfin =>
                intro D9 vs9 h9 tk9 hI9 F9 N9
                (try dsimp only)
                (repeat (walk_at "s1"))
                walk_say "RFIN"
                done
              walk_say "OTHERCASE"
              (repeat (walk_at "s1"))
              done
            case dcont =>
              intro hh9 tk9 F9 N9
              clear tF tN
              walk_say "TURNEND"
              walk_at "s1"
              k_dflt (refine turn_end (by k_asm) (by k_asm) (fun p hp => ?te1) (fun p hp => ?te2) (fun z hz hc => ?te3))
              case te1 =>
                simp only [List.mem_cons, List.not_mem_nil, or_false] at hp ⊢
                rcases hp with h | h
                · exact .inr (.inr (.inl h))
                · exact .inr (.inr (.inr (.inl h)))
              case te2 => exact (by repeat (first | exact hp | apply List.Mem.tail))
              case te3 =>
                have q := off_stored hc
                have q1 := q (Str.ofString "day") (by k_mem)
                have q2 := q (Str.ofString "first") (by k_mem)
                have q3 := q (Str.ofString "mine") (by k_mem)
                have q4 := q (Str.ofString "told") (by k_mem)
                have q5 := q (Str.ofString "other") (by k_mem)
                have q6 := q (Str.ofString "theirs") (by k_mem)
                simp only [q1, q2, q3, q4, q5, q6, hz, hc, if_false, Bool.false_eq_true]
              walk_say "TURNDONE"))
end

end Mine
set_option maxHeartbeats 4000000 in
theorem PySem.Challenge.cw_ak5009_01_holds : PySem.Challenge.rw_ak5009_01.Holds := by
  exact Mine.law1
