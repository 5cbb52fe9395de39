import PyProof.Rows.All
import Wide.All
import OpenK.AllK
import Wide.FinOn
import PyProof.IsiStr
import PyProof.DictWalks
import KE.KEqSeq
import PySem.Challenge.RW_ad5037_01
set_option Elab.async false
set_option rowWalk.seconds 0
set_option linter.all false
set_option linter.unusedVariables false
section
open PySem PySem.W PyProof.Rows
set_option maxRecDepth 100000
set_option maxHeartbeats 8000000
namespace Mine
open_top hd for PySem.Challenge.rw_ad5037_01
end Mine
end
section
open PySem PySem.W PyProof.Rows
namespace Mine
open PySem.Float64

theorem rep {j u : Nat} (hj : j < 2 ^ 53) (hu : 52 ≤ u) (hu2 : u ≤ 1900) : ∃ t, t < infMag ∧ V t = j * 2 ^ u := by
  have hi : infMag = 2047 * 2 ^ 52 := rfl
  by_cases h0 : j = 0
  · subst h0
    exact ⟨0, by rw [hi]; omega, by rw [V_zero]; simp⟩
  · have hl : j.log2 < 53 := (Nat.log2_lt h0).mpr hj
    have h1 : 2 ^ j.log2 ≤ j := Nat.log2_self_le h0
    have h2 : j < 2 ^ (j.log2 + 1) := Nat.lt_log2_self
    have e1 : (2 : Nat) ^ 52 = 2 ^ j.log2 * 2 ^ (52 - j.log2) := by rw [← Nat.pow_add]; congr 1; omega
    have e2 : (2 : Nat) ^ 53 = 2 ^ (j.log2 + 1) * 2 ^ (52 - j.log2) := by rw [← Nat.pow_add]; congr 1; omega
    have e3 : (2 : Nat) ^ u = 2 ^ (52 - j.log2) * 2 ^ (u - (52 - j.log2)) := by rw [← Nat.pow_add]; congr 1; omega
    have hp : 0 < 2 ^ (52 - j.log2) := Nat.two_pow_pos _
    have q1 : 2 ^ 52 ≤ j * 2 ^ (52 - j.log2) := by rw [e1]; exact Nat.mul_le_mul_right _ h1
    have q2 : j * 2 ^ (52 - j.log2) < 2 ^ 53 := by rw [e2]; exact Nat.mul_lt_mul_of_pos_right h2 hp
    refine ⟨(u - (52 - j.log2)) * 2 ^ 52 + j * 2 ^ (52 - j.log2), ?_, ?_⟩
    · rw [hi]
      have : (u - (52 - j.log2)) * 2 ^ 52 ≤ 1900 * 2 ^ 52 := Nat.mul_le_mul_right _ (by omega)
      omega
    · rw [V_at (Nat.le_of_lt q2) (.inl q1), Nat.mul_assoc, ← e3]

theorem over_not {j u D : Nat} (hj : j < 2 ^ 53) (hu2 : u ≤ 1900) (hD : 0 < D) : ¬ D * ((2 ^ 54 - 1) * 2 ^ 2045) ≤ 2 * (D * (j * 2 ^ u)) := by
  intro h
  have a1 : 2 ^ u ≤ 2 ^ 1900 := Nat.pow_le_pow_right (by decide) hu2
  have a2 : j * 2 ^ u ≤ 2 ^ 53 * 2 ^ 1900 := Nat.mul_le_mul (Nat.le_of_lt hj) a1
  have a3 : 2 * (2 ^ 53 * 2 ^ 1900) < (2 ^ 54 - 1) * 2 ^ 2045 := by decide +kernel
  have a4 : 2 * (D * (j * 2 ^ u)) = D * (2 * (j * 2 ^ u)) := by rw [← Nat.mul_assoc, Nat.mul_comm 2 D, Nat.mul_assoc]
  rw [a4] at h
  have a5 := Nat.le_of_mul_le_mul_left h hD
  exact absurd (Nat.lt_of_le_of_lt (Nat.mul_le_mul_left 2 a2) a3) (Nat.not_lt.mpr a5)

theorem right_exact {r : UInt64} {neg : Bool} {W D j u : Nat} (h : Right r neg W D) (hD : 0 < D) (hj : j < 2 ^ 53) (hu : 52 ≤ u) (hu2 : u ≤ 1900) (hW : W = D * (j * 2 ^ u)) :
    (∃ m e, decode r = .fin neg m e) ∧ val r = sgn neg (j * 2 ^ u) := by
  obtain ⟨t0, ht0, hv0⟩ := rep hj hu hu2
  obtain ⟨t, rfl, hle, hov, hn⟩ := h
  have hlt : t < infMag := by
    rcases Nat.lt_or_eq_of_le hle with h | h
    · exact h
    · exact absurd (hov.mp h) (by rw [hW]; exact over_not hj hu2 hD)
  have hd := (hn hlt t0).1
  rw [hv0, ← hW] at hd
  have e0 : dist W W = 0 := by unfold dist; omega
  rw [e0] at hd
  have e1 : W = D * V t := by unfold dist at hd; omega
  have e2 : V t = j * 2 ^ u := Nat.eq_of_mul_eq_mul_left hD (e1.symm.trans hW)
  obtain ⟨m, e, hd', _⟩ := decode_pack neg hlt
  exact ⟨⟨m, e, hd'⟩, by rw [val_pack neg hlt, e2]⟩

/-- `x` is a finite double whose value is `k / 2`. -/
def H (x : UInt64) (k : Int) : Prop := (∃ a m e, decode x = .fin a m e) ∧ val x = k * ((2 ^ 1073 : Nat) : Int)

theorem K_pos : (0 : Int) < ((2 ^ 1073 : Nat) : Int) := Int.ofNat_lt.mpr (Nat.two_pow_pos _)
theorem K_two : (2 : Int) ^ 1074 = 2 * ((2 ^ 1073 : Nat) : Int) := by
  have : (2 : Nat) ^ 1074 = 2 * 2 ^ 1073 := by decide +kernel
  have h2 : ((2 ^ 1074 : Nat) : Int) = ((2 * 2 ^ 1073 : Nat) : Int) := by rw [this]
  rw [Int.natCast_mul] at h2
  rw [← show ((2 ^ 1074 : Nat) : Int) = (2 : Int) ^ 1074 from by simp]
  exact h2
theorem N_two : (2 : Nat) ^ 1074 = 2 * 2 ^ 1073 := by decide +kernel

theorem mul_neg_iff (s : Int) {K : Int} (hK : 0 < K) : decide (s * K < 0) = decide (s < 0) := by
  apply decide_eq_decide.mpr
  constructor
  · intro h
    by_cases h2 : s < 0
    · exact h2
    · have := Int.mul_nonneg (show 0 ≤ s by omega) (Int.le_of_lt hK)
      omega
  · exact fun h => Int.mul_neg_of_neg_of_pos h hK
theorem sgn_abs (s : Int) (k : Nat) : sgn (decide (s < 0)) (s.natAbs * k) = s * (k : Int) := by
  rw [sgn_mul]
  congr 1
  unfold sgn
  by_cases h : s < 0
  · simp only [h, decide_true, if_true]; omega
  · simp only [h, decide_false, Bool.false_eq_true, if_false]; omega

theorem H_zero (b : Bool) : H (zero b) 0 := by
  obtain ⟨m, e, hd, hv⟩ := decode_pack b (t := 0) (by decide)
  refine ⟨⟨_, _, _, hd⟩, ?_⟩
  unfold zero
  rw [val_pack b (by decide), V_zero]
  unfold sgn
  cases b <;> simp
theorem H_of_right {r : UInt64} {s : Int} (h : Right r (decide (s * ((2 ^ 1073 : Nat) : Int) < 0)) ((s * ((2 ^ 1073 : Nat) : Int)).natAbs) 1) (h1 : -(2 ^ 53) < s) (h2 : s < 2 ^ 53) : H r s := by
  rw [mul_neg_iff s K_pos, Int.natAbs_mul, Int.natAbs_natCast] at h
  have := right_exact (j := s.natAbs) (u := 1073) h (by decide) (by omega) (by decide) (by decide) (by rw [Nat.one_mul])
  obtain ⟨⟨m, e, hd⟩, hv⟩ := this
  exact ⟨⟨_, m, e, hd⟩, by rw [hv, sgn_abs]⟩

theorem H.add {x y : UInt64} {p q : Int} (hx : H x p) (hy : H y q) (h1 : -(2 ^ 53) < p + q) (h2 : p + q < 2 ^ 53) : H (Float64.add x y) (p + q) := by
  obtain ⟨⟨a, m, e, dx⟩, vx⟩ := hx
  obtain ⟨⟨b, k, f, dy⟩, vy⟩ := hy
  obtain ⟨z1, z2⟩ := add_right dx dy
  rw [vx, vy, ← Int.add_mul] at z1 z2
  by_cases h0 : p + q = 0
  · rw [z1 (by rw [h0, Int.zero_mul]), h0]
    exact H_zero _
  · exact H_of_right (z2 (Int.mul_ne_zero h0 (Int.ne_of_gt K_pos))) h1 h2
theorem H.sub {x y : UInt64} {p q : Int} (hx : H x p) (hy : H y q) (h1 : -(2 ^ 53) < p - q) (h2 : p - q < 2 ^ 53) : H (Float64.sub x y) (p - q) := by
  obtain ⟨⟨a, m, e, dx⟩, vx⟩ := hx
  obtain ⟨⟨b, k, f, dy⟩, vy⟩ := hy
  obtain ⟨z1, z2⟩ := sub_right dx dy
  rw [vx, vy, ← Int.sub_mul] at z1 z2
  by_cases h0 : p - q = 0
  · rw [z1 (by rw [h0, Int.zero_mul]), h0]
    exact H_zero _
  · exact H_of_right (z2 (Int.mul_ne_zero h0 (Int.ne_of_gt K_pos))) h1 h2
theorem H.ofInt (n : Int) (h1 : -(2 ^ 52) < n) (h2 : n < 2 ^ 52) : H (Float64.ofInt n) (2 * n) := by
  have h := ofInt_right n
  have e1 : decide (n < 0) = decide (2 * n * ((2 ^ 1073 : Nat) : Int) < 0) := by
    rw [mul_neg_iff _ K_pos]; apply decide_eq_decide.mpr; omega
  have e2 : n.natAbs * 2 ^ 1074 = (2 * n * ((2 ^ 1073 : Nat) : Int)).natAbs := by
    rw [Int.natAbs_mul, Int.natAbs_natCast, N_two, ← Nat.mul_assoc]
    congr 1; omega
  rw [e1, e2] at h
  exact H_of_right h (by omega) (by omega)
theorem val_pos_sign {x : UInt64} {a : Bool} {m : Nat} {e : Int} (h : decode x = .fin a m e) (hv : 0 < val x) : a = false := by
  cases a with
  | false => rfl
  | true =>
    rw [val_eq h] at hv
    unfold sgn at hv
    simp only [if_true] at hv
    generalize m * 2 ^ (e + 1074).toNat = z at hv
    omega
theorem H.mul {x y : UInt64} {p q r : Int} (hx : H x p) (hy : H y q) (hp : 0 ≤ p) (hq : 0 ≤ q) (hr : p * q = 2 * r) (h2 : r < 2 ^ 53) : H (Float64.mul x y) r := by
  obtain ⟨⟨a, m, e, dx⟩, vx⟩ := hx
  obtain ⟨⟨b, k, f, dy⟩, vy⟩ := hy
  have h := mul_right dx dy
  have hr0 : 0 ≤ r := by have := Int.mul_nonneg hp hq; omega
  have hn : p.natAbs * q.natAbs = 2 * r.natAbs := by rw [← Int.natAbs_mul, hr, Int.natAbs_mul]; rfl
  have hW : (val x).natAbs * (val y).natAbs = 2 ^ 1074 * (r.natAbs * 2 ^ 1073) := by
    rw [vx, vy, Int.natAbs_mul, Int.natAbs_mul, Int.natAbs_natCast, N_two]
    generalize (2 : Nat) ^ 1073 = K
    calc p.natAbs * K * (q.natAbs * K) = p.natAbs * q.natAbs * (K * K) := by ac_rfl
      _ = 2 * K * (r.natAbs * K) := by rw [hn]; ac_rfl
  have := right_exact (j := r.natAbs) (u := 1073) h (Nat.two_pow_pos _) (by omega) (by decide) (by decide) hW
  obtain ⟨⟨m', e', hd⟩, hv⟩ := this
  refine ⟨⟨_, m', e', hd⟩, ?_⟩
  rw [hv]
  by_cases h0 : r = 0
  · subst h0
    have : sgn (a != b) ((0 : Int).natAbs * 2 ^ 1073) = 0 := by
      have : (0 : Int).natAbs * 2 ^ 1073 = 0 := by simp
      rw [this]; unfold sgn; cases (a != b) <;> rfl
    rw [this, Int.zero_mul]
  · have hp1 : 0 < p := by
      rcases Int.lt_or_eq_of_le hp with h | h
      · exact h
      · rw [← h, Int.zero_mul] at hr; omega
    have hq1 : 0 < q := by
      rcases Int.lt_or_eq_of_le hq with h | h
      · exact h
      · rw [← h, Int.mul_zero] at hr; omega
    have ha := val_pos_sign dx (by rw [vx]; exact Int.mul_pos hp1 K_pos)
    have hb := val_pos_sign dy (by rw [vy]; exact Int.mul_pos hq1 K_pos)
    subst ha; subst hb
    have := sgn_abs r (2 ^ 1073)
    rw [show decide (r < 0) = false from decide_eq_false (by omega)] at this
    exact this
end Mine
end
section
open PySem PySem.W PyProof.Rows
namespace Mine
open PySem.Float64
theorem ac_a (a b c d : Nat) : a * (b * c) * d = b * d * c * a := by ac_rfl
theorem ac_b (a b c d : Nat) : a * b * c * d = a * b * d * c := by ac_rfl
theorem ac_c (a b c : Nat) : a * b * c = a * c * b := by ac_rfl
theorem ac_d (a b c d : Nat) : a * b * (c * d) = d * b * (a * c) := by ac_rfl
theorem ac_e (p q k : Nat) : p * k * q = p * (q * k) := by ac_rfl

theorem H.ne {y : UInt64} {q : Int} {b : Bool} {k : Nat} {f : Int} (hy : H y q) (dy : decode y = .fin b k f) (h : q ≠ 0) : k ≠ 0 := by
  intro h0
  subst h0
  have := hy.2
  rw [val_eq dy] at this
  have e0 : sgn b (0 * 2 ^ (f + 1074).toNat) = 0 := by
    rw [Nat.zero_mul]; unfold sgn; cases b <;> rfl
  rw [e0] at this
  exact absurd this.symm (Int.mul_ne_zero h (Int.ne_of_gt K_pos))
theorem H.isZero {y : UInt64} {q : Int} (hy : H y q) (h : q ≠ 0) : ¬ isZero y = true := by
  obtain ⟨b, k, f, dy⟩ := hy.1
  have := hy.ne dy h
  intro hz
  unfold PySem.Float64.isZero at hz
  rw [dy] at hz
  cases k with
  | zero => exact this rfl
  | succ n => simp at hz

theorem ofBin_right (a : Bool) (M : Nat) (g : Int) (hg : -1074 ≤ g) : Right (ofBin a M g) a (M * 2 ^ (g + 1074).toNat) 1 := by
  unfold ofBin
  refine ofFrac_right (shift_pos _ _ _ (by decide)) ?_ (by decide)
  have := shift_one M g 1074 (by omega)
  rw [Nat.mul_one]
  exact this
theorem mod_mul_pow (a b k : Nat) (_hk : 0 < k) : (a % b) * k = (a * k) % (b * k) := by rw [Nat.mul_mod_mul_right]

theorem H.fmod {x y : UInt64} {p q : Int} (hx : H x p) (hy : H y q) (hp : 0 ≤ p) (hq : 0 < q) (hq2 : q < 2 ^ 53) : H (Float64.fmod x y) (p % q) := by
  obtain ⟨⟨a, m, e, dx⟩, vx⟩ := id hx
  obtain ⟨⟨b, k, f, dy⟩, vy⟩ := id hy
  have hk := hy.ne dy (by omega)
  have he := decode_ge dx
  have hf := decode_ge dy
  have hm : Float64.fmod x y = ofBin a ((m * 2 ^ (e - min e f).toNat) % (k * 2 ^ (f - min e f).toNat)) (min e f) := by
    unfold Float64.fmod
    rw [dx, dy]
    simp only
    rw [if_neg (by simpa using hk)]
    have s0 : ∀ n : Nat, (sgn false n).toNat = n := fun n => by unfold sgn; simp
    show ofBin a ((sgn false (m * 2 ^ (e - min e f).toNat)).toNat % (sgn false (k * 2 ^ (f - min e f).toNat)).toNat) (min e f) = _
    rw [s0, s0]
  have h := ofBin_right a ((m * 2 ^ (e - min e f).toNat) % (k * 2 ^ (f - min e f).toNat)) (min e f) (by omega)
  rw [← hm, mod_mul_pow _ _ _ (Nat.two_pow_pos _), Nat.mul_assoc, Nat.mul_assoc, ← Nat.pow_add, ← Nat.pow_add] at h
  have e1 : (e - min e f).toNat + (min e f + 1074).toNat = (e + 1074).toNat := by omega
  have e2 : (f - min e f).toNat + (min e f + 1074).toNat = (f + 1074).toNat := by omega
  rw [e1, e2, ← val_natAbs dx, ← val_natAbs dy, vx, vy, Int.natAbs_mul, Int.natAbs_mul, Int.natAbs_natCast, Nat.mul_mod_mul_right] at h
  have hn : p.natAbs % q.natAbs = (p % q).natAbs := by
    have := Int.natAbs_emod_of_nonneg hp q
    omega
  rw [hn] at h
  have b1 := Int.emod_nonneg p (show q ≠ 0 by omega)
  have b2 := Int.emod_lt_of_pos p hq
  have := right_exact (j := (p % q).natAbs) (u := 1073) h (by decide) (by omega) (by decide) (by decide) (by rw [Nat.one_mul])
  obtain ⟨⟨m', e', hd⟩, hv⟩ := this
  refine ⟨⟨_, m', e', hd⟩, ?_⟩
  rw [hv]
  by_cases h0 : p % q = 0
  · rw [h0]
    have : (0 : Int).natAbs * 2 ^ 1073 = 0 := by simp
    rw [this, Int.zero_mul]; unfold sgn; cases a <;> rfl
  · have hp1 : 0 < p := by
      rcases Int.lt_or_eq_of_le hp with h | h
      · exact h
      · rw [← h, Int.zero_emod] at h0; exact absurd rfl h0
    have ha := val_pos_sign dx (by rw [vx]; exact Int.mul_pos hp1 K_pos)
    subst ha
    have := sgn_abs (p % q) (2 ^ 1073)
    rw [show decide (p % q < 0) = false from decide_eq_false (by omega)] at this
    exact this

theorem copysign_zero (y : UInt64) : H (copysign (zero false) y) 0 := by
  have : copysign (zero false) y = zero (signBit y) := by
    unfold copysign
    have h1 : PySem.Float64.isNaN (zero false) = false := by decide +kernel
    have h2 : (zero false).toNat % 2 ^ 63 = 0 := by decide +kernel
    rw [h1, h2]
    rfl
  rw [this]
  exact H_zero _
theorem compare_K {p q : Int} : compare (p * ((2 ^ 1073 : Nat) : Int)) (q * ((2 ^ 1073 : Nat) : Int)) = compare p q := by
  have hK := K_pos
  generalize ((2 ^ 1073 : Nat) : Int) = K at hK
  rcases Int.lt_trichotomy p q with h | h | h
  · rw [Int.compare_eq_lt.mpr h, Int.compare_eq_lt.mpr (Int.mul_lt_mul_of_pos_right h hK)]
  · subst h; simp
  · rw [Int.compare_eq_gt.mpr h, Int.compare_eq_gt.mpr (Int.mul_lt_mul_of_pos_right h hK)]
theorem H.cmp {x y : UInt64} {p q : Int} (hx : H x p) (hy : H y q) : Float64.cmp x y = some (compare p q) := by
  obtain ⟨⟨a, m, e, dx⟩, vx⟩ := hx
  obtain ⟨⟨b, k, f, dy⟩, vy⟩ := hy
  rw [cmp_right dx dy, vx, vy, compare_K]
theorem H.cmpInt {x : UInt64} {p : Int} (hx : H x p) (n : Int) : Float64.cmpInt x n = some (compare p (2 * n)) := by
  obtain ⟨⟨a, m, e, dx⟩, vx⟩ := hx
  rw [cmpInt_right dx, vx, K_two, ← Int.mul_assoc, Int.mul_comm n 2, compare_K]
theorem cmp_lt (p q : Int) : (some (compare p q) == some Ordering.lt) = decide (p < q) := by
  rcases Int.lt_trichotomy p q with h | h | h
  · rw [Int.compare_eq_lt.mpr h, decide_eq_true h]; rfl
  · subst h; simp
  · rw [Int.compare_eq_gt.mpr h, decide_eq_false (by omega)]; rfl
theorem cmp_eq (p q : Int) : (some (compare p q) == some Ordering.eq) = decide (p = q) := by
  rcases Int.lt_trichotomy p q with h | h | h
  · rw [Int.compare_eq_lt.mpr h, decide_eq_false (by omega)]; rfl
  · subst h; simp
  · rw [Int.compare_eq_gt.mpr h, decide_eq_false (by omega)]; rfl

theorem H.mod {x y : UInt64} {p q : Int} (hx : H x p) (hy : H y q) (hp : 0 ≤ p) (hq : 0 < q) (hq2 : q < 2 ^ 53) : H (Float64.divmod x y).2 (p % q) := by
  have hm := hx.fmod hy hp hq hq2
  have b1 := Int.emod_nonneg p (show q ≠ 0 by omega)
  have hz := H_zero false
  by_cases h0 : PySem.Float64.isZero (Float64.fmod x y) = true
  · have e0 : p % q = 0 := by
      by_cases h : p % q = 0
      · exact h
      · exact absurd h0 (hm.isZero h)
    have e1 : (Float64.divmod x y).2 = copysign (zero false) y := by
      unfold Float64.divmod
      simp only [h0, if_true]
    rw [e1, e0]
    exact copysign_zero y
  · have e1 : (Float64.divmod x y).2 = Float64.fmod x y := by
      have l1 : lt y (zero false) = false := by unfold lt; rw [hy.cmp hz, cmp_lt]; exact decide_eq_false (by omega)
      have l2 : lt (Float64.fmod x y) (zero false) = false := by unfold lt; rw [hm.cmp hz, cmp_lt]; exact decide_eq_false (by omega)
      unfold Float64.divmod
      simp only [h0, l1, l2]
      simp
    rw [e1]
    exact hm

/-- `z` is a finite double, not below 0, whose whole part is that of `a / b`. -/
def R (z : UInt64) (a b : Int) : Prop := (∃ s m e, decode z = .fin s m e) ∧ 0 ≤ val z ∧ val z / 2 ^ 1074 = a / b

theorem right_floor {r : UInt64} {neg : Bool} {W D a b : Nat} (h : Right r neg W D) (hD : 0 < D) (hb : 0 < b) (hW : W * b = a * 2 ^ 1074 * D) (hs : a + b ≤ 2 ^ 51) :
    ∃ t, r = pack neg t ∧ t < infMag ∧ V t / 2 ^ 1074 = a / b := by
  have hn1 : a / b * b ≤ a := Nat.div_mul_le_self a b
  have hn2 : a < (a / b + 1) * b := by
    have := Nat.lt_div_mul_add hb (a := a)
    rw [Nat.add_mul, Nat.one_mul]; exact this
  have hn3 : a / b ≤ a := Nat.div_le_self a b
  generalize a / b = n at *
  obtain ⟨tn, htn, hvn⟩ := rep (j := n) (u := 1074) (by omega) (by decide) (by decide)
  have hl : b.log2 < 52 := (Nat.log2_lt (by omega)).mpr (by omega)
  have hb1 : b < 2 ^ (b.log2 + 1) := Nat.lt_log2_self
  have hb2 : 2 ^ (b.log2 + 1) ≤ 2 * b := by
    rw [Nat.pow_succ, Nat.mul_comm]; exact Nat.mul_le_mul_left 2 (Nat.log2_self_le (by omega))
  generalize hj : b.log2 + 1 = j at *
  have hj52 : j ≤ 52 := by omega
  have hP : (2 : Nat) ^ 1074 = 2 ^ j * 2 ^ (1074 - j) := by rw [← Nat.pow_add]; congr 1; omega
  have hpj : 0 < 2 ^ j := Nat.two_pow_pos _
  have hnb : (n + 1) * 2 ^ j ≤ 2 * (a + b) := by
    calc (n + 1) * 2 ^ j ≤ (n + 1) * (2 * b) := Nat.mul_le_mul_left _ hb2
      _ = 2 * (n * b + b) := by rw [Nat.add_mul, Nat.one_mul, Nat.mul_left_comm, ← Nat.mul_add]
      _ ≤ 2 * (a + b) := by omega
  have hc1 : 1 ≤ (n + 1) * 2 ^ j := Nat.mul_pos (Nat.succ_pos n) hpj
  obtain ⟨tc, htc, hvc⟩ := rep (j := (n + 1) * 2 ^ j - 1) (u := 1074 - j) (by omega) (by omega) (by omega)
  have hpu : 0 < 2 ^ (1074 - j) := Nat.two_pow_pos _
  have hlow : D * V tn ≤ W := by
    refine Nat.le_of_mul_le_mul_right (c := b) ?_ hb
    rw [hW, hvn]
    calc D * (n * 2 ^ 1074) * b = n * b * 2 ^ 1074 * D := ac_a _ _ _ _
      _ ≤ a * 2 ^ 1074 * D := Nat.mul_le_mul_right _ (Nat.mul_le_mul_right _ hn1)
  have hup : W ≤ D * V tc := by
    refine Nat.le_of_mul_le_mul_right (c := b) ?_ hb
    rw [hW, hvc, hP]
    have hk : a * 2 ^ j ≤ ((n + 1) * 2 ^ j - 1) * b := by
      have h1 : a + 1 ≤ (n + 1) * b := hn2
      have h2 := Nat.mul_le_mul_right (2 ^ j) h1
      rw [Nat.add_mul, Nat.one_mul] at h2
      have h3 : (n + 1) * b * 2 ^ j = (n + 1) * 2 ^ j * b := by ac_rfl
      rw [Nat.mul_sub_right_distrib, Nat.one_mul]
      omega
    calc a * (2 ^ j * 2 ^ (1074 - j)) * D = a * 2 ^ j * (2 ^ (1074 - j) * D) := by ac_rfl
      _ ≤ ((n + 1) * 2 ^ j - 1) * b * (2 ^ (1074 - j) * D) := Nat.mul_le_mul_right _ hk
      _ = D * (((n + 1) * 2 ^ j - 1) * 2 ^ (1074 - j)) * b := by ac_rfl
  obtain ⟨t, rfl, hle, hov, hnear⟩ := h
  have hlt : t < infMag := by
    rcases Nat.lt_or_eq_of_le hle with h | h
    · exact h
    · refine absurd (Nat.le_trans (hov.mp h) (Nat.mul_le_mul_left 2 hup)) ?_
      rw [hvc]
      exact over_not (by omega) (by omega) hD
  refine ⟨t, rfl, hlt, ?_⟩
  have h1 := (hnear hlt tn).1
  have h2 := (hnear hlt tc).1
  have v1 : V tn ≤ V t := by
    refine Nat.not_lt.mp fun hc => ?_
    have := Nat.mul_lt_mul_of_pos_left hc hD
    unfold dist at h1
    omega
  have v2 : V t ≤ V tc := by
    refine Nat.not_lt.mp fun hc => ?_
    have := Nat.mul_lt_mul_of_pos_left hc hD
    unfold dist at h2
    omega
  rw [hvn] at v1
  refine Nat.div_eq_of_lt_le v1 (Nat.lt_of_le_of_lt v2 ?_)
  rw [hvc, hP, ← Nat.mul_assoc]
  exact Nat.mul_lt_mul_of_pos_right (by omega) hpu

theorem val_pack_nonneg {t : Nat} (h : t < infMag) : val (pack false t) = (V t : Int) := by
  rw [val_pack false h]; rfl
theorem R_of_right {r : UInt64} {neg : Bool} {W D a b : Nat} (h : Right r neg W D) (hn : neg = false) (hD : 0 < D) (hb : 0 < b) (hW : W * b = a * 2 ^ 1074 * D) (hs : a + b ≤ 2 ^ 51) : R r a b := by
  subst hn
  obtain ⟨t, rfl, hlt, hv⟩ := right_floor h hD hb hW hs
  obtain ⟨m, e, hd, _⟩ := decode_pack false hlt
  refine ⟨⟨_, m, e, hd⟩, ?_, ?_⟩
  · rw [val_pack_nonneg hlt]; exact Int.natCast_nonneg _
  · rw [val_pack_nonneg hlt, ← Int.natCast_ediv, ← hv, Int.natCast_ediv, Int.natCast_pow]; rfl

theorem R_ofFrac {a b : Int} (ha : 0 ≤ a) (hb : 0 < b) (hs : a + b ≤ 2 ^ 51) : R (ofFrac (decide (a < 0) != decide (b < 0)) a.natAbs b.natAbs) a b := by
  have h := ofFrac_right (neg := decide (a < 0) != decide (b < 0)) (n := a.natAbs) (d := b.natAbs) (W := a.natAbs * 2 ^ 1074) (D := b.natAbs) (by omega) rfl (by omega)
  have hn : (decide (a < 0) != decide (b < 0)) = false := by
    rw [decide_eq_false (by omega), decide_eq_false (by omega)]; rfl
  have := R_of_right (a := a.natAbs) (b := b.natAbs) h hn (by omega) (by omega) rfl (by omega)
  rw [Int.natAbs_of_nonneg ha, Int.natAbs_of_nonneg (Int.le_of_lt hb)] at this
  exact this
theorem H.sign {x : UInt64} {p : Int} {a : Bool} {m : Nat} {e : Int} (hx : H x p) (dx : decode x = .fin a m e) (hp : 0 < p) : a = false :=
  val_pos_sign dx (by rw [hx.2]; exact Int.mul_pos hp K_pos)

theorem right_zero {r : UInt64} {neg : Bool} {D : Nat} (h : Right r neg 0 D) (hD : 0 < D) : (∃ m e, decode r = .fin neg m e) ∧ val r = 0 := by
  have := right_exact (j := 0) (u := 1000) h hD (by decide) (by decide) (by decide) (by simp)
  refine ⟨this.1, ?_⟩
  rw [this.2]
  have : 0 * 2 ^ 1000 = 0 := Nat.zero_mul _
  rw [this]; unfold sgn; cases neg <;> rfl
theorem R_zero_of {r : UInt64} {neg : Bool} {D : Nat} {b : Int} (h : Right r neg 0 D) (hD : 0 < D) : R r 0 b := by
  obtain ⟨⟨m, e, hd⟩, hv⟩ := right_zero h hD
  exact ⟨⟨_, m, e, hd⟩, by rw [hv]; exact Int.le_refl _, by rw [hv, Int.zero_ediv, Int.zero_ediv]⟩

/-- The quotient of a double of value `p / 2` by one whose value is `c / d` of the unit. -/
theorem R_div {x y : UInt64} {p a b : Int} {v : Nat} (hx : H x p) (hp : 0 ≤ p) (dy : ∃ s m e, decode y = .fin s m e) (vy : val y = (v : Int)) (hv : 0 < v) (ha : 0 ≤ a) (hb : 0 < b) (hs : a + b ≤ 2 ^ 51)
    (hW : p.natAbs * 2 ^ 1073 * b.natAbs = a.natAbs * v) (h0 : p = 0 → a = 0) : R (Float64.div x y) a b := by
  obtain ⟨s, k, f, dy⟩ := dy
  obtain ⟨⟨sx, m, e, dx⟩, vx⟩ := id hx
  have hk : k ≠ 0 := by
    intro h0
    subst h0
    rw [val_eq dy] at vy
    have e0 : sgn s (0 * 2 ^ (f + 1074).toNat) = 0 := by
      rw [Nat.zero_mul]; unfold sgn; cases s <;> rfl
    rw [e0] at vy
    omega
  have hs0 : s = false := val_pos_sign dy (by rw [vy]; omega)
  have h := div_right dx dy hk
  rw [vx, vy, Int.natAbs_mul, Int.natAbs_natCast, Int.natAbs_natCast] at h
  by_cases hp0 : p = 0
  · subst hp0
    have e0 : (0 : Int).natAbs * 2 ^ 1073 * 2 ^ 1074 = 0 := by simp
    rw [e0] at h
    rw [h0 rfl]
    exact R_zero_of h hv
  · have hsx := hx.sign dx (show 0 < p by omega)
    subst hsx; subst hs0
    have := R_of_right (a := a.natAbs) (b := b.natAbs) h rfl hv (by omega) (by
      calc p.natAbs * 2 ^ 1073 * 2 ^ 1074 * b.natAbs = p.natAbs * 2 ^ 1073 * b.natAbs * 2 ^ 1074 := ac_b _ _ _ _
        _ = a.natAbs * v * 2 ^ 1074 := by rw [hW]
        _ = a.natAbs * 2 ^ 1074 * v := ac_c _ _ _) (by omega)
    rw [Int.natAbs_of_nonneg ha, Int.natAbs_of_nonneg (Int.le_of_lt hb)] at this
    exact this
theorem H.div {x y : UInt64} {p q : Int} (hx : H x p) (hy : H y q) (hp : 0 ≤ p) (hq : 0 < q) (hs : p + q ≤ 2 ^ 51) : R (Float64.div x y) p q := by
  refine R_div (v := q.natAbs * 2 ^ 1073) hx hp hy.1 ?_ (Nat.mul_pos (by omega) (Nat.two_pow_pos _)) hp hq hs (ac_e _ _ _) id
  rw [hy.2, Int.natCast_mul, Int.natAbs_of_nonneg (Int.le_of_lt hq)]
/-- by 365.25 -/
theorem H.div1461 {x y : UInt64} {p : Int} (hx : H x p) (dy : ∃ s m e, decode y = .fin s m e) (vy : val y = ((1461 * 2 ^ 1072 : Nat) : Int)) (hp : 0 ≤ p) (hs : p ≤ 2 ^ 49) : R (Float64.div x y) (2 * p) 1461 := by
  refine R_div (v := 1461 * 2 ^ 1072) hx hp dy vy (Nat.mul_pos (by decide) (Nat.two_pow_pos _)) (by omega) (by decide) (by omega) ?_ (by omega)
  have h1 : (2 * p).natAbs = 2 * p.natAbs := by omega
  have h2 : (2 : Nat) ^ 1073 = 2 * 2 ^ 1072 := by decide +kernel
  rw [h1, h2]
  show p.natAbs * (2 * 2 ^ 1072) * 1461 = _
  generalize (2 : Nat) ^ 1072 = K
  generalize p.natAbs = P
  rw [Nat.mul_comm 1461 K, ← Nat.mul_assoc, ← Nat.mul_assoc, Nat.mul_comm P 2]

theorem floorOf_val {z : UInt64} {s : Bool} {m : Nat} {e : Int} (h : decode z = .fin s m e) : floorOf s m e = val z / 2 ^ 1074 := by
  have he := decode_ge h
  rw [val_eq h, sgn_mul]
  have hp : ∀ n : Nat, ((2 ^ n : Nat) : Int) = (2 : Int) ^ n := fun n => by simp
  have hpos : ∀ n : Nat, (0 : Int) < (2 : Int) ^ n := fun n => by rw [← hp]; exact Int.ofNat_lt.mpr (Nat.two_pow_pos _)
  unfold floorOf
  split
  · rename_i h0
    have e1 : (e + 1074).toNat = e.toNat + 1074 := by omega
    rw [e1, hp, Int.pow_add, ← Int.mul_assoc, Int.mul_ediv_cancel _ (Int.ne_of_gt (hpos 1074))]
  · rename_i h0
    rw [Int.fdiv_eq_ediv_of_nonneg _ (Int.le_of_lt (hpos _)), hp]
    have e1 : (1074 : Nat) = (-e).toNat + (e + 1074).toNat := by omega
    have e2 : (2 : Int) ^ 1074 = 2 ^ (-e).toNat * 2 ^ (e + 1074).toNat := by rw [← Int.pow_add, ← e1]
    rw [e2, Int.mul_ediv_mul_of_pos_left _ _ (hpos _)]
theorem truncOf_val {z : UInt64} {s : Bool} {m : Nat} {e : Int} (h : decode z = .fin s m e) (h0 : 0 ≤ val z) : truncOf s m e = val z / 2 ^ 1074 := by
  cases s with
  | false => exact floorOf_val h
  | true =>
    have hm : m * 2 ^ (e + 1074).toNat = 0 := by
      have := val_eq h
      unfold sgn at this
      simp only [if_true] at this
      rw [this] at h0
      generalize m * 2 ^ (e + 1074).toNat = z at *
      omega
    have hm0 : m = 0 := by
      rcases Nat.mul_eq_zero.mp hm with h | h
      · exact h
      · exact absurd h (Nat.ne_of_gt (Nat.two_pow_pos _))
    subst hm0
    have hv : val z = 0 := by rw [val_eq h, hm]; rfl
    rw [hv, Int.zero_ediv]
    unfold truncOf ceilOf floorOf sgn
    simp
theorem H.whole {z : UInt64} {k : Int} (h : H z k) : val z / 2 ^ 1074 = k / 2 := by
  rw [h.2, K_two, Int.mul_ediv_mul_of_pos_left _ _ K_pos]
theorem H.nonneg {z : UInt64} {k : Int} (h : H z k) (hk : 0 ≤ k) : 0 ≤ val z := by rw [h.2]; exact Int.mul_nonneg hk (Int.le_of_lt K_pos)

theorem H.floor {z : UInt64} {k : Int} (h : H z k) : Flt.toInt floorOf z = k / 2 := by
  obtain ⟨a, m, e, hd⟩ := h.1
  rw [Flt.toInt_fin hd, floorOf_val hd, h.whole]
theorem R.floor {z : UInt64} {a b : Int} (h : R z a b) : Flt.toInt floorOf z = a / b := by
  obtain ⟨s, m, e, hd⟩ := h.1
  rw [Flt.toInt_fin hd, floorOf_val hd, h.2.2]
theorem H.trunc {z : UInt64} {k : Int} (h : H z k) (hk : 0 ≤ k) : Flt.toInt truncOf z = k / 2 := by
  obtain ⟨a, m, e, hd⟩ := h.1
  rw [Flt.toInt_fin hd, truncOf_val hd (h.nonneg hk), h.whole]
theorem R.trunc {z : UInt64} {a b : Int} (h : R z a b) : Flt.toInt truncOf z = a / b := by
  obtain ⟨s, m, e, hd⟩ := h.1
  rw [Flt.toInt_fin hd, truncOf_val hd h.2.1, h.2.2]
theorem H.fin {z : UInt64} {k : Int} (h : H z k) : isFinite z = true := by
  obtain ⟨a, m, e, hd⟩ := h.1
  unfold isFinite; rw [hd]
theorem R.fin {z : UInt64} {a b : Int} (h : R z a b) : isFinite z = true := by
  obtain ⟨s, m, e, hd⟩ := h.1
  unfold isFinite; rw [hd]
theorem not_over {n : Int} (h1 : -(2 ^ 60) < n) (h2 : n < 2 ^ 60) : ¬ Flt.Over n := by
  intro h
  unfold Flt.Over at h
  have : (2 : Nat) ^ 60 < 2 ^ 1024 - 2 ^ 970 := by decide +kernel
  have h3 := Nat.lt_of_lt_of_le this h
  omega
/-- a written double, by evaluation -/
theorem H_lit {x : UInt64} {k : Int} {s : Bool} {m : Nat} {e : Int} (hd : decode x = .fin s m e) (h : sgn s (m * 2 ^ (e + 1074).toNat) = k * ((2 ^ 1073 : Nat) : Int)) : H x k := ⟨⟨_, _, _, hd⟩, by rw [val_eq hd, h]⟩
end Mine
end
section
open PySem PySem.W PyProof.Rows
namespace Mine
section
variable {prog : Program} {w : World} {A : Around} {E : Value → Shared → Prop} {s : Shared} {t u : Tok} {Q : Value → Shared → Prop} {x y : UInt64} {p q : Int} {a b n : Int}

abbrev QH (Q : Value → Shared → Prop) (s : Shared) (k : Int) : Prop := ∀ z, H z k → Q (.float z s.toks) { s with toks := s.toks + 1 }
abbrev QR (Q : Value → Shared → Prop) (s : Shared) (a b : Int) : Prop := ∀ z, R z a b → Q (.float z s.toks) { s with toks := s.toks + 1 }

theorem r_add_ff (hx : H x p) (hy : H y q) (h1 : -9007199254740992 < p + q) (h2 : p + q < 9007199254740992) (h : QH Q s (p + q)) : wpAny (model prog w) A (binaryOp .Add (.float x t) (.float y u)) Q E s :=
  AutoFloatOps.add_0 (h _ (hx.add hy h1 h2))
theorem r_sub_ff (hx : H x p) (hy : H y q) (h1 : -9007199254740992 < p - q) (h2 : p - q < 9007199254740992) (h : QH Q s (p - q)) : wpAny (model prog w) A (binaryOp .Sub (.float x t) (.float y u)) Q E s :=
  AutoFloatOps.sub_0 (h _ (hx.sub hy h1 h2))
theorem r_add_fi (hx : H x p) (h3 : -4503599627370496 < n) (h4 : n < 4503599627370496) (h1 : -9007199254740992 < p + 2 * n) (h2 : p + 2 * n < 9007199254740992) (h : QH Q s (p + 2 * n)) : wpAny (model prog w) A (binaryOp .Add (.float x t) (.int n u)) Q E s :=
  AutoFloatOps.add_fi_1 (Flt.fin_of_fits (not_over (by omega) (by omega))) (h _ (hx.add (H.ofInt n h3 h4) h1 h2))
theorem r_add_if (hx : H x p) (h3 : -4503599627370496 < n) (h4 : n < 4503599627370496) (h1 : -9007199254740992 < 2 * n + p) (h2 : 2 * n + p < 9007199254740992) (h : QH Q s (2 * n + p)) : wpAny (model prog w) A (binaryOp .Add (.int n u) (.float x t)) Q E s :=
  AutoFloatOps.add_if_1 (Flt.fin_of_fits (not_over (by omega) (by omega))) (h _ ((H.ofInt n h3 h4).add hx h1 h2))
theorem r_sub_fi (hx : H x p) (h3 : -4503599627370496 < n) (h4 : n < 4503599627370496) (h1 : -9007199254740992 < p - 2 * n) (h2 : p - 2 * n < 9007199254740992) (h : QH Q s (p - 2 * n)) : wpAny (model prog w) A (binaryOp .Sub (.float x t) (.int n u)) Q E s :=
  AutoFloatOps.sub_fi_1 (Flt.fin_of_fits (not_over (by omega) (by omega))) (h _ (hx.sub (H.ofInt n h3 h4) h1 h2))
theorem r_mul_fi (hx : H x p) (hp : 0 ≤ p) (h3 : 0 ≤ n) (h4 : n < 4503599627370496) (h2 : p * n < 9007199254740992) (h : QH Q s (p * n)) : wpAny (model prog w) A (binaryOp .Mult (.float x t) (.int n u)) Q E s :=
  AutoFloatOps.mul_fi_1 (Flt.fin_of_fits (not_over (by omega) (by omega))) (h _ (hx.mul (H.ofInt n (by omega) h4) hp (by omega) (by rw [← Int.mul_assoc, Int.mul_comm p 2, Int.mul_assoc]) h2))
theorem r_mul_if (hx : H x p) (hp : 0 ≤ p) (h3 : 0 ≤ n) (h4 : n < 4503599627370496) (h2 : n * p < 9007199254740992) (h : QH Q s (n * p)) : wpAny (model prog w) A (binaryOp .Mult (.int n u) (.float x t)) Q E s :=
  AutoFloatOps.mul_if_1 (Flt.fin_of_fits (not_over (by omega) (by omega))) (h _ ((H.ofInt n (by omega) h4).mul hx (by omega) hp (by rw [Int.mul_assoc]) h2))
theorem r_mod_ff (hx : H x p) (hy : H y q) (hp : 0 ≤ p) (hq : 0 < q) (h2 : q < 9007199254740992) (h : QH Q s (p % q)) : wpAny (model prog w) A (binaryOp .Mod (.float x t) (.float y u)) Q E s :=
  AutoFloatOps.mod_1 (hy.isZero (by omega)) (h _ (hx.mod hy hp hq h2))
theorem r_mod_fi (hx : H x p) (hp : 0 ≤ p) (hq : 0 < n) (h2 : n < 4503599627370496) (h : QH Q s (p % (2 * n))) : wpAny (model prog w) A (binaryOp .Mod (.float x t) (.int n u)) Q E s :=
  AutoFloatOps.mod_fi_2 (Flt.fin_of_fits (not_over (by omega) (by omega))) ((H.ofInt n (by omega) h2).isZero (by omega)) (h _ (hx.mod (H.ofInt n (by omega) h2) hp (by omega) (by omega)))
theorem r_div_ff (hx : H x p) (hy : H y q) (hp : 0 ≤ p) (hq : 0 < q) (hs : p + q ≤ 2251799813685248) (h : QR Q s p q) : wpAny (model prog w) A (binaryOp .Div (.float x t) (.float y u)) Q E s :=
  AutoFloatOps.truediv_1 (hy.isZero (by omega)) (h _ (hx.div hy hp hq hs))
theorem r_div_fi (hx : H x p) (hp : 0 ≤ p) (hq : 0 < n) (hs : p + 2 * n ≤ 2251799813685248) (h : QR Q s p (2 * n)) : wpAny (model prog w) A (binaryOp .Div (.float x t) (.int n u)) Q E s :=
  AutoFloatOps.truediv_fi_2 (Flt.fin_of_fits (not_over (by omega) (by omega))) ((H.ofInt n (by omega) (by omega)).isZero (by omega)) (h _ (hx.div (H.ofInt n (by omega) (by omega)) hp (by omega) hs))
theorem r_div_if (hx : H x p) (hp : 0 < p) (hq : 0 ≤ n) (hs : 2 * n + p ≤ 2251799813685248) (h : QR Q s (2 * n) p) : wpAny (model prog w) A (binaryOp .Div (.int n u) (.float x t)) Q E s :=
  AutoFloatOps.truediv_if_2 (Flt.fin_of_fits (not_over (by omega) (by omega))) (hx.isZero (by omega)) (h _ ((H.ofInt n (by omega) (by omega)).div hx (by omega) hp hs))
theorem r_div_ii (ha : 0 ≤ a) (hb : 0 < b) (hs : a + b ≤ 2251799813685248) (h : QR Q s a b) : wpAny (model prog w) A (binaryOp .Div (.int a t) (.int b u)) Q E s :=
  AutoIntOps.truediv_2 (by have : b ≠ 0 := by omega
                           simpa using this) (by
    have := (R_ofFrac ha hb hs).fin
    intro hc
    rw [Flt.not_finite_of_inf hc] at this
    cases this) (h _ (R_ofFrac ha hb hs))
/-- 365.25 -/
theorem lit1461 : (∃ s m e, Float64.decode 4645133162144333824 = .fin s m e) ∧ Float64.val 4645133162144333824 = ((1461 * 2 ^ 1072 : Nat) : Int) := by
  have hd : Float64.decode 4645133162144333824 = .fin false 6425545952722944 (-44) := by kernel_rfl
  refine ⟨⟨_, _, _, hd⟩, ?_⟩
  rw [Float64.val_eq hd]
  have h : 6425545952722944 * 2 ^ (-44 + 1074 : Int).toNat = 1461 * 2 ^ 1072 := by decide +kernel
  rw [h]
  rfl
theorem r_div_1461 (hx : H x p) (hp : 0 ≤ p) (hs : p ≤ 562949953421312) (h : QR Q s (2 * p) 1461) : wpAny (model prog w) A (binaryOp .Div (.float x t) (.float 4645133162144333824 u)) Q E s :=
  AutoFloatOps.truediv_1 (by decide +kernel) (h _ (hx.div1461 lit1461.1 lit1461.2 hp hs))

theorem r_lt_fi (hx : H x p) (h : Q (.bool (decide (p < 2 * n))) s) : wpAny (model prog w) A (compareOp .Lt (.float x t) (.int n u)) Q E s :=
  lt_fi (by rw [hx.cmpInt, cmp_lt]; exact h)
theorem r_eq_fi (hx : H x p) (h : Q (.bool (decide (p = 2 * n))) s) : wpAny (model prog w) A (compareOp .Eq (.float x t) (.int n u)) Q E s :=
  eq_fi (by rw [hx.cmpInt, cmp_eq]; exact h)
theorem r_eq_if (hx : H x p) (h : Q (.bool (decide (p = 2 * n))) s) : wpAny (model prog w) A (compareOp .Eq (.int n u) (.float x t)) Q E s :=
  eq_if (by rw [hx.cmpInt, cmp_eq]; exact h)
theorem r_lt_ff (hx : H x p) (hy : H y q) (h : Q (.bool (decide (p < q))) s) : wpAny (model prog w) A (compareOp .Lt (.float x t) (.float y u)) Q E s :=
  AutoFloatOps.lt_0 (by rw [hx.cmp hy, cmp_lt]; exact h)
theorem r_eq_ff (hx : H x p) (hy : H y q) (h : Q (.bool (decide (p = q))) s) : wpAny (model prog w) A (compareOp .Eq (.float x t) (.float y u)) Q E s :=
  AutoFloatOps.eq_0 (by rw [hx.cmp hy, cmp_eq]; exact h)
theorem r_le_ff (hx : H x p) (hy : H y q) (h : Q (.bool (decide (p ≤ q))) s) : wpAny (model prog w) A (compareOp .LtE (.float x t) (.float y u)) Q E s :=
  AutoFloatOps.le_0 (by
    rw [hx.cmp hy, cmp_eq, cmp_lt]
    have e : (decide (p < q) || decide (p = q)) = decide (p ≤ q) := by
      rw [← Bool.decide_or]; apply decide_eq_decide.mpr; omega
    rw [e]; exact h)

theorem r_floor_H (hx : H x p) (h : Q (.int (p / 2) s.toks) { s with toks := s.toks + 1 }) (hA : A.handled = none) : wpAny (model prog w) A (call (.builtin "math.floor") [.float x t]) Q E s :=
  Flt.call_floor_float hA (fun c => absurd hx.fin (by rw [Flt.not_finite_of_nan c]; decide)) (fun c => absurd hx.fin (by rw [Flt.not_finite_of_inf c]; decide)) (fun _ => by rw [hx.floor]; exact h)
theorem r_floor_R (hx : R x a b) (h : Q (.int (a / b) s.toks) { s with toks := s.toks + 1 }) (hA : A.handled = none) : wpAny (model prog w) A (call (.builtin "math.floor") [.float x t]) Q E s :=
  Flt.call_floor_float hA (fun c => absurd hx.fin (by rw [Flt.not_finite_of_nan c]; decide)) (fun c => absurd hx.fin (by rw [Flt.not_finite_of_inf c]; decide)) (fun _ => by rw [hx.floor]; exact h)
theorem r_trunc_H (hx : H x p) (hp : 0 ≤ p) (h : Q (.int (p / 2) s.toks) { s with toks := s.toks + 1 }) (hA : A.handled = none) : wpAny (model prog w) A (call (.builtin "math.trunc") [.float x t]) Q E s :=
  Flt.call_trunc_float hA (fun c => absurd hx.fin (by rw [Flt.not_finite_of_nan c]; decide)) (fun c => absurd hx.fin (by rw [Flt.not_finite_of_inf c]; decide)) (fun _ => by rw [hx.trunc hp]; exact h)
theorem r_trunc_R (hx : R x a b) (h : Q (.int (a / b) s.toks) { s with toks := s.toks + 1 }) (hA : A.handled = none) : wpAny (model prog w) A (call (.builtin "math.trunc") [.float x t]) Q E s :=
  Flt.call_trunc_float hA (fun c => absurd hx.fin (by rw [Flt.not_finite_of_nan c]; decide)) (fun c => absurd hx.fin (by rw [Flt.not_finite_of_inf c]; decide)) (fun _ => by rw [hx.trunc]; exact h)
theorem r_int_H (hx : H x p) (hp : 0 ≤ p) (h : Q (.int (p / 2) s.toks) { s with toks := s.toks + 1 }) : wpAny (model prog w) A (call (.type "int") [.float x t]) Q E s := by
  obtain ⟨sg, m, e, hd⟩ := hx.1
  refine call_int_float hd ?_
  have := hx.trunc hp
  rw [Flt.toInt_fin hd] at this
  rw [this]; exact h

theorem r_mod_ii (hb : 0 < b) (h : Q (.int (a % b) s.toks) { s with toks := s.toks + 1 }) : wpAny (model prog w) A (binaryOp .Mod (.int a t) (.int b u)) Q E s :=
  AutoIntOps.mod_1 (by have : b ≠ 0 := by omega
                       simpa using this) (by rw [Int.fmod_eq_emod_of_nonneg _ (Int.le_of_lt hb)]; exact h)
theorem r_fdiv_ii (hb : 0 < b) (hb2 : b < 1073741824) (h : Q (.int (a / b) s.toks) { s with toks := s.toks + 1 }) : wpAny (model prog w) A (binaryOp .FloorDiv (.int a t) (.int b u)) Q E s :=
  floordiv_int (by omega) (by rw [Int.fdiv_eq_ediv_of_nonneg _ (Int.le_of_lt hb)]; exact h) (.inl (PyProof.noPylong_small (by omega)))
end
theorem c_half : H 4602678819172646912 1 := H_lit (s := false) (m := 4503599627370496) (e := -53) (by kernel_rfl) (by decide +kernel)
theorem c_thirty : H 4629137466983448576 60 := H_lit (s := false) (m := 8444249301319680) (e := -48) (by kernel_rfl) (by decide +kernel)
theorem c_days : H 4645128764097822720 730 := H_lit (s := false) (m := 6421147906211840) (e := -44) (by kernel_rfl) (by decide +kernel)
theorem c_cyc : H 4654140361399074816 2922 := H_lit (s := false) (m := 6425545952722944) (e := -42) (by kernel_rfl) (by decide +kernel)
theorem c_four : H 4616189618054758400 8 := H_lit (s := false) (m := 4503599627370496) (e := -50) (by kernel_rfl) (by decide +kernel)
theorem c_hund : H 4636737291354636288 200 := H_lit (s := false) (m := 7036874417766400) (e := -46) (by kernel_rfl) (by decide +kernel)
theorem c_fhund : H 4645744490609377280 800 := H_lit (s := false) (m := 7036874417766400) (e := -44) (by kernel_rfl) (by decide +kernel)
theorem c_fthou : H 4661014508095930368 8000 := H_lit (s := false) (m := 8796093022208000) (e := -41) (by kernel_rfl) (by decide +kernel)
theorem c_armen : H 4701007892789067776 3845003 := H_lit (s := false) (m := 8257081069010944) (e := -32) (by kernel_rfl) (by decide +kernel)
theorem c_sark : H 4701801086275551232 4234421 := H_lit (s := false) (m := 4546674928123904) (e := -31) (by kernel_rfl) (by decide +kernel)
theorem c_copt : H 4700589253736792064 3650059 := H_lit (s := false) (m := 7838442016735232) (e := -32) (by kernel_rfl) (by decide +kernel)
theorem c_french : H 4702356487823949824 4751679 := H_lit (s := false) (m := 5102076476522496) (e := -31) (by kernel_rfl) (by decide +kernel)
theorem c_mayan : H 4693266160550936576 1168565 := H_lit (s := false) (m := 5018948458250240) (e := -33) (by kernel_rfl) (by decide +kernel)
theorem c_greg : H 4700144277945057280 3442851 := H_lit (s := false) (m := 7393466225000448) (e := -32) (by kernel_rfl) (by decide +kernel)
end Mine
end
section
open PySem PySem.W PyProof.Rows
namespace Mine
open PySem.Float64
/-- the double that (367 * m - 362) / 12 is -/
def mdq (m : Int) : UInt64 := ofFrac false (367 * m - 362).natAbs 12
def mdOk (m la d : Int) : Bool := decide (Flt.toInt floorOf (add (add (mdq m) (ofInt la)) (ofInt d)) = (367 * m - 362) / 12 + la + d) && isFinite (add (add (mdq m) (ofInt la)) (ofInt d))
theorem md_1 : ∀ m ∈ ([1, 2, 3, 4] : List Int), ∀ la ∈ ([0, -1, -2] : List Int), ∀ d ∈ List.range 31, mdOk m la ((d : Int) + 1) = true := by decide +kernel
theorem md_2 : ∀ m ∈ ([5, 6, 7, 8] : List Int), ∀ la ∈ ([0, -1, -2] : List Int), ∀ d ∈ List.range 31, mdOk m la ((d : Int) + 1) = true := by decide +kernel
theorem md_3 : ∀ m ∈ ([9, 10, 11, 12] : List Int), ∀ la ∈ ([0, -1, -2] : List Int), ∀ d ∈ List.range 31, mdOk m la ((d : Int) + 1) = true := by decide +kernel
theorem md_all {m la d : Int} (h1 : 1 ≤ m) (h2 : m ≤ 12) (h3 : -2 ≤ la) (h4 : la ≤ 0) (h5 : 1 ≤ d) (h6 : d ≤ 31) : mdOk m la d = true := by
  have hd : (d - 1).toNat ∈ List.range 31 := List.mem_range.mpr (by omega)
  have e : (((d - 1).toNat : Nat) : Int) + 1 = d := by omega
  have hla : la ∈ ([0, -1, -2] : List Int) := by
    have : la = 0 ∨ la = -1 ∨ la = -2 := by omega
    rcases this with rfl | rfl | rfl <;> simp
  have hm : m ∈ ([1, 2, 3, 4] : List Int) ∨ m ∈ ([5, 6, 7, 8] : List Int) ∨ m ∈ ([9, 10, 11, 12] : List Int) := by
    have : m = 1 ∨ m = 2 ∨ m = 3 ∨ m = 4 ∨ m = 5 ∨ m = 6 ∨ m = 7 ∨ m = 8 ∨ m = 9 ∨ m = 10 ∨ m = 11 ∨ m = 12 := by omega
    rcases this with rfl | rfl | rfl | rfl | rfl | rfl | rfl | rfl | rfl | rfl | rfl | rfl <;> simp
  rw [← e]
  rcases hm with hm | hm | hm
  · exact md_1 m hm la hla _ hd
  · exact md_2 m hm la hla _ hd
  · exact md_3 m hm la hla _ hd

def MD (z : UInt64) (m : Int) : Prop := 1 ≤ m ∧ m ≤ 12 ∧ z = mdq m
def MD1 (z : UInt64) (m la : Int) : Prop := 1 ≤ m ∧ m ≤ 12 ∧ -2 ≤ la ∧ la ≤ 0 ∧ z = add (mdq m) (ofInt la)
def MD2 (z : UInt64) (m la d : Int) : Prop := 1 ≤ m ∧ m ≤ 12 ∧ -2 ≤ la ∧ la ≤ 0 ∧ 1 ≤ d ∧ d ≤ 31 ∧ z = add (add (mdq m) (ofInt la)) (ofInt d)
theorem MD2.ok {z : UInt64} {m la d : Int} (h : MD2 z m la d) : Flt.toInt floorOf z = (367 * m - 362) / 12 + la + d ∧ isFinite z = true := by
  obtain ⟨h1, h2, h3, h4, h5, h6, rfl⟩ := h
  have := md_all h1 h2 h3 h4 h5 h6
  unfold mdOk at this
  rw [Bool.and_eq_true, decide_eq_true_eq] at this
  exact this

section
variable {prog : Program} {w : World} {A : Around} {E : Value → Shared → Prop} {s : Shared} {t u : Tok} {Q : Value → Shared → Prop} {x y : UInt64} {p q : Int} {a b n m la d : Int}
theorem r_div_md (h1 : 1 ≤ m) (h2 : m ≤ 12) (h : ∀ z, MD z m → Q (.float z s.toks) { s with toks := s.toks + 1 }) : wpAny (model prog w) A (binaryOp .Div (.int (367 * m - 362) t) (.int 12 u)) Q E s := by
  have e : ofFrac (decide (367 * m - 362 < 0) != decide ((12 : Int) < 0)) (367 * m - 362).natAbs (12 : Int).natAbs = mdq m := by
    unfold mdq
    rw [decide_eq_false (show ¬ 367 * m - 362 < 0 by omega)]
    rfl
  refine AutoIntOps.truediv_2 (by decide) ?_ ?_
  · rw [e]
    have := (R_ofFrac (a := 367 * m - 362) (b := 12) (by omega) (by omega) (by omega)).fin
    rw [e] at this
    intro hc
    rw [Flt.not_finite_of_inf hc] at this
    cases this
  · rw [e]; exact h _ ⟨h1, h2, rfl⟩
theorem r_add_md1 (hx : MD x m) (h3 : -2 ≤ n ∧ n ≤ 0) (h : ∀ z, MD1 z m n → Q (.float z s.toks) { s with toks := s.toks + 1 }) : wpAny (model prog w) A (binaryOp .Add (.float x t) (.int n u)) Q E s := by
  obtain ⟨h1, h2, rfl⟩ := hx
  exact AutoFloatOps.add_fi_1 (Flt.fin_of_fits (not_over (by omega) (by omega))) (h _ ⟨h1, h2, h3.1, h3.2, rfl⟩)
theorem r_add_md2 (hx : MD1 x m la) (h5 : 1 ≤ n) (h6 : n ≤ 31) (h : ∀ z, MD2 z m la n → Q (.float z s.toks) { s with toks := s.toks + 1 }) : wpAny (model prog w) A (binaryOp .Add (.float x t) (.int n u)) Q E s := by
  obtain ⟨h1, h2, h3, h4, rfl⟩ := hx
  exact AutoFloatOps.add_fi_1 (Flt.fin_of_fits (not_over (by omega) (by omega))) (h _ ⟨h1, h2, h3, h4, h5, h6, rfl⟩)
theorem r_floor_md (hx : MD2 x m la d) (h : Q (.int ((367 * m - 362) / 12 + la + d) s.toks) { s with toks := s.toks + 1 }) (hA : A.handled = none) : wpAny (model prog w) A (call (.builtin "math.floor") [.float x t]) Q E s :=
  Flt.call_floor_float hA (fun c => absurd hx.ok.2 (by rw [Flt.not_finite_of_nan c]; decide)) (fun c => absurd hx.ok.2 (by rw [Flt.not_finite_of_inf c]; decide)) (fun _ => by rw [hx.ok.1]; exact h)

theorem r_lt_fi_t (hx : H x p) (hb : p < 2 * n) (h : Q (.bool true) s) : wpAny (model prog w) A (compareOp .Lt (.float x t) (.int n u)) Q E s := r_lt_fi hx (by rw [decide_eq_true hb]; exact h)
theorem r_lt_fi_f (hx : H x p) (hb : ¬ p < 2 * n) (h : Q (.bool false) s) : wpAny (model prog w) A (compareOp .Lt (.float x t) (.int n u)) Q E s := r_lt_fi hx (by rw [decide_eq_false hb]; exact h)
theorem r_eq_fi_t (hx : H x p) (hb : p = 2 * n) (h : Q (.bool true) s) : wpAny (model prog w) A (compareOp .Eq (.float x t) (.int n u)) Q E s := r_eq_fi hx (by rw [decide_eq_true hb]; exact h)
theorem r_eq_fi_f (hx : H x p) (hb : ¬ p = 2 * n) (h : Q (.bool false) s) : wpAny (model prog w) A (compareOp .Eq (.float x t) (.int n u)) Q E s := r_eq_fi hx (by rw [decide_eq_false hb]; exact h)
theorem r_eq_if_t (hx : H x p) (hb : p = 2 * n) (h : Q (.bool true) s) : wpAny (model prog w) A (compareOp .Eq (.int n u) (.float x t)) Q E s := r_eq_if hx (by rw [decide_eq_true hb]; exact h)
theorem r_eq_if_f (hx : H x p) (hb : ¬ p = 2 * n) (h : Q (.bool false) s) : wpAny (model prog w) A (compareOp .Eq (.int n u) (.float x t)) Q E s := r_eq_if hx (by rw [decide_eq_false hb]; exact h)
theorem r_lt_ff_t (hx : H x p) (hy : H y q) (hb : p < q) (h : Q (.bool true) s) : wpAny (model prog w) A (compareOp .Lt (.float x t) (.float y u)) Q E s := r_lt_ff hx hy (by rw [decide_eq_true hb]; exact h)
theorem r_lt_ff_f (hx : H x p) (hy : H y q) (hb : ¬ p < q) (h : Q (.bool false) s) : wpAny (model prog w) A (compareOp .Lt (.float x t) (.float y u)) Q E s := r_lt_ff hx hy (by rw [decide_eq_false hb]; exact h)
theorem r_eq_ff_t (hx : H x p) (hy : H y q) (hb : p = q) (h : Q (.bool true) s) : wpAny (model prog w) A (compareOp .Eq (.float x t) (.float y u)) Q E s := r_eq_ff hx hy (by rw [decide_eq_true hb]; exact h)
theorem r_eq_ff_f (hx : H x p) (hy : H y q) (hb : ¬ p = q) (h : Q (.bool false) s) : wpAny (model prog w) A (compareOp .Eq (.float x t) (.float y u)) Q E s := r_eq_ff hx hy (by rw [decide_eq_false hb]; exact h)
theorem r_le_ff_t (hx : H x p) (hy : H y q) (hb : p ≤ q) (h : Q (.bool true) s) : wpAny (model prog w) A (compareOp .LtE (.float x t) (.float y u)) Q E s := r_le_ff hx hy (by rw [decide_eq_true hb]; exact h)
theorem r_le_ff_f (hx : H x p) (hy : H y q) (hb : ¬ p ≤ q) (h : Q (.bool false) s) : wpAny (model prog w) A (compareOp .LtE (.float x t) (.float y u)) Q E s := r_le_ff hx hy (by rw [decide_eq_false hb]; exact h)
end
end Mine
end
section
open PySem PySem.W PyProof.Rows
set_option maxRecDepth 100000
set_option maxHeartbeats 400000
namespace Mine
open PySem.Calls Builtin Builtin.Str
theorem fm2 {prog : Program} {w : World} {A : Around} {E : Value → Shared → Prop} {s : Shared} {t : Tok} {v1 v2 : Value} {fmt lit1 lit2 : List Nat} {rest1 : List Nat} {k : Nat} {Q : Fin → Shared → Prop} {y1 y2 : Str}
    (h0 : fmt.isEmpty = false) (hk : fmt.length = k + 3) (h1 : nextMarkup fmt = .ok (lit1, some { name := [] }, rest1)) (h2 : rest1.isEmpty = false) (h3 : nextMarkup rest1 = .ok (lit2, some { name := [] }, []))
    (hl1 : (lit1.length == k + 3) = false) (hl2 : (lit2.length == k + 3) = false) (hb1 : lit1.length ≤ 1000) (hb2 : lit2.length ≤ 1000)
    (f1 : ∀ (s : Shared) (Q : Value → Shared → Prop), (∀ t k, Q (.str y1 t) { s with toks := k }) → wpAny (model prog w) A (formatOf v1 PySem.Str.empty) Q E s)
    (f2 : ∀ (s : Shared) (Q : Value → Shared → Prop), (∀ t k, Q (.str y2 t) { s with toks := k }) → wpAny (model prog w) A (formatOf v2 PySem.Str.empty) Q E s)
    (hy1 : y1.length ≤ 1000) (hy2 : y2.length ≤ 1000)
    (h : ∀ t' k, Q (.done (.ret (.str ((((PySem.Str.empty ++ ⟨lit1.toArray⟩) ++ y1) ++ ⟨lit2.toArray⟩) ++ y2) t'))) { s with toks := k }) :
    wpAny (model prog w) A (Builtin.«str.format» ⟨[.str ⟨fmt.toArray⟩ t, v1, v2], []⟩) Q E s := by
  have e1 : (Str.mk lit1.toArray).length ≤ 1000 := by show lit1.toArray.size ≤ _; simpa using hb1
  have e2 : (Str.mk lit2.toArray).length ≤ 1000 := by show lit2.toArray.size ≤ _; simpa using hb2
  unfold Builtin.«str.format»
  refine wpAny_bind (wpAny_of_eq (a := (_, _, _)) rfl ?_)
  refine wpAny_bind ?_
  unfold Builtin.Str.buildString
  refine wpAny_bind ?_
  rw [KPc.range_list]
  have e0 : (Str.mk fmt.toArray).cps.toList = fmt := by simp
  simp only [e0]
  rw [hk]
  show wpAny _ _ (forIn (0 :: 1 :: 2 :: List.range' 3 k 1) _ _) _ _ _
  refine KFm.start ?_
  intro w' g'
  refine KPc.turn ?_
  dsimp only
  refine wpAny_ite (KPc.ite_no (by rw [h0]; decide) ?_)
  refine wpAny_ite (KPc.ite_no (KPc.short_good g' (by omega)) ?_)
  rw [h1]
  dsimp only
  refine wpAny_bind (KFm.field_auto (by kfm_num) rfl ?_)
  refine wpAny_bind (wpAny_holding (wpAny_of_eq (a := _) rfl ?_))
  refine wpAny_ite (KPc.ite_no Bool.false_ne_true ?_)
  refine wpAny_bind (wpAny_pure ?_)
  refine wpAny_bind (wpAny_holding (f1 _ _ ?_))
  intro _ _
  refine wpAny_bind (wpAny_of_eq (a := some _) rfl ?_)
  refine wpAny_pure ?_
  refine KFm.after_field g' rfl (KPc.obj_none (if_neg (by rw [hl1]; decide))) hy1 (by split <;> first | exact KPc.obj_some rfl | exact KPc.obj_none rfl) rfl rfl ?_
  intro w2 g2
  refine KPc.turn ?_
  dsimp only
  refine wpAny_ite (KPc.ite_no (by rw [h2]; decide) ?_)
  refine wpAny_ite (KPc.ite_no (KPc.short_good g2 (by omega)) ?_)
  rw [h3]
  dsimp only
  refine wpAny_bind (KFm.field_auto (by kfm_num) rfl ?_)
  refine wpAny_bind (wpAny_holding (wpAny_of_eq (a := _) rfl ?_))
  refine wpAny_ite (KPc.ite_no Bool.false_ne_true ?_)
  refine wpAny_bind (wpAny_pure ?_)
  refine wpAny_bind (wpAny_holding (f2 _ _ ?_))
  intro _ _
  refine wpAny_bind (wpAny_of_eq (a := some _) rfl ?_)
  refine wpAny_pure ?_
  refine KFm.after_field g2 rfl (KPc.obj_none (if_neg (by rw [hl2]; decide))) hy2 (by split <;> first | exact KPc.obj_some rfl | exact KPc.obj_none rfl) rfl rfl ?_
  intro w3 g3
  refine KPc.turn ?_
  dsimp only
  refine wpAny_ite (KPc.ite_yes rfl ?_)
  refine wpAny_pure ?_
  dsimp only
  refine wpAny_pure ?_
  refine KPc.finish_ok g3 ?_ rfl ?_
  · omega
  · intro t' k; exact h t' k
def monthFmt : List Nat := [77, 111, 110, 116, 104, 32, 123, 125, 32, 100, 111, 101, 115, 110, 39, 116, 32, 104, 97, 118, 101, 32, 97, 32, 100, 97, 121, 32, 123, 125]
def monthRest : List Nat := [32, 100, 111, 101, 115, 110, 39, 116, 32, 104, 97, 118, 101, 32, 97, 32, 100, 97, 121, 32, 123, 125]
theorem month_is : Str.ofString "Month {} doesn't have a day {}" = ⟨monthFmt.toArray⟩ := by decide +kernel
theorem month_1 : nextMarkup monthFmt = .ok ([77, 111, 110, 116, 104, 32], some { name := [] }, monthRest) := by kernel_rfl
theorem month_2 : nextMarkup monthRest = .ok ([32, 100, 111, 101, 115, 110, 39, 116, 32, 104, 97, 118, 101, 32, 97, 32, 100, 97, 121, 32], some { name := [] }, []) := by kernel_rfl
theorem small_text {n : Int} (h1 : -1000 < n) (h2 : n < 1000) : (Str.ofString (toString n)).length ≤ 1000 := by
  have := int_text_length_le10 (a := n) (k := 10) (by decide) (by omega)
  rw [PySem.ofString_length]
  omega
theorem small_log {n : Int} (h1 : -1000 < n) (h2 : n < 1000) : n.natAbs.log2 < 1920 := shown (N := 2 ^ 1920) (by omega) (by omega) (Int.le_refl _)
theorem fmt_month {prog : Program} {w : World} {A : Around} {E : Value → Shared → Prop} {s : Shared} {t u v : Tok} {m d : Int} {Q : Value → Shared → Prop} (h1 : 1 ≤ m) (h2 : m ≤ 12) (h3 : -100 < d) (h4 : d < 100)
    (h : ∀ x t' k, Q (.str x t') { s with toks := k }) : wpAny (model prog w) A (call (.builtin "str.format") [.str (Str.ofString "Month {} doesn't have a day {}") t, .int m u, .int d v]) Q E s :=
  KFm.call_k month_is (KFm.args_3 _ _ _) (KPc.meets_of fun prog w A s Q E h => fm2 (k := 27) rfl rfl month_1 rfl month_2 rfl rfl (by decide) (by decide)
    (fun _ _ q => KFm.formatOf_int (small_log (by omega) (by omega)) q) (fun _ _ q => KFm.formatOf_int (small_log (by omega) (by omega)) q) (small_text (by omega) (by omega)) (small_text (by omega) (by omega)) h) (fun t' k => h _ t' k)
end Mine
end
section
open PySem PySem.W PyProof.Rows
set_option maxRecDepth 100000
set_option maxHeartbeats 400000
namespace Mine
open PySem.Calls Builtin Builtin.Str
theorem field_man {prog : Program} {w : World} {A : Around} {E : Value → Shared → Prop} {s : Shared} {id : String} {a : Array Value} {byName : Str → Sem Value} {i : Nat} {v : Value} {num : Numbering} {nm : List Nat} {Q : Value × Numbering → Shared → Prop}
    (hn : num = .unset ∨ num = .manual) (hs : (nm.span fun c => c != 46 && c != 91) = (nm, [])) (hk : fieldKey nm = .index i) (he : nm.isEmpty = false) (ha : a[i]? = some v) (h : Q (v, .manual) s) :
    wpAny (model prog w) A (fieldObject id (some a) byName nm num) Q E s := by
  unfold fieldObject
  rw [hs]
  dsimp only
  rw [hk, he]
  rcases hn with rfl | rfl
  · refine wpAny_bind (wpAny_pure ?_)
    refine wpAny_bind (wpAny_pure ?_)
    dsimp only
    simp only [ha, pure_bind]
    rw [KPc.range_list]
    exact wpAny_bind (wpAny_pure (wpAny_pure h))
  · refine wpAny_bind (wpAny_pure ?_)
    refine wpAny_bind (wpAny_pure ?_)
    dsimp only
    simp only [ha, pure_bind]
    rw [KPc.range_list]
    exact wpAny_bind (wpAny_pure (wpAny_pure h))
theorem fm4 {prog : Program} {w : World} {A : Around} {E : Value → Shared → Prop} {s : Shared} {t : Tok} {v1 v2 v3 v4 : Value} {fmt lit1 lit2 lit3 lit4 r1 r2 r3 : List Nat} {k : Nat} {Q : Fin → Shared → Prop} {y1 y2 y3 y4 : Str}
    (h0 : fmt.isEmpty = false) (hk : fmt.length = k + 5) (m1 : nextMarkup fmt = .ok (lit1, some { name := [48] }, r1)) (e1 : r1.isEmpty = false) (m2 : nextMarkup r1 = .ok (lit2, some { name := [49] }, r2)) (e2 : r2.isEmpty = false)
    (m3 : nextMarkup r2 = .ok (lit3, some { name := [50] }, r3)) (e3 : r3.isEmpty = false) (m4 : nextMarkup r3 = .ok (lit4, some { name := [51] }, []))
    (l1 : (lit1.length == k + 5) = false) (l2 : (lit2.length == k + 5) = false) (l3 : (lit3.length == k + 5) = false) (l4 : (lit4.length == k + 5) = false) (b1 : lit1.length ≤ 1000) (b2 : lit2.length ≤ 1000) (b3 : lit3.length ≤ 1000) (b4 : lit4.length ≤ 1000)
    (f1 : ∀ (s : Shared) (Q : Value → Shared → Prop), (∀ t k, Q (.str y1 t) { s with toks := k }) → wpAny (model prog w) A (formatOf v1 PySem.Str.empty) Q E s) (hy1 : y1.length ≤ 1000)
    (f2 : ∀ (s : Shared) (Q : Value → Shared → Prop), (∀ t k, Q (.str y2 t) { s with toks := k }) → wpAny (model prog w) A (formatOf v2 PySem.Str.empty) Q E s) (hy2 : y2.length ≤ 1000)
    (f3 : ∀ (s : Shared) (Q : Value → Shared → Prop), (∀ t k, Q (.str y3 t) { s with toks := k }) → wpAny (model prog w) A (formatOf v3 PySem.Str.empty) Q E s) (hy3 : y3.length ≤ 1000)
    (f4 : ∀ (s : Shared) (Q : Value → Shared → Prop), (∀ t k, Q (.str y4 t) { s with toks := k }) → wpAny (model prog w) A (formatOf v4 PySem.Str.empty) Q E s) (hy4 : y4.length ≤ 1000)
    (h : ∀ t' k, Q (.done (.ret (.str (((((((((PySem.Str.empty ++ ⟨lit1.toArray⟩) ++ y1) ++ ⟨lit2.toArray⟩) ++ y2) ++ ⟨lit3.toArray⟩) ++ y3) ++ ⟨lit4.toArray⟩) ++ y4)) t'))) { s with toks := k }) :
    wpAny (model prog w) A (Builtin.«str.format» ⟨[.str ⟨fmt.toArray⟩ t, v1, v2, v3, v4], []⟩) Q E s := by
  have c1 : (Str.mk lit1.toArray).length ≤ 1000 := by show lit1.toArray.size ≤ _; simpa using b1
  have c2 : (Str.mk lit2.toArray).length ≤ 1000 := by show lit2.toArray.size ≤ _; simpa using b2
  have c3 : (Str.mk lit3.toArray).length ≤ 1000 := by show lit3.toArray.size ≤ _; simpa using b3
  have c4 : (Str.mk lit4.toArray).length ≤ 1000 := by show lit4.toArray.size ≤ _; simpa using b4
  have k1 : fieldKey [48] = .index 0 := by kernel_rfl
  have k2 : fieldKey [49] = .index 1 := by kernel_rfl
  have k3 : fieldKey [50] = .index 2 := by kernel_rfl
  have k4 : fieldKey [51] = .index 3 := by kernel_rfl
  unfold Builtin.«str.format»
  refine wpAny_bind (wpAny_of_eq (a := (_, _, _)) rfl ?_)
  refine wpAny_bind ?_
  unfold Builtin.Str.buildString
  refine wpAny_bind ?_
  rw [KPc.range_list]
  have e0 : (Str.mk fmt.toArray).cps.toList = fmt := by simp
  simp only [e0]
  rw [hk]
  show wpAny _ _ (forIn (0 :: 1 :: 2 :: 3 :: 4 :: List.range' 5 k 1) _ _) _ _ _
  refine KFm.start ?_
  intro w' g'
  refine KPc.turn ?_
  dsimp only
  refine wpAny_ite (KPc.ite_no (by rw [h0]; decide) ?_)
  refine wpAny_ite (KPc.ite_no (KPc.short_good g' (by omega)) ?_)
  rw [m1]
  dsimp only
  refine wpAny_bind (field_man (.inl rfl) (by decide) k1 rfl rfl ?_)
  refine wpAny_bind (wpAny_holding (wpAny_of_eq (a := _) rfl ?_))
  refine wpAny_ite (KPc.ite_no Bool.false_ne_true ?_)
  refine wpAny_bind (wpAny_pure ?_)
  refine wpAny_bind (wpAny_holding (f1 _ _ ?_))
  intro _ _
  refine wpAny_bind (wpAny_of_eq (a := some _) rfl ?_)
  refine wpAny_pure ?_
  refine KFm.after_field g' rfl (KPc.obj_none (if_neg (by rw [l1]; decide))) hy1 (by split <;> first | exact KPc.obj_some rfl | exact KPc.obj_none rfl) rfl rfl ?_
  intro w2 g2
  refine KPc.turn ?_
  dsimp only
  refine wpAny_ite (KPc.ite_no (by rw [e1]; decide) ?_)
  refine wpAny_ite (KPc.ite_no (KPc.short_good g2 (by omega)) ?_)
  rw [m2]
  dsimp only
  refine wpAny_bind (field_man (.inr rfl) (by decide) k2 rfl rfl ?_)
  refine wpAny_bind (wpAny_holding (wpAny_of_eq (a := _) rfl ?_))
  refine wpAny_ite (KPc.ite_no Bool.false_ne_true ?_)
  refine wpAny_bind (wpAny_pure ?_)
  refine wpAny_bind (wpAny_holding (f2 _ _ ?_))
  intro _ _
  refine wpAny_bind (wpAny_of_eq (a := some _) rfl ?_)
  refine wpAny_pure ?_
  refine KFm.after_field g2 rfl (KPc.obj_none (if_neg (by rw [l2]; decide))) hy2 (by split <;> first | exact KPc.obj_some rfl | exact KPc.obj_none rfl) rfl rfl ?_
  intro w3 g3
  refine KPc.turn ?_
  dsimp only
  refine wpAny_ite (KPc.ite_no (by rw [e2]; decide) ?_)
  refine wpAny_ite (KPc.ite_no (KPc.short_good g3 (by omega)) ?_)
  rw [m3]
  dsimp only
  refine wpAny_bind (field_man (.inr rfl) (by decide) k3 rfl rfl ?_)
  refine wpAny_bind (wpAny_holding (wpAny_of_eq (a := _) rfl ?_))
  refine wpAny_ite (KPc.ite_no Bool.false_ne_true ?_)
  refine wpAny_bind (wpAny_pure ?_)
  refine wpAny_bind (wpAny_holding (f3 _ _ ?_))
  intro _ _
  refine wpAny_bind (wpAny_of_eq (a := some _) rfl ?_)
  refine wpAny_pure ?_
  refine KFm.after_field g3 rfl (KPc.obj_none (if_neg (by rw [l3]; decide))) hy3 (by split <;> first | exact KPc.obj_some rfl | exact KPc.obj_none rfl) rfl rfl ?_
  intro w4 g4
  refine KPc.turn ?_
  dsimp only
  refine wpAny_ite (KPc.ite_no (by rw [e3]; decide) ?_)
  refine wpAny_ite (KPc.ite_no (KPc.short_good g4 (by omega)) ?_)
  rw [m4]
  dsimp only
  refine wpAny_bind (field_man (.inr rfl) (by decide) k4 rfl rfl ?_)
  refine wpAny_bind (wpAny_holding (wpAny_of_eq (a := _) rfl ?_))
  refine wpAny_ite (KPc.ite_no Bool.false_ne_true ?_)
  refine wpAny_bind (wpAny_pure ?_)
  refine wpAny_bind (wpAny_holding (f4 _ _ ?_))
  intro _ _
  refine wpAny_bind (wpAny_of_eq (a := some _) rfl ?_)
  refine wpAny_pure ?_
  refine KFm.after_field g4 rfl (KPc.obj_none (if_neg (by rw [l4]; decide))) hy4 (by split <;> first | exact KPc.obj_some rfl | exact KPc.obj_none rfl) rfl rfl ?_
  intro w5 g5
  refine KPc.turn ?_
  dsimp only
  refine wpAny_ite (KPc.ite_yes rfl ?_)
  refine wpAny_pure ?_
  dsimp only
  refine wpAny_pure ?_
  refine KPc.finish_ok g5 ?_ rfl ?_
  · omega
  · intro t' k; exact h t' k
def fourFmt : List Nat := [123, 48, 125, 32, 123, 49, 125, 32, 123, 50, 125, 32, 123, 51, 125]
def fourR1 : List Nat := [32, 123, 49, 125, 32, 123, 50, 125, 32, 123, 51, 125]
def fourR2 : List Nat := [32, 123, 50, 125, 32, 123, 51, 125]
def fourR3 : List Nat := [32, 123, 51, 125]
theorem four_is : Str.ofString "{0} {1} {2} {3}" = ⟨fourFmt.toArray⟩ := by decide +kernel
theorem four_1 : nextMarkup fourFmt = .ok ([], some { name := [48] }, fourR1) := by kernel_rfl
theorem four_2 : nextMarkup fourR1 = .ok ([32], some { name := [49] }, fourR2) := by kernel_rfl
theorem four_3 : nextMarkup fourR2 = .ok ([32], some { name := [50] }, fourR3) := by kernel_rfl
theorem four_4 : nextMarkup fourR3 = .ok ([32], some { name := [51] }, []) := by kernel_rfl
/-- the four words of a day, one blank between each two -/
def fourText (a : Int) (x : Str) (b : Int) (y : Str) : Str :=
  (((((((PySem.Str.empty ++ ⟨([] : List Nat).toArray⟩) ++ PySem.Str.ofString (toString a)) ++ ⟨[32].toArray⟩) ++ x) ++ ⟨[32].toArray⟩) ++ PySem.Str.ofString (toString b)) ++ ⟨[32].toArray⟩) ++ y
theorem args_five {a b c d e : Value} : argsOk "str.format" ⟨[a, b, c, d, e], []⟩ := by
  unfold argsOk; rw [signature?_of (id := "str.format") (n := ['t', 'a', 'm', 'r', 'o', 'f']) (o := ['r', 't', 's']) (by kernel_rfl) F.owner_str]; kernel_rfl
theorem fmt_four {prog : Program} {w : World} {A : Around} {E : Value → Shared → Prop} {s : Shared} {t u1 u2 u3 u4 : Tok} {a b : Int} {x y : Str} {Q : Value → Shared → Prop} (ha : -1000 < a) (ha2 : a < 1000) (hx : x.length ≤ 1000) (hb : -1000 < b) (hb2 : b < 1000) (hy : y.length ≤ 1000)
    (h : ∀ t' k, Q (.str (fourText a x b y) t') { s with toks := k }) : wpAny (model prog w) A (call (.builtin "str.format") [.str (Str.ofString "{0} {1} {2} {3}") t, .int a u1, .str x u2, .int b u3, .str y u4]) Q E s :=
  KFm.call_k four_is args_five (KPc.meets_of fun prog w A s Q E h => fm4 (k := 10) rfl rfl four_1 rfl four_2 rfl four_3 rfl four_4 rfl rfl rfl rfl (by decide) (by decide) (by decide) (by decide)
    (fun _ _ q => KFm.formatOf_int (small_log ha ha2) q) (small_text ha ha2) (fun _ _ q => wpAny_of_eq (KFm.formatOf_str _ _) (q _ _)) hx (fun _ _ q => KFm.formatOf_int (small_log hb hb2) q) (small_text hb hb2) (fun _ _ q => wpAny_of_eq (KFm.formatOf_str _ _) (q _ _)) hy h) (fun t' k => h t' k)
end Mine
end
section
open PySem PySem.W PyProof.Rows
namespace Mine
noncomputable abbrev LO : List Str := looseW Mine.hd.view_39
        [Str.ofString "to_jd_gregorian", Str.ofString "from_jd_armenian", Str.ofString "from_gregorian_armenian",
        Str.ofString "to_jd_coptic", Str.ofString "from_jd_coptic", Str.ofString "from_gregorian_coptic",
        Str.ofString "from_jd_french_republican", Str.ofString "from_gregorian_french_republican",
        Str.ofString "to_jd_hebrew", Str.ofString "from_jd_hebrew", Str.ofString "from_gregorian_hebrew",
        Str.ofString "HAAB", Str.ofString "TZOLKIN", Str.ofString "to_jd_mayan", Str.ofString "from_jd_mayan",
        Str.ofString "from_gregorian_mayan", Str.ofString "from_jd_positivist",
        Str.ofString "from_gregorian_positivist"]
/-- What a call of the def at `f` gives back: `Out` says of the new objects and the value. -/
noncomputable abbrev Spec (w : World) (k : Nat) (f : Addr) (vs : List Value) (Out : List (Addr × Obj) → Value → Prop) : Prop :=
  ∀ (dp un : Nat) (gd : Option (List Code)) (cn : Str) (cs : Scope) (a : Addr) (ccd : Value) (cl : List (Str × Addr)) (outer : List Env) (A₀ : Around) (base h₀ : Heap) (L : Addr) (m : Str → Option Value)
    (mean : ExcName → Option Value) (mg mb : Str → Option Value) (news : List (Addr × Obj)) (s : Shared) (Q E : Value → Shared → Prop),
    Below A₀ base outer h₀ → Fr h₀ L s.heap m → (Mine.hd.heap_39 w.params).In h₀ → News h₀ L s.heap news → Top Mine.hd.view_39 LO mean mg mb h₀ → cs.kind = .function → dp + k < recursionLimit → un + 8 * k < cLine →
    (∀ v tl h' tk', Fr h₀ L h' m → News h₀ L h' (tl ++ news) → (∀ q ∈ news, ∀ p ∈ tl, q.1 < p.1) → Out tl v → Q v { s with heap := h', toks := tk' }) →
    wpAny (model Challenge.rw_ad5037_01.row.prog w) (ktrTop dp un gd cn cs L a ccd cl outer) (call (.ref f) vs) Q E s
/-- The call of the def at `f` raises a new exception of class `X`. -/
noncomputable abbrev SpecE (w : World) (k : Nat) (f : Addr) (vs : List Value) (X : String) : Prop :=
  ∀ (dp un : Nat) (gd : Option (List Code)) (cn : Str) (cs : Scope) (a : Addr) (ccd : Value) (cl : List (Str × Addr)) (outer : List Env) (A₀ : Around) (base h₀ : Heap) (L : Addr) (m : Str → Option Value)
    (mean : ExcName → Option Value) (mg mb : Str → Option Value) (news : List (Addr × Obj)) (s : Shared) (Q E : Value → Shared → Prop),
    Below A₀ base outer h₀ → Fr h₀ L s.heap m → (Mine.hd.heap_39 w.params).In h₀ → News h₀ L s.heap news → Top Mine.hd.view_39 LO mean mg mb h₀ → cs.kind = .function → dp + k < recursionLimit → un + 8 * k < cLine →
    (∀ e g h' tk', Fr h₀ L g m → g.UpToSlots h' → RaisedSN base g (envX cn cs L a ccd cl :: outer) e (.type X) news h' → E (.ref e) { s with heap := h', toks := tk' }) →
    wpAny (model Challenge.rw_ad5037_01.row.prog w) (ktrTop dp un gd cn cs L a ccd cl outer) (call (.ref f) vs) Q E s
theorem raisedS_N {base G : Heap} {l : List Env} {e t : Addr} {cls : Value} {vs : List Value} {news : List (Addr × Obj)} {h : Heap} (R : RaisedS base G l e cls t vs news h) : RaisedSN base G l e cls news h :=
  let ⟨⟨B, hB, hBG, hl, hfl, _⟩, _⟩ := R
  ⟨B, _, hB, hBG, hl, hfl⟩
abbrev leapP (y : Int) : Prop := y % 4 = 0 ∧ (y % 100 ≠ 0 ∨ y % 400 = 0)
/-- the days of a month -/
def dim (y m : Int) : Int := if m = 2 then (if leapP y then 29 else 28) else if m = 4 ∨ m = 6 ∨ m = 9 ∨ m = 11 then 30 else 31
/-- the whole part of the Julian day at midnight ahead of y-m-d -/
def jdn (y m d : Int) : Int := 1721424 + 365 * (y - 1) + (y - 1) / 4 - (y - 1) / 100 + (y - 1) / 400 + ((367 * m - 362) / 12 + (if m ≤ 2 then 0 else if leapP y then -1 else -2) + d)
theorem H.cast {z : UInt64} {k k' : Int} (e : k = k') (h : H z k) : H z k' := e ▸ h
theorem dim_le (y m : Int) : dim y m ≤ 31 := by unfold dim; (repeat' split) <;> omega
theorem dim_ge (y m : Int) : 28 ≤ dim y m := by unfold dim; (repeat' split) <;> omega
/-- what the loose Armenian count tells of the day n -/
def loose1 (n : Int) : Int := (n - 1922502) / 365
def loose2 (n : Int) : Int := (n - 1922502) % 365 / 30 + 1
def loose3 (n : Int) : Int := n - 1922501 - 365 * ((n - 1922502) / 365) - 30 * ((n - 1922502) % 365 / 30)
/-- Sarkawag's -/
def sarkY (n : Int) : Int := 4 * (n - 2117210) / 1461
def sarkD (n : Int) : Int := n - 2117210 - (365 * sarkY n + sarkY n / 4)
def sark1 (n : Int) : Int := (if sarkD n = 0 then sarkY n - 1 else sarkY n) + 533
def sarkR (n : Int) : Int := if sarkD n = 0 then (if sarkY n % 4 = 0 then 366 else 365) else sarkD n
def sark2 (n : Int) : Int := (sarkR n - 1) / 30 + 1
def sark3 (n : Int) : Int := sarkR n - 30 * ((sarkR n - 1) / 30)
/-- the Coptic date -/
def copt1 (n : Int) : Int := (4 * (n - 1825029) + 1463) / 1461
def coptR (n : Int) : Int := n - 1825029 - 365 * (copt1 n - 1) - copt1 n / 4
def copt2 (n : Int) : Int := coptR n / 30 + 1
def copt3 (n : Int) : Int := coptR n % 30 + 1
/-- the French year behind `b` years and `J` days, and the day in it -/
def freY (b J : Int) : Int := b + 4 * (J / 1461) + (if J % 1461 = 1460 then 3 else J % 1461 / 365) + 1
def freR (J : Int) : Int := if J % 1461 = 1460 then 365 else J % 1461 % 365
def freM (J : Int) : Int := freR J / 30 + 1
def freD (J : Int) : Int := freR J - freR J / 30 * 30 + 1
def romB (n : Int) : Int := 4000 * ((n - 2380222) / 1460969) + 400 * ((n - 2380222) % 1460969 / 146097) + 100 * ((n - 2380222) % 1460969 % 146097 / 36524) + 12
def romJ (n : Int) : Int := (n - 2380222) % 1460969 % 146097 % 36524
def madB (n : Int) : Int := 128 * ((n - 2381683) / 46751) + 16
def madJ (n : Int) : Int := (n - 2381683) % 46751
def romB' (n : Int) : Int := if n ≤ 2380222 then -1 else romB n
def romJ' (n : Int) : Int := if n ≤ 2380222 then n - 2375839 + 365 else romJ n
def madB' (n : Int) : Int := if n ≤ 2382048 then -1 else madB n
def madJ' (n : Int) : Int := if n ≤ 2382048 then n - 2375839 + 365 else madJ n
def amodI (k b : Int) : Int := if k % b = 0 then b else k % b
theorem amod_range (k : Int) {b : Int} (hb : 0 < b) : 1 ≤ amodI k b ∧ amodI k b ≤ b := by
  have h1 := Int.emod_nonneg k (show b ≠ 0 by omega)
  have h2 := Int.emod_lt_of_pos k hb
  unfold amodI
  split <;> omega
def HN : List Str := [PySem.Str.ofString "Pop", PySem.Str.ofString "Wo'", PySem.Str.ofString "Zip", PySem.Str.ofString "Sotz'", PySem.Str.ofString "Sek", PySem.Str.ofString "Xul", PySem.Str.ofString "Yaxk'in'", PySem.Str.ofString "Mol", PySem.Str.ofString "Ch'en", PySem.Str.ofString "Yax", PySem.Str.ofString "Sak'", PySem.Str.ofString "Keh", PySem.Str.ofString "Mak", PySem.Str.ofString "K'ank'in", PySem.Str.ofString "Muwan'", PySem.Str.ofString "Pax", PySem.Str.ofString "K'ayab", PySem.Str.ofString "Kumk'u", PySem.Str.ofString "Wayeb'"]
def TN : List Str := [PySem.Str.ofString "Imix'", PySem.Str.ofString "Ik'", PySem.Str.ofString "Ak'b'al", PySem.Str.ofString "K'an", PySem.Str.ofString "Chikchan", PySem.Str.ofString "Kimi", PySem.Str.ofString "Manik'", PySem.Str.ofString "Lamat", PySem.Str.ofString "Muluk", PySem.Str.ofString "Ok", PySem.Str.ofString "Chuwen", PySem.Str.ofString "Eb'", PySem.Str.ofString "B'en", PySem.Str.ofString "Ix", PySem.Str.ofString "Men", PySem.Str.ofString "K'ib'", PySem.Str.ofString "Kab'an", PySem.Str.ofString "Etz'nab'", PySem.Str.ofString "Kawak", PySem.Str.ofString "Ajaw"]
theorem getD_len {l : List Str} (h : (l.all fun x => decide (x.length ≤ 1000)) = true) (i : Nat) : (l.getD i PySem.Str.empty).length ≤ 1000 := by
  rw [List.getD_eq_getElem?_getD]
  cases e : l[i]? with
  | none => decide
  | some x => exact of_decide_eq_true (List.all_eq_true.mp h x (List.mem_of_getElem? e))
/-- the Haab and the Tzolkin of the long count k -/
def haab1 (k : Int) : Int := (k + 348) % 365 % 20
def haab2 (k : Int) : Str := HN.getD ((k + 348) % 365 / 20).toNat PySem.Str.empty
def tz1 (k : Int) : Int := amodI (k + 4) 13
def tz2 (k : Int) : Str := TN.getD (amodI (k + 20) 20 - 1).toNat PySem.Str.empty
theorem tz2_len (k : Int) : (tz2 k).length ≤ 1000 := getD_len (by decide +kernel) _
theorem haab2_len (k : Int) : (haab2 k).length ≤ 1000 := getD_len (by decide +kernel) _
theorem tz1_range (k : Int) : 1 ≤ tz1 k ∧ tz1 k ≤ 13 := amod_range _ (by decide)
theorem haab1_range (k : Int) : 0 ≤ haab1 k ∧ haab1 k < 20 := by unfold haab1; omega
theorem callWith_SB {M : Model} {A : Around} {E : Value → Shared → Prop} {s : Shared} {env : Env} {pos p : Pos} {id : String} {first : List Value} {Q : Value → Shared → Prop} {e : Expr}
    (h : wpAny M A (eval e env) (fun v s₁ => StarOf M A E v (fun vs s₂ => wpAny M A (call (.builtin id) (first ++ vs)) Q E s₂) s₁) E s)
    (he : starEach [.Starred e p] env = [(true, eval e env)] := by rfl) :
    wpAny M A (callWith pos (.builtin id) first (backTo pos (starEach [.Starred e p] env)) []) Q E s := by
  rw [he]
  refine PySem.W.ks_call (P := fun _ => True) rfl (fun h _ => ⟨.machine, .inr (.inl rfl), .now⟩) (PySem.W.ks_lone (wpAny_mono h (fun v s₁ h₁ => ?_) fun _ _ x => x))
  unfold StarOf at h₁ ⊢
  exact wpAny_mono h₁ (fun b s₂ h₂ => ⟨h₂.1, wpAny_mono h₂.2 (fun vs s₃ h₃ => ⟨trivial, h₃⟩) fun _ _ x => x⟩) fun _ _ x => x
section
variable {prog : Program} {w : World} {A₀ A : Around} {s : Shared} {base h₀ : Heap} {L : Addr} {m : Str → Option Value} {env : Env} {news : List (Addr × Obj)} {K : Frag} {p : Program} {loose : List Str} {mean : ExcName → Option Value} {mg mb : Str → Option Value}
    {R : Result → Shared → Prop} {name qual : Str} {params : Arguments} {body : List Stmt} {scope : Scope} {dV kV doc pm cdv ct oc : Value} {an od : Option Addr} {osl : Array (Option Value)} {f : Addr} {args : Args} {binds : List (Str × Value)}
/-- the library's code_defS0, for a caller whose frame may bear cells -/
theorem code_defG0 (B : Below A₀ base [] h₀) (F : Fr h₀ L s.heap m) (X₀ : K.In h₀) (N : News h₀ L s.heap news) (T : Top p loose mean mg mb h₀) (hA : A.frames = some [env]) (hf : env.frame = some L) (hke : env.scope.kind = .function)
    (ho : K.lookup f = some ⟨oc, od, .func (fnOf name qual params body scope dV kV doc pm an cdv ct), osl⟩) (hcd : codeIn K cdv qual = true) (hroom : A.depth < recursionLimit)
    (hbind : BindsTo s (fnOf name qual params body scope dV kV doc pm an cdv ct) args binds) (hloc : ∀ y ∈ binds, scope.names.lookup y.1 = some .local)
    (h : ∀ g L' h₁, Fr h₀ L g m → Fr g L' h₁ (fun y => binds.reverse.lookup y) → News g L' h₁ news → Below A base [env] g → K.In g → Top p loose mean mg mb g → KtsDicts ([env].filterMap (·.frame)) g →
      wpAny (model prog w) (A.deeper (envOf qual scope L' f cdv)) (execs body (envOf qual scope L' f cdv))
        (fun fl s' => LeaveS0 ([env].filterMap (·.frame)) h₀ L m g R (match fl with | .ret v => v | _ => .none) s')
        (fun e s' => wpAny (model prog w) (A.deeper (envOf qual scope L' f cdv)) (leaving (envOf qual scope L' f cdv) e) (fun _ s'' => R (.error e) s'') (fun e' s'' => R (.error e') s'') s')
        { s with heap := h₁, toks := s.toks + binds.length })
    (hco : scope.isCoroutine = false) (hgen : scope.isGenerator = false) (hk : scope.kind = .function)
    (hcell : ∀ x ∈ scope.names, x.2 ≠ .cell) : codeAny (model prog w) A (.call (.ref f) args) R s := by
  have X := X₀.keeps F.keep
  have hmem : ∀ b, b ∈ [env].filterMap (·.frame) → b = L := fun b hb => by
    simp only [List.filterMap_cons, hf, List.filterMap_nil, List.mem_singleton] at hb
    exact hb
  obtain ⟨FG, BG, st, _⟩ := groundX (R := R) B F N hA hf hke
  refine PySem.codeAny_call_def (fd := fnOf name qual params body scope dV kV doc pm an cdv ct) (body := body) (binds := binds) hroom (X _ _ ho) rfl (T.nolimit.keeps F.keep) (codeRec_of X hcd) rfl hbind hcell hloc (fun h₁ hns hk₁ => ?_) hco hgen hk
  obtain ⟨oL, es, ep, hLg, hLd, hLk, hLf⟩ := FG.ns
  refine wpAny_mono (h _ s.heap.objs.size h₁ FG ⟨hns, fun b o e => hk₁ b o (of_hideAll _ e), Nat.le_of_eq (hideAll_size _ _)⟩
    (fun p hp => ⟨hk₁ _ _ (N p hp).1, Nat.ne_of_lt (Heap.lt_size (N p hp).1), hideAll_none _ (List.mem_map_of_mem hp)⟩) BG (X₀.keeps st) (T.keeps st) (fun b hb => by
      rw [hmem b hb]
      exact ⟨oL, es, ep, hLg, hLd⟩)) (fun fl s' hl => ?_) fun _ _ y => y
  obtain ⟨g', L', m', news', T', F', N', k⟩ := hl
  have nL₀ : h₀.get? L = none := kts_self F
  obtain ⟨sl, hs⟩ := T'.up hLg
  refine k ⟨⟨_, es, ep, F'.keep _ _ hs, hLd, hLk, hLf⟩, fun b o e => F'.keep b o (T'.other b o (st b o e) (fun q => by
    rw [hmem b q, nL₀] at e
    cases e)), F.above⟩ fun p hp => ⟨(N' p hp).1, fun q => ?_, ?_⟩
  · have := (N' p hp).2.2; rw [q, hs] at this; cases this
  · cases q : h₀.get? p.1 with
    | none => rfl
    | some o =>
      obtain ⟨sl', hs'⟩ := T'.up (st _ _ q)
      have := (N' p hp).2.2
      rw [hs'] at this
      cases this
end
/-- Spec for a call made in the law's own frame (a def with a try in it) -/
noncomputable abbrev SpecD (w : World) (k : Nat) (f : Addr) (vs : List Value) (Out : List (Addr × Obj) → Value → Prop) : Prop :=
  ∀ (dp un : Nat) (gd : Option (List Code)) (cn : Str) (cs : Scope) (a : Addr) (ccd : Value) (cl : List (Str × Addr)) (A₀ : Around) (h₀ : Heap) (L : Addr) (m : Str → Option Value)
    (mean : ExcName → Option Value) (mg mb : Str → Option Value) (news : List (Addr × Obj)) (s : Shared) (Q E : Value → Shared → Prop),
    Below A₀ h₀ [] h₀ → Fr h₀ L s.heap m → (Mine.hd.heap_39 w.params).In h₀ → News h₀ L s.heap news → Top Mine.hd.view_39 LO mean mg mb h₀ → cs.kind = .function → dp + k < recursionLimit → un + 8 * k < cLine →
    (∀ v tl h' tk', Fr h₀ L h' m → News h₀ L h' (tl ++ news) → (∀ q ∈ news, ∀ p ∈ tl, q.1 < p.1) → Out tl v → Q v { s with heap := h', toks := tk' }) →
    wpAny (model Challenge.rw_ad5037_01.row.prog w) (ktrTop dp un gd cn cs L a ccd cl []) (call (.ref f) vs) Q E s
theorem in_30 {prog : Program} {w : World} {A : Around} {E : Value → Shared → Prop} {s : Shared} {K : Frag} {h₀ : Heap} {L a : Addr} {m : Str → Option Value} {l : List Value} {n : Nat} {dd : Option Addr} {sl : Array (Option Value)} {x : Int} {u : Tok} {Q : Value → Shared → Prop}
    (F : Fr h₀ L s.heap m) (X₀ : K.In h₀) (hl : K.lookup a = some ⟨.type "tuple", dd, .seq l.toArray n, sl⟩) (hi : IntsAre l [4, 6, 9, 11]) (h : Q (.bool (decide (x = 4 ∨ x = 6 ∨ x = 9 ∨ x = 11))) s) :
    wpAny (model prog w) A (compareOp .In (.int x u) (.ref a)) Q E s := by
  refine in_tuple_ints (tupK (X₀.keeps F.keep) hl) (ns := [4, 6, 9, 11]) (by simpa using hi) ?_
  have e : ([4, 6, 9, 11] : List Int).any (· == x) = decide (x = 4 ∨ x = 6 ∨ x = 9 ∨ x = 11) := by
    rw [Bool.eq_iff_iff]
    simp only [List.any_cons, List.any_nil, Bool.or_false, Bool.or_eq_true, beq_iff_eq, decide_eq_true_eq]
    omega
  rw [e]; exact h
section
variable {h₀ : Heap} {L : Addr} {m : Str → Option Value} {news : List (Addr × Obj)} {s : Shared} {Q : Value → Shared → Prop}
abbrev RetOf (h₀ : Heap) (L : Addr) (m : Str → Option Value) (news : List (Addr × Obj)) (s : Shared) (Q : Value → Shared → Prop) (Out : List (Addr × Obj) → Value → Prop) : Prop :=
  ∀ v tl h' tk', Fr h₀ L h' m → News h₀ L h' (tl ++ news) → (∀ q ∈ news, ∀ p ∈ tl, q.1 < p.1) → Out tl v → Q v { s with heap := h', toks := tk' }
theorem ret_v {V : Value} (h : ∀ h' tk', Fr h₀ L h' m → News h₀ L h' news → Q V { s with heap := h', toks := tk' }) : RetOf h₀ L m news s Q (fun tl v => tl = [] ∧ v = V) := by
  intro v tl h' tk' F N _ o
  obtain ⟨rfl, rfl⟩ := o
  exact h h' tk' F N
theorem ret_H {k : Int} (h : ∀ z t h' tk', Fr h₀ L h' m → News h₀ L h' news → H z k → Q (.float z t) { s with heap := h', toks := tk' }) : RetOf h₀ L m news s Q (fun tl v => ∃ z t, tl = [] ∧ v = .float z t ∧ H z k) := by
  intro v tl h' tk' F N _ o
  obtain ⟨z, t, rfl, rfl, hz⟩ := o
  exact h z t h' tk' F N hz
theorem ret_I {k : Int} (h : ∀ t h' tk', Fr h₀ L h' m → News h₀ L h' news → Q (.int k t) { s with heap := h', toks := tk' }) : RetOf h₀ L m news s Q (fun tl v => ∃ t, tl = [] ∧ v = .int k t) := by
  intro v tl h' tk' F N _ o
  obtain ⟨t, rfl, rfl⟩ := o
  exact h t h' tk' F N
/-- a made tuple -/
abbrev tupOf (vs : List Value) (c : Nat) : Obj := { cls := .type "tuple", data := .seq vs.toArray c }
theorem ret_T3 {a b c : Int} (h : ∀ D t1 t2 t3 n h' tk', Fr h₀ L h' m → News h₀ L h' ((D, tupOf [.int a t1, .int b t2, .int c t3] n) :: news) → (∀ p ∈ news, p.1 < D) → Q (.ref D) { s with heap := h', toks := tk' }) :
    RetOf h₀ L m news s Q (fun tl v => ∃ D t1 t2 t3 n, tl = [(D, tupOf [.int a t1, .int b t2, .int c t3] n)] ∧ v = .ref D) := by
  intro v tl h' tk' F N l o
  obtain ⟨D, t1, t2, t3, n, rfl, rfl⟩ := o
  exact h D t1 t2 t3 n h' tk' F N fun q hq => l q hq _ (List.mem_singleton.mpr rfl)
theorem ret_T5 {a b c d e : Int} (h : ∀ D t1 t2 t3 t4 t5 n h' tk', Fr h₀ L h' m → News h₀ L h' ((D, tupOf [.int a t1, .int b t2, .int c t3, .int d t4, .int e t5] n) :: news) → (∀ p ∈ news, p.1 < D) → Q (.ref D) { s with heap := h', toks := tk' }) :
    RetOf h₀ L m news s Q (fun tl v => ∃ D t1 t2 t3 t4 t5 n, tl = [(D, tupOf [.int a t1, .int b t2, .int c t3, .int d t4, .int e t5] n)] ∧ v = .ref D) := by
  intro v tl h' tk' F N l o
  obtain ⟨D, t1, t2, t3, t4, t5, n, rfl, rfl⟩ := o
  exact h D t1 t2 t3 t4 t5 n h' tk' F N fun q hq => l q hq _ (List.mem_singleton.mpr rfl)
theorem ret_TIS {a : Int} {x : Str} (h : ∀ D t1 t2 n h' tk', Fr h₀ L h' m → News h₀ L h' ((D, tupOf [.int a t1, .str x t2] n) :: news) → (∀ p ∈ news, p.1 < D) → Q (.ref D) { s with heap := h', toks := tk' }) :
    RetOf h₀ L m news s Q (fun tl v => ∃ D t1 t2 n, tl = [(D, tupOf [.int a t1, .str x t2] n)] ∧ v = .ref D) := by
  intro v tl h' tk' F N l o
  obtain ⟨D, t1, t2, n, rfl, rfl⟩ := o
  exact h D t1 t2 n h' tk' F N fun q hq => l q hq _ (List.mem_singleton.mpr rfl)
theorem ret_S {x : Str} (h : ∀ t h' tk', Fr h₀ L h' m → News h₀ L h' news → Q (.str x t) { s with heap := h', toks := tk' }) : RetOf h₀ L m news s Q (fun tl v => ∃ t, tl = [] ∧ v = .str x t) := by
  intro v tl h' tk' F N _ o
  obtain ⟨t, rfl, rfl⟩ := o
  exact h t h' tk' F N
theorem end_I {k k' : Int} {t : Tok} {tk' : Nat} {h' : Heap} {news' : List (Addr × Obj)} (hret : RetOf h₀ L m news s Q (fun tl v => ∃ t, tl = [] ∧ v = .int k t)) (e : k' = k) (F : Fr h₀ L h' m) (N : News h₀ L h' news') (hs : ∀ p ∈ news, p ∈ news') : Q (.int k' t) { s with heap := h', toks := tk' } := by
  subst e
  exact hret _ [] _ _ F (fun p hp => N p (hs p hp)) (fun _ _ _ h => nomatch h) ⟨t, rfl, rfl⟩
theorem end_S {x x' : Str} {t : Tok} {tk' : Nat} {h' : Heap} {news' : List (Addr × Obj)} (hret : RetOf h₀ L m news s Q (fun tl v => ∃ t, tl = [] ∧ v = .str x t)) (e : x' = x) (F : Fr h₀ L h' m) (N : News h₀ L h' news') (hs : ∀ p ∈ news, p ∈ news') : Q (.str x' t) { s with heap := h', toks := tk' } := by
  subst e
  exact hret _ [] _ _ F (fun p hp => N p (hs p hp)) (fun _ _ _ h => nomatch h) ⟨t, rfl, rfl⟩
theorem end_TIS {a a' : Int} {x x' : Str} {D : Addr} {t1 t2 : Tok} {n tk' : Nat} {h' : Heap} {news' : List (Addr × Obj)} (hret : RetOf h₀ L m news s Q (fun tl v => ∃ D t1 t2 n, tl = [(D, tupOf [.int a t1, .str x t2] n)] ∧ v = .ref D))
    (ea : a' = a) (eb : x' = x) (F : Fr h₀ L h' m) (N : News h₀ L h' news') (hm : (D, tupOf [.int a' t1, .str x' t2] n) ∈ news') (hs : ∀ p ∈ news, p ∈ news') (hl : ∀ p ∈ news, p.1 < D) : Q (.ref D) { s with heap := h', toks := tk' } := by
  subst ea; subst eb
  refine hret _ [(D, tupOf [.int a' t1, .str x' t2] n)] _ _ F (fun p hp => ?_) (fun q hq p hp => ?_) ⟨D, t1, t2, n, rfl, rfl⟩
  · rcases List.mem_append.mp hp with hp | hp
    · rw [List.mem_singleton.mp hp]; exact N _ hm
    · exact N _ (hs p hp)
  · rw [List.mem_singleton.mp hp]; exact hl q hq
theorem end_T3 {a b c a' b' c' : Int} {D : Addr} {t1 t2 t3 : Tok} {n tk' : Nat} {h' : Heap} {news' : List (Addr × Obj)} (hret : RetOf h₀ L m news s Q (fun tl v => ∃ D t1 t2 t3 n, tl = [(D, tupOf [.int a t1, .int b t2, .int c t3] n)] ∧ v = .ref D))
    (ea : a' = a) (eb : b' = b) (ec : c' = c) (F : Fr h₀ L h' m) (N : News h₀ L h' news') (hm : (D, tupOf [.int a' t1, .int b' t2, .int c' t3] n) ∈ news') (hs : ∀ p ∈ news, p ∈ news') (hl : ∀ p ∈ news, p.1 < D) : Q (.ref D) { s with heap := h', toks := tk' } := by
  subst ea; subst eb; subst ec
  refine hret _ [(D, tupOf [.int a' t1, .int b' t2, .int c' t3] n)] _ _ F (fun p hp => ?_) (fun q hq p hp => ?_) ⟨D, t1, t2, t3, n, rfl, rfl⟩
  · rcases List.mem_append.mp hp with hp | hp
    · rw [List.mem_singleton.mp hp]; exact N _ hm
    · exact N _ (hs p hp)
  · rw [List.mem_singleton.mp hp]; exact hl q hq
theorem end_T5 {a b c d e a' b' c' d' e' : Int} {D : Addr} {t1 t2 t3 t4 t5 : Tok} {n tk' : Nat} {h' : Heap} {news' : List (Addr × Obj)} (hret : RetOf h₀ L m news s Q (fun tl v => ∃ D t1 t2 t3 t4 t5 n, tl = [(D, tupOf [.int a t1, .int b t2, .int c t3, .int d t4, .int e t5] n)] ∧ v = .ref D))
    (ea : a' = a) (eb : b' = b) (ec : c' = c) (ed : d' = d) (ee : e' = e) (F : Fr h₀ L h' m) (N : News h₀ L h' news') (hm : (D, tupOf [.int a' t1, .int b' t2, .int c' t3, .int d' t4, .int e' t5] n) ∈ news') (hs : ∀ p ∈ news, p ∈ news') (hl : ∀ p ∈ news, p.1 < D) : Q (.ref D) { s with heap := h', toks := tk' } := by
  subst ea; subst eb; subst ec; subst ed; subst ee
  refine hret _ [(D, tupOf [.int a' t1, .int b' t2, .int c' t3, .int d' t4, .int e' t5] n)] _ _ F (fun p hp => ?_) (fun q hq p hp => ?_) ⟨D, t1, t2, t3, t4, t5, n, rfl, rfl⟩
  · rcases List.mem_append.mp hp with hp | hp
    · rw [List.mem_singleton.mp hp]; exact N _ hm
    · exact N _ (hs p hp)
  · rw [List.mem_singleton.mp hp]; exact hl q hq
theorem ret_T0 (h : ∀ D n h' tk', Fr h₀ L h' m → News h₀ L h' ((D, tupOf [] n) :: news) → (∀ p ∈ news, p.1 < D) → Q (.ref D) { s with heap := h', toks := tk' }) :
    RetOf h₀ L m news s Q (fun tl v => ∃ D n, tl = [(D, tupOf [] n)] ∧ v = .ref D) := by
  intro v tl h' tk' F N l o
  obtain ⟨D, n, rfl, rfl⟩ := o
  exact h D n h' tk' F N fun q hq => l q hq _ (List.mem_singleton.mpr rfl)
theorem ret_T2 {a b : Int} (h : ∀ D t1 t2 n h' tk', Fr h₀ L h' m → News h₀ L h' ((D, tupOf [.int a t1, .int b t2] n) :: news) → (∀ p ∈ news, p.1 < D) → Q (.ref D) { s with heap := h', toks := tk' }) :
    RetOf h₀ L m news s Q (fun tl v => ∃ D t1 t2 n, tl = [(D, tupOf [.int a t1, .int b t2] n)] ∧ v = .ref D) := by
  intro v tl h' tk' F N l o
  obtain ⟨D, t1, t2, n, rfl, rfl⟩ := o
  exact h D t1 t2 n h' tk' F N fun q hq => l q hq _ (List.mem_singleton.mpr rfl)
theorem end_T0 {D : Addr} {n tk' : Nat} {h' : Heap} {news' : List (Addr × Obj)} (hret : RetOf h₀ L m news s Q (fun tl v => ∃ D n, tl = [(D, tupOf [] n)] ∧ v = .ref D))
    (F : Fr h₀ L h' m) (N : News h₀ L h' news') (hm : (D, tupOf [] n) ∈ news') (hs : ∀ p ∈ news, p ∈ news') (hl : ∀ p ∈ news, p.1 < D) : Q (.ref D) { s with heap := h', toks := tk' } := by
  refine hret _ [(D, tupOf [] n)] _ _ F (fun p hp => ?_) (fun q hq p hp => ?_) ⟨D, n, rfl, rfl⟩
  · rcases List.mem_append.mp hp with hp | hp
    · rw [List.mem_singleton.mp hp]; exact N _ hm
    · exact N _ (hs p hp)
  · rw [List.mem_singleton.mp hp]; exact hl q hq
theorem end_T2 {a b a' b' : Int} {D : Addr} {t1 t2 : Tok} {n tk' : Nat} {h' : Heap} {news' : List (Addr × Obj)} (hret : RetOf h₀ L m news s Q (fun tl v => ∃ D t1 t2 n, tl = [(D, tupOf [.int a t1, .int b t2] n)] ∧ v = .ref D))
    (ea : a' = a) (eb : b' = b) (F : Fr h₀ L h' m) (N : News h₀ L h' news') (hm : (D, tupOf [.int a' t1, .int b' t2] n) ∈ news') (hs : ∀ p ∈ news, p ∈ news') (hl : ∀ p ∈ news, p.1 < D) : Q (.ref D) { s with heap := h', toks := tk' } := by
  subst ea; subst eb
  refine hret _ [(D, tupOf [.int a' t1, .int b' t2] n)] _ _ F (fun p hp => ?_) (fun q hq p hp => ?_) ⟨D, t1, t2, n, rfl, rfl⟩
  · rcases List.mem_append.mp hp with hp | hp
    · rw [List.mem_singleton.mp hp]; exact N _ hm
    · exact N _ (hs p hp)
  · rw [List.mem_singleton.mp hp]; exact hl q hq
/-- the days of a Coptic year, a date moved back, a date in the two ways that run ahead -/
def daysI (y : Int) : Int := if y % 4 = 3 then 366 else 365
def movY (y p b : Int) : Int := if b < p then y else y - 1
def movP (y p b : Int) : Int := if b < p then p - b else p - b + daysI (y - 1)
def aheY (y p s : Int) : Int := if s - 1 ≤ y ∧ p = 366 then y + 1 else y
def aheP (y p s : Int) : Int := if s - 1 ≤ y ∧ p = 366 then 1 else if s ≤ y ∧ y % 4 = 0 then p + 1 else p
end
section
variable {prog : Program} {w : World} {A : Around} {E : Value → Shared → Prop} {s : Shared} {h₀ : Heap} {L : Addr} {news : List (Addr × Obj)} {Q : Value → Shared → Prop} {D : Addr} {i j : Int} {x y : Str} {t1 t2 u : Tok} {n : Nat}
def hitS (y : Str) : Value → Bool | .str z _ => z == y | _ => false
def hitI (j : Int) : Value → Bool | .int z _ => z == j | _ => false
theorem in_mix_s (N : News h₀ L s.heap news) (hm : (D, tupOf [.int i t1, .str x t2] n) ∈ news) {b : Bool} (hb : (x == y) = b) (h : Q (.bool b) s) : wpAny (model prog w) A (compareOp .In (.str y u) (.ref D)) Q E s := by
  refine PySem.SeqAt.in_tupleAt (hitS y) ⟨_, N.get hm, rfl, n, rfl⟩ (fun v hv => ?_) ?_
  · have : v = .int i t1 ∨ v = .str x t2 := by simpa using hv
    rcases this with rfl | rfl
    · exact PySem.SeqAt.EqAt.int_str _ _ _ _
    · exact PySem.SeqAt.EqAt.str_str _ _ _ _
  · have e : ([.int i t1, .str x t2] : List Value).toArray.any (hitS y) = b := by
      rw [List.any_toArray]
      show (false || ((x == y) || false)) = b
      rw [hb]; cases b <;> rfl
    rw [e]; exact h
theorem in_mix_i (N : News h₀ L s.heap news) (hm : (D, tupOf [.int i t1, .str x t2] n) ∈ news) {b : Bool} (hb : (i == j) = b) (h : Q (.bool b) s) : wpAny (model prog w) A (compareOp .In (.int j u) (.ref D)) Q E s := by
  refine PySem.SeqAt.in_tupleAt (hitI j) ⟨_, N.get hm, rfl, n, rfl⟩ (fun v hv => ?_) ?_
  · have : v = .int i t1 ∨ v = .str x t2 := by simpa using hv
    rcases this with rfl | rfl
    · exact PySem.SeqAt.EqAt.int_int _ _ _ _
    · exact PySem.SeqAt.EqAt.str_int _ _ _ _
  · have e : ([.int i t1, .str x t2] : List Value).toArray.any (hitI j) = b := by
      rw [List.any_toArray]
      show ((i == j) || (false || false)) = b
      rw [hb]; cases b <;> rfl
    rw [e]; exact h
end
theorem news_nil {h₀ h : Heap} {L : Addr} {news : List (Addr × Obj)} (N : News h₀ L h ([] ++ news)) : News h₀ L h news := N
theorem news_one {h₀ h : Heap} {L : Addr} {p : Addr × Obj} {news : List (Addr × Obj)} (N : News h₀ L h ([p] ++ news)) : News h₀ L h (p :: news) := N
theorem lt_one {D : Addr} {o : Obj} {news : List (Addr × Obj)} (h : ∀ q ∈ news, ∀ p ∈ [(D, o)], q.1 < p.1) : ∀ p ∈ news, p.1 < D := fun q hq => h q hq _ (List.mem_singleton.mpr rfl)
end Mine
end
section
open PySem PySem.W PyProof.Rows
set_option maxRecDepth 100000
namespace Mine
/-- the bound method of a str's format -/
abbrev bndFmt (x : Str) (u : Tok) : Obj := { cls := .type "builtin_function_or_method", data := .fields #[.builtin "str.format", .str x u] }
theorem lk_fmt : typeLookup (.type "str") "format" = pure (some (.builtin "str.format")) := by rw [typeLookup_type, builtinLookup_eq_fast]; kernel_rfl
theorem ty_fmt : typeOf (.builtin "str.format") = pure (.type "method_descriptor") := by show builtinType _ = _; rw [builtinType_eq_fast]; kernel_rfl
theorem lk_md_get : Slot "method_descriptor" "__get__" "method_descriptor.__get__" :=
  .of (owner := "method_descriptor") (n := "__get__") (by rw [typeLookup_type, builtinLookup_eq_fast]; kernel_rfl) (by decide +kernel) (by decide +kernel) (by decide +kernel)
    (by first | exact .inl (by decide +kernel) | exact .inr (by decide +kernel)) (by rw [isSubtype_type]; kernel_rfl)
theorem lk_md_set : typeLookup (.type "method_descriptor") "__set__" = pure none := by rw [typeLookup_type, builtinLookup_eq_fast]; kernel_rfl
theorem lk_md_del : typeLookup (.type "method_descriptor") "__delete__" = pure none := by rw [typeLookup_type, builtinLookup_eq_fast]; kernel_rfl
theorem en_md_get : entryFor table "method_descriptor.__get__" = some Builtin.«method_descriptor.__get__» := entryFor_of_tree (by kernel_rfl)
theorem ar_md_get (a b c : Value) : argsOk "method_descriptor.__get__" ⟨[a, b, c], []⟩ := by unfold argsOk; kernel_rfl
theorem sub_fmt : isSubtype (.type "str") (.type (".".intercalate ("str.format".cutAt '.').dropLast)) = pure true := by
  rw [show ".".intercalate ("str.format".cutAt '.').dropLast = "str" by decide +kernel, isSubtype_type]; kernel_rfl
section
variable {prog : Program} {w : World} {A : Around} {E : Value → Shared → Prop} {h : Heap} {g : Array GenState} {d : Drawn} {t : Nat} {os : OsState} {x : Str} {u : Tok}
theorem fmt_get {R : Result → Shared → Prop} (hq : R (.ok (.ret (.ref h.objs.size))) ⟨h.push (bndFmt x u), g, d, t, os⟩) :
    codeAny (model prog w) A (.call (.builtin "method_descriptor.__get__") ⟨[.builtin "str.format", .str x u, .type "str"], []⟩) R ⟨h, g, d, t, os⟩ := by
  have hT : (⟨h, g, d, t, os⟩ : Shared).TypeIs (.str x u) "str" := rfl
  have hT5 : (⟨h, g, d, t, os⟩ : Shared).TypeIs (.builtin "str.format") "method_descriptor" := ty_fmt
  have f8 := sub_fmt
  refine codeAny_call_builtin lk_md_get.plain en_md_get (lk_md_get.check _ _ _ _ _ _ _ _ hT5 (ar_md_get _ _ _) ?_)
  repeat (any_goals (first | assumption | with_reducible (first | refine PySem.wpAny_pure ?_ | refine PySem.wpAny_bind ?_ | refine PySem.wpAny_holding ?_ | refine PySem.wpAny_letGo ?_ | refine PySem.wpAny_fresh' ?_ | refine PySem.wpAny_alloc' ?_ | refine PySem.wpAny_attempt ?_ | refine PySem.wpAny_of_eq (by assumption) ?_ | refine PySem.wpAny_typeOf (by assumption) ?_ | refine PySem.wpAny_specialOf_val (by assumption) (by assumption) ?_ | refine PySem.wpAny_specialOf (by assumption) (by assumption) ?_ | refine PySem.wpAny_isInstance_val (by assumption) (by assumption) ?_ | refine PySem.wpAny_isInstance (by assumption) (by assumption) ?_ | refine PySem.wpAny_call ?_ | refine PySem.wpAny_runValue ?_ | refine PySem.wpAny_run ?_) | wp_delta | wp_step))
theorem fmt_entry {tk : Tok} {Q : Fin → Shared → Prop} (hq : Q (.done (.ret (.ref h.objs.size))) ⟨h.push (bndFmt x u), g, d, t, os⟩) :
    wpAny (model prog w) A (Builtin.«object.__getattribute__» ⟨[.str x u, .str "format" tk], []⟩) Q E ⟨h, g, d, t, os⟩ := by
  have hT : (⟨h, g, d, t, os⟩ : Shared).TypeIs (.str x u) "str" := rfl
  have hT5 : (⟨h, g, d, t, os⟩ : Shared).TypeIs (.builtin "str.format") "method_descriptor" := ty_fmt
  have f4 := lk_fmt
  have f5 := ty_fmt
  have f6 := lk_md_get.lookup
  have f7 := lk_md_set
  have f8 := lk_md_del
  repeat (any_goals (first | assumption | with_reducible (first | refine PySem.wpAny_pure ?_ | refine PySem.wpAny_bind ?_ | refine PySem.wpAny_holding ?_ | refine PySem.wpAny_letGo ?_ | refine PySem.wpAny_fresh' ?_ | refine PySem.wpAny_alloc' ?_ | refine PySem.wpAny_attempt ?_ | refine PySem.wpAny_of_eq (by assumption) ?_ | refine PySem.wpAny_typeOf (by assumption) ?_ | refine PySem.wpAny_specialOf_val (by assumption) (by assumption) ?_ | refine PySem.wpAny_specialOf (by assumption) (by assumption) ?_ | refine PySem.wpAny_isInstance_val (by assumption) (by assumption) ?_ | refine PySem.wpAny_isInstance (by assumption) (by assumption) ?_ | refine PySem.wpAny_call ?_ | refine PySem.wpAny_runValue ?_ | refine PySem.wpAny_run ?_) | wp_delta | wp_step))
  refine fmt_get ?_
  repeat (any_goals (first | assumption | with_reducible (first | refine PySem.wpAny_pure ?_ | refine PySem.wpAny_bind ?_ | refine PySem.wpAny_holding ?_ | refine PySem.wpAny_letGo ?_ | refine PySem.wpAny_fresh' ?_ | refine PySem.wpAny_alloc' ?_ | refine PySem.wpAny_attempt ?_ | refine PySem.wpAny_of_eq (by assumption) ?_ | refine PySem.wpAny_typeOf (by assumption) ?_ | refine PySem.wpAny_specialOf_val (by assumption) (by assumption) ?_ | refine PySem.wpAny_specialOf (by assumption) (by assumption) ?_ | refine PySem.wpAny_isInstance_val (by assumption) (by assumption) ?_ | refine PySem.wpAny_isInstance (by assumption) (by assumption) ?_ | refine PySem.wpAny_call ?_ | refine PySem.wpAny_runValue ?_ | refine PySem.wpAny_run ?_) | wp_delta | wp_step))
theorem fmt_call {tk : Tok} {R : Result → Shared → Prop} (hq : R (.ok (.ret (.ref h.objs.size))) ⟨h.push (bndFmt x u), g, d, t, os⟩) :
    codeAny (model prog w) A (.call (.builtin "object.__getattribute__") ⟨[.str x u, .str "format" tk], []⟩) R ⟨h, g, d, t, os⟩ :=
  codeAny_call_builtin F.slot_str_getattribute.plain F.entry_object_getattribute (F.slot_str_getattribute.check _ _ _ _ _ _ _ _ (show (⟨h, g, d, t, os⟩ : Shared).TypeIs (.str x u) "str" from rfl) (F.args_object_getattribute_2 _ _) (fmt_entry hq))
theorem fmt_by {tk : Tok} {Q : Value → Shared → Prop} (hq : Q (.ref h.objs.size) ⟨h.push (bndFmt x u), g, d, t, os⟩) : wpAny (model prog w) A (getAttrBy (.str x u) (.str "format" tk) true true) Q E ⟨h, g, d, t, os⟩ := by
  have hT : (⟨h, g, d, t, os⟩ : Shared).TypeIs (.str x u) "str" := rfl
  have f2 := F.slot_str_getattribute.lookup
  have f3 := F.slot_str_getattribute.bind (.str x u)
  repeat (any_goals (first | assumption | with_reducible (first | refine PySem.wpAny_pure ?_ | refine PySem.wpAny_bind ?_ | refine PySem.wpAny_holding ?_ | refine PySem.wpAny_letGo ?_ | refine PySem.wpAny_fresh' ?_ | refine PySem.wpAny_alloc' ?_ | refine PySem.wpAny_attempt ?_ | refine PySem.wpAny_of_eq (by assumption) ?_ | refine PySem.wpAny_typeOf (by assumption) ?_ | refine PySem.wpAny_specialOf_val (by assumption) (by assumption) ?_ | refine PySem.wpAny_specialOf (by assumption) (by assumption) ?_ | refine PySem.wpAny_isInstance_val (by assumption) (by assumption) ?_ | refine PySem.wpAny_isInstance (by assumption) (by assumption) ?_ | refine PySem.wpAny_call ?_ | refine PySem.wpAny_runValue ?_ | refine PySem.wpAny_run ?_) | wp_delta | wp_step))
  refine fmt_call ?_
  repeat (any_goals (first | assumption | with_reducible (first | refine PySem.wpAny_pure ?_ | refine PySem.wpAny_bind ?_ | refine PySem.wpAny_holding ?_ | refine PySem.wpAny_letGo ?_ | refine PySem.wpAny_fresh' ?_ | refine PySem.wpAny_alloc' ?_ | refine PySem.wpAny_attempt ?_ | refine PySem.wpAny_of_eq (by assumption) ?_ | refine PySem.wpAny_typeOf (by assumption) ?_ | refine PySem.wpAny_specialOf_val (by assumption) (by assumption) ?_ | refine PySem.wpAny_specialOf (by assumption) (by assumption) ?_ | refine PySem.wpAny_isInstance_val (by assumption) (by assumption) ?_ | refine PySem.wpAny_isInstance (by assumption) (by assumption) ?_ | refine PySem.wpAny_call ?_ | refine PySem.wpAny_runValue ?_ | refine PySem.wpAny_run ?_) | wp_delta | wp_step))
theorem fmt_attr {Q : Value → Shared → Prop} (hq : Q (.ref h.objs.size) ⟨h.push (bndFmt x u), g, d, t + 1, os⟩) : wpAny (model prog w) A (getAttr (.str x u) (PySem.Str.ofString "format") true) Q E ⟨h, g, d, t, os⟩ := by
  unfold getAttr
  repeat (any_goals (first | assumption | with_reducible refine fmt_by ?_ | wp_step))
end
end Mine
end
section
open PySem PySem.W PyProof.Rows
set_option maxRecDepth 100000
namespace Mine
section
variable {prog : Program} {w : World} {A : Around} {E : Value → Shared → Prop} {s : Shared} {h₀ : Heap} {L b : Addr} {m : Str → Option Value} {news : List (Addr × Obj)} {x y z : Str} {u t u1 u2 u3 u4 : Tok} {a c : Int}
theorem four_tree (ha : -1000 < a) (ha2 : a < 1000) (hx : x.length ≤ 1000) (hb : -1000 < c) (hb2 : c < 1000) (hy : y.length ≤ 1000) {P : Fin → Shared → Prop} (h : ∀ t' k, P (.done (.ret (.str (fourText a x c y) t'))) { s with toks := k }) :
    wpAny (model prog w) A (Builtin.«str.format» ⟨[.str (Str.ofString "{0} {1} {2} {3}") t, .int a u1, .str x u2, .int c u3, .str y u4], []⟩) P E s := by
  rw [four_is]
  exact fm4 (k := 10) rfl rfl four_1 rfl four_2 rfl four_3 rfl four_4 rfl rfl rfl rfl (by decide) (by decide) (by decide) (by decide)
    (fun _ _ q => KFm.formatOf_int (small_log ha ha2) q) (small_text ha ha2) (fun _ _ q => wpAny_of_eq (KFm.formatOf_str _ _) (q _ _)) hx (fun _ _ q => KFm.formatOf_int (small_log hb hb2) q) (small_text hb hb2) (fun _ _ q => wpAny_of_eq (KFm.formatOf_str _ _) (q _ _)) hy h
def BndAt (b : Addr) (z : Str) (h : Heap) : Prop := ∃ u, h.get? b = some (bndFmt z u)
theorem BndAt.of {h : Heap} (N : News h₀ L h news) (hm : (b, bndFmt z u) ∈ news) : BndAt b z h := ⟨u, N.get hm⟩
theorem bnd_looks {M : Model} {h : Heap} (hb : BndAt b z h) : Looks M h (keeperOf (.ref b)) .machine := by
  obtain ⟨u, hb⟩ := hb
  intro A Q E s k q
  unfold keeperOf
  refine wpAny_bind (wpAny_load (k _ _ hb) ?_)
  simp only [bndFmt, show (Value.type "builtin_function_or_method" != Value.type "method") = true by decide, show (Value.type "builtin_function_or_method" == Value.type "builtin_function_or_method" || Value.type "builtin_function_or_method" == Value.type "method-wrapper") = true by decide, if_true]
  exact wpAny_pure q
theorem star_callW {M : Model} {env : Env} {pos p : Pos} {Q : Value → Shared → Prop} {e : Expr}
    (h : wpAny M A (eval e env) (fun v s₁ => StarOf M A E v (fun vs s₂ => BndAt b z s₂.heap ∧ wpAny M A (call (.ref b) vs) Q E s₂) s₁) E s)
    (he : starEach [.Starred e p] env = [(true, eval e env)] := by rfl) :
    wpAny M A (callWith pos (.ref b) [] (backTo pos (starEach [.Starred e p] env)) []) Q E s := by
  rw [he]
  refine PySem.W.ks_call (P := BndAt b z) rfl (fun h hb => ⟨.machine, .inr (.inl rfl), bnd_looks hb⟩) (PySem.W.ks_lone (wpAny_mono h (fun v s₁ h₁ => ?_) fun _ _ x => x))
  unfold StarOf at h₁ ⊢
  exact wpAny_mono h₁ (fun b s₂ h₂ => ⟨h₂.1, wpAny_mono h₂.2 (fun vs s₃ h₃ => h₃) fun _ _ x => x⟩) fun _ _ x => x
theorem attr_fmt {Q : Value → Shared → Prop} (F : Fr h₀ L s.heap m) (N : News h₀ L s.heap news)
    (h : ∀ b h' tk, Fr h₀ L h' m → News h₀ L h' ((b, bndFmt x u) :: news) → (∀ p ∈ news, p.1 < b) → Q (.ref b) { s with heap := h', toks := tk }) : wpAny (model prog w) A (getAttr (.str x u) (PySem.Str.ofString "format") true) Q E s :=
  fmt_attr (h _ _ _ (F.push _) (News.push F N _) fun p hp => Heap.lt_size (N p hp).1)
theorem check_fmt {d e f g : Value} : checkBoundCall "str.format" ⟨[.str z u, d, e, f, g], []⟩ = pure () := by first | rfl | kernel_rfl
theorem quiet_fmt {as : Args} : (Code.builtin "str.format" as).quiet = true := Code.quiet_builtin _ (by decide +kernel)
theorem call_bnd {Q : Value → Shared → Prop} (N : News h₀ L s.heap news) (hm : (b, bndFmt (Str.ofString "{0} {1} {2} {3}") u) ∈ news) (ha : -1000 < a) (ha2 : a < 1000) (hx : x.length ≤ 1000) (hb : -1000 < c) (hb2 : c < 1000) (hy : y.length ≤ 1000)
    (h : ∀ t' k, Q (.str (fourText a x c y) t') { s with toks := k }) : wpAny (model prog w) A (call (.ref b) [.int a u1, .str x u2, .int c u3, .str y u4]) Q E s := by
  refine wpAny_call (codeAny_of_tree ?_)
  show wpAny _ A.in1 (callAny (.ref b) ⟨[.int a u1, .str x u2, .int c u3, .str y u4], []⟩) _ _ s
  simp only [callAny]
  refine wpAny_bind (wpAny_load (N.get hm) ?_)
  simp only [bndFmt, show (Value.type "builtin_function_or_method" == Value.type "method" || Value.type "builtin_function_or_method" == Value.type "builtin_function_or_method" || Value.type "builtin_function_or_method" == Value.type "method-wrapper") = true by decide, if_true]
  refine KFB.if_so (by decide) ?_
  refine wpAny_bind (wpAny_of_eq (a := ()) check_fmt ?_)
  refine wpAny_bind (wpAny_pure (wpAny_pure ?_))
  exact ⟨quiet_fmt, codeAny_builtin F.entry_str_format_m (four_tree ha ha2 hx hb hb2 hy h)⟩
theorem star_eval {M : Model} {env : Env} {k : Const} {cp apos pos p : Pos} {name : Str} {e : Expr} {uu : Nat} {Q : Value → Shared → Prop}
    (h : wpAny M A (eval (.Constant k uu cp) env) (fun ov s₁ => wpAny M A (getAttr ov name true) (fun f s₂ => wpAny M A (callWith pos f [] (backTo pos (starEach [.Starred e p] env)) []) Q E s₂) E s₁) E s) :
    wpAny M A (eval (.Call (.Attribute (.Constant k uu cp) name apos) [.Starred e p] [] pos) env) Q E s := by
  rw [arm_eval_Call]
  show wpAny M A (do
    let ov ← eval (.Constant k uu cp) env
    standAt apos.atName
    methodCall (.Constant k uu cp) name apos pos env ov _ (backTo pos (starEach [.Starred e p] env)) []) Q E s
  refine wpAny_bind (wpAny_mono h (fun ov s₁ h₁ => wpAny_bind (wpAny_standAt ?_)) fun _ _ x => x)
  unfold methodCall
  refine wpAny_bind (wpAny_holding ?_)
  show wpAny M A (do pure (← getAttr ov name true, ([] : List Value))) _ E s₁
  refine wpAny_bind (wpAny_mono h₁ (fun f s₂ h₂ => wpAny_pure ?_) fun _ _ x => x)
  exact wpAny_bind (wpAny_pure h₂)
end
end Mine
end
section
open PySem PySem.W PyProof.Rows
namespace Mine
theorem nsub1 {h₀ h : Heap} {L : Addr} {a : Addr × Obj} {l : List (Addr × Obj)} (N : News h₀ L h (a :: l)) : News h₀ L h l := fun p hp => N p (List.mem_cons_of_mem _ hp)
theorem nsub2 {h₀ h : Heap} {L : Addr} {a b : Addr × Obj} {l : List (Addr × Obj)} (N : News h₀ L h (a :: b :: l)) : News h₀ L h l := nsub1 (nsub1 N)
/-- the two ways of a test that tell the same, joined -/
theorem join_test {M : Model} {A : Around} {E : Value → Shared → Prop} {s : Shared} {h₀ : Heap} {L : Addr} {m : Str → Option Value} {news : List (Addr × Obj)} {Q : Bool → Shared → Prop} {x : Sem Bool} (b : Bool) (F : Fr h₀ L s.heap m) (N : News h₀ L s.heap news)
    (inner : ∀ Q' : Bool → Shared → Prop, (∀ h' tk', Fr h₀ L h' m → News h₀ L h' news → Q' b { s with heap := h', toks := tk' }) → wpAny M A x Q' E s)
    (h : ∀ h' tk', Fr h₀ L h' m → News h₀ L h' news → Q b { s with heap := h', toks := tk' }) : wpAny M A x Q E s := inner Q h
end Mine
end
section
open PySem PySem.W PyProof.Rows
namespace Mine
theorem map_inj : ∀ {l r : List Char}, l.map Char.toNat = r.map Char.toNat → l = r
  | [], [], _ => rfl
  | [], _ :: _, h => by simp at h
  | _ :: _, [], h => by simp at h
  | a :: l, b :: r, h => by
    simp only [List.map_cons, List.cons.injEq] at h
    have e : a = b := Char.ext (UInt32.toNat_inj.mp h.1)
    rw [e, map_inj h.2]
theorem str_inj (a b : String) : (PySem.Str.ofString a = PySem.Str.ofString b) = (a = b) := by
  apply propext
  constructor
  · intro h
    rw [PySem.Str.ofString_eq_toList, PySem.Str.ofString_eq_toList] at h
    have h1 := congrArg (fun z => PySem.Str.cps z |>.toList) h
    simp only at h1
    exact String.toList_inj.mp (map_inj h1)
  · intro h; rw [h]
theorem str_beq (a b : String) : (PySem.Str.ofString a == PySem.Str.ofString b) = (a == b) := by
  rw [Bool.eq_iff_iff, beq_iff_eq, beq_iff_eq, str_inj]
theorem ite_tt {a b : Prop} (h : a) : if (true = true) then a else b := h
theorem ite_ff {a b : Prop} (h : b) : if (false = true) then a else b := h
end Mine
end
section
open PySem PySem.W PySem.Calls PyProof.Rows PyProof.Rows.LCg
set_option maxRecDepth 100000
namespace Mine
theorem rm_md {P : Prop} (h : P) : P := h
/-- the end of one turn of a dict comprehension: the frame stands, the iterator, the comprehension's frame and the dict are untouched -/
def DEnd {prog : Program} {w : World} {Kk : Type} [DecidableEq Kk] (knd : KeyKind prog w Kk) (h₀ : Heap) (L : Addr) (m : Str → Option Value) (s₁ : Shared) (I : Addr) (oI : Obj) (C : Addr) (oC : Obj) (D : Addr) (oD : Obj) (S : List (Addr × Obj) → Prop) (rest : Kk → Value → List (Addr × Obj) → Prop) (kv y : Value) (s₂ : Shared) : Prop :=
  ∃ h' tk news' kk, s₂ = { s₁ with heap := h', toks := tk } ∧ Fr h₀ L h' m ∧ News h₀ L h' ((I, oI) :: (C, oC) :: (D, oD) :: news') ∧ Off3 I C D news' ∧ S news' ∧ knd.is kk kv = true ∧ rest kk y news'
def DRest (prog : Program) (w : World) {Kk : Type} [DecidableEq Kk] (knd : KeyKind prog w Kk) (A : Around) (h₀ : Heap) (L : Addr) (m : Str → Option Value) (env : Env) (kx vx : Expr) (x : Str) (scope : Scope) (cl : List (Str × Addr)) (s : Shared) (S : List (Addr × Obj) → Prop) (P : Nat → Value → Prop)
    (Fin : List (Kk × Value) → List (Addr × Obj) → Prop) : Nat → Nat → List (Kk × Value) → List (Addr × Obj) → Prop
  | 0, _, kvs, news => Fin kvs news
  | k + 1, i, kvs, news => ∀ v I oI C oC D oD m₂ h tk (E' : Value → Shared → Prop), P i v → NsObj oC m₂ → m₂ x = some v → oD.IsDictOf knd kvs → Fr h₀ L h m → News h₀ L h ((I, oI) :: (C, oC) :: (D, oD) :: news) → Off3 I C D news → ((@Ne Nat I C) ∧ (@Ne Nat I D) ∧ (@Ne Nat C D)) →
      wpAny (model prog w) A (eval kx (compEnvC scope cl C env)) (fun kv s₄ => wpAny (model prog w) A (eval vx (compEnvC scope cl C env))
        (DEnd knd h₀ L m { s with heap := h, toks := tk } I oI C oC D oD S (fun kk y news' => DRest prog w knd A h₀ L m env kx vx x scope cl s S P Fin k (i + 1) (stored kvs kk y) news') kv) E' s₄) E' { s with heap := h, toks := tk }
section
variable {prog : Program} {w : World} {A : Around} {E : Value → Shared → Prop} {s : Shared} {h₀ : Heap} {L : Addr} {m : Str → Option Value} {env : Env} {Kk : Type} [DecidableEq Kk] {knd : KeyKind prog w Kk}
theorem dblock {kx vx iter : Expr} {x : Str} {px : Pos} {scope : Scope} {cl : List (Str × Addr)} {pos : Pos} {s₂ : Shared} {I ax : Addr} {its : Array Value} {news : List (Addr × Obj)}
    {Fin : List (Kk × Value) → List (Addr × Obj) → Prop} {RR : Value → Addr → Result → Shared → Prop}
    (W : Walks prog w A I [I, ax] [I] its.size (fun i v => its[i]? = some v) (fun i h => h.IsListIter I ax i ∧ h.IsList ax its)) (hsz : its.size ≤ sizeLine)
    (hcell : ∀ y ∈ scope.names, y.2 ≠ .cell) (hkind : scope.kind = .function) (hx : scope.names.lookup x = some .local) (hst : s₂.heap.IsListIter I ax 0 ∧ s₂.heap.IsList ax its) (hfp : ∀ b ∈ [I, ax], b < s₂.heap.objs.size)
    (F : Fr h₀ L s₂.heap m) (N : News h₀ L s₂.heap news) (hIL : L ≠ I) (hI₀ : h₀.get? I = none) (off : ∀ p ∈ news, p.1 ≠ I) (hS : SrcAt h₀ ax its news)
    (R : DRest prog w knd A h₀ L m env kx vx x scope cl s₂ (SrcAt h₀ ax its) (fun i v => its[i]? = some v) Fin its.size 0 [] news)
    (hRR : ∀ D oD C h tk m' kvs news', oD.IsDictOf knd kvs → Fr h₀ L h m → News h₀ L h ((D, oD) :: news') → Off1 D news' → h.Ns C m' → h₀.get? C = none → h₀.get? D = none → C ≠ L → D ≠ L → C ≠ D → (∀ p ∈ news', p.1 ≠ C) → Fin kvs news' → RR (.ref D) C (.ok .next) { s₂ with heap := h, toks := tk }) :
    wpAny (model prog w) A newDict (fun acc s₃ => wpAny (model prog w) A (newFunctionEnv scope env.globals cl [] env.qual none .none (some env)) (fun cenv s₄ =>
      codeAny (model prog w) A (.compStart (.DictComp kx vx [⟨.Name x px, iter, [], 0⟩] scope pos) 0 (.ref I) acc { cenv with scope := relabel scope env }) (RR acc cenv.locals) s₄) E s₃) E s₂ := by
  refine wpAny_newObj_type (wpAny_newFunctionEnv hcell (by intro y hy; simp at hy) (fun h₁ hns₁ hsb₁ => ?_) hkind)
  dsimp only at hns₁ hsb₁ ⊢
  have hnew : (s₂.heap.push { cls := .type "dict", dict := none, data := .dict #[] }).DictOf knd s₂.heap.objs.size [] := Heap.DictOf.new s₂.heap
  generalize hH2 : s₂.heap.push { cls := .type "dict", dict := none, data := .dict #[] } = H2 at hns₁ hsb₁ hnew ⊢
  generalize hDd : s₂.heap.objs.size = D at *
  have hC : H2.objs.size = D + 1 := by rw [← hH2, Heap.size_push, hDd]
  generalize hCd : H2.objs.size = C at *
  have hDC : D ≠ C := by rw [hC]; exact Nat.ne_of_lt (Nat.lt_succ_self _)
  have below : ∀ b, b < D → b ≠ C ∧ b ≠ D := fun b hb => ⟨by rw [hC]; exact Nat.ne_of_lt (Nat.lt_succ_of_lt hb), Nat.ne_of_lt hb⟩
  have hDf : D ∉ [I, ax] := fun hm => Nat.lt_irrefl _ (hfp _ hm)
  have hCf : C ∉ [I, ax] := fun hm => by have := hfp _ hm; rw [hC] at this; exact Nat.lt_irrefl _ (Nat.lt_of_succ_lt this)
  have hIlt : I < D := hfp I (List.mem_cons_self ..)
  have szlt : ∀ b o, s₂.heap.get? b = some o → b < D := fun b o e => hDd ▸ Heap.lt_size e
  have old : ∀ b o, s₂.heap.get? b = some o → h₁.get? b = some o := fun b o e => hsb₁.extBut b o (below b (szlt b o e)).1 (Heap.get?_push_of_some _ (hH2 ▸ Heap.get?_push_of_some _ e))
  have hacc : h₁.DictOf knd D [] := hnew.at fun o e => hsb₁.extBut _ _ hDC (Heap.get?_push_of_some _ e)
  have hst₁ : h₁.IsListIter I ax 0 ∧ h₁.IsList ax its := W.frame _ _ _ hst fun b _ o e => old b o e
  have fresh : ∀ a, D ≤ a → h₀.get? a = none := fun a ha => by
    cases e : h₀.get? a with
    | none => rfl
    | some o' => exact absurd (szlt a o' (F.keep a o' e)) (Nat.not_lt.mpr ha)
  have hD₀ : h₀.get? D = none := fresh _ (Nat.le_refl _)
  have hC₀ : h₀.get? C = none := fresh _ (by rw [hC]; exact Nat.le_succ _)
  have hLlt : L < D := hDd ▸ F.ns.lt
  have hDL : D ≠ L := Ne.symm (below L hLlt).2
  have hCL : C ≠ L := Ne.symm (below L hLlt).1
  have hCI : I ≠ C := (below I hIlt).1
  have hDI : I ≠ D := (below I hIlt).2
  have off₀ : Off3 I C D news := Off3.of fun p hp => ⟨off p hp, (below _ (szlt _ _ (N p hp).1)).1, (below _ (szlt _ _ (N p hp).1)).2⟩
  obtain ⟨oD₁, heD₁, hdD₁⟩ := Heap.dictOf_iff.mp hacc
  have loop : ∀ s₃ : Shared, s₃ = { s₂ with heap := h₁, toks := s₂.toks + ([] : List (Str × Value)).length } →
      codeAny (model prog w) A (.compLoop (.DictComp kx vx [⟨.Name x px, iter, [], 0⟩] scope pos) 0 (.ref I) (.ref D) (compEnvC scope cl C env)) (RR (.ref D) C) s₃ := by
    rintro s₃ rfl
    refine codeAny_compLoop_testsD
      (fun k s' => ∃ h' tk i kvs m' news' oD, s' = { s₂ with heap := h', toks := tk } ∧ i ≤ its.size ∧ k = its.size + 1 - i ∧ kvs.length ≤ i ∧ (h'.IsListIter I ax i ∧ h'.IsList ax its) ∧ Fr h₀ L h' m ∧ h'.Ns C m' ∧ oD.IsDictOf knd kvs ∧ News h₀ L h' ((D, oD) :: news') ∧
        Off3 I C D news' ∧ SrcAt h₀ ax its news' ∧ DRest prog w knd A h₀ L m env kx vx x scope cl s₂ (SrcAt h₀ ax its) (fun i v => its[i]? = some v) Fin (its.size - i) i kvs news') ?_ (its.size + 1)
      ⟨h₁, _, 0, [], _, news, oD₁, rfl, Nat.zero_le _, rfl, Nat.le_refl _, hst₁, F.keeps old, hns₁, hdD₁, fun p hp => ?_, off₀, hS, R⟩
    · rintro k s' ⟨h', tk, i, kvs, m', news', oD, rfl, hi, rfl, hyl, hst', F', hn', hdD, N', off', hS', R'⟩
      have off3 := off'.mem
      have offI : ∀ p ∈ (D, oD) :: news', p.1 ≠ I := fun p hp => by
        rcases List.mem_cons.mp hp with rfl | hp
        · exact Ne.symm hDI
        · exact (off3 p hp).1
      by_cases hlt : i < its.size
      · obtain ⟨j, hj⟩ : ∃ j, its.size - i = j + 1 := ⟨its.size - i - 1, by omega⟩
        rw [hj] at R'
        refine W.item i _ _ _ hlt hst' fun v h₂ tk₂ hPv hst₂ hk₂ => ?_
        refine wpAny_assign_Name (wpAny_storeName_local (lookup_relabel_local hx) (hn'.at' fun o e => hk₂ _ o (by simpa using Ne.symm hCI) e) (fun h₃ hn₃ hs₃ => ?_) (by simp [compEnvC, relabel, hkind]))
        refine wpAny_tests_nil ?_
        simp only [if_true]
        have hs₃' : Heap.SameBut C h₂ h₃ := hs₃
        have hst₃ := W.frame _ _ h₃ hst₂ fun b hb o e => hs₃'.extBut b o (fun q => hCf (q ▸ hb)) e
        obtain ⟨oI, heI, _⟩ := hst₃.1
        obtain ⟨oC, heC, hoC⟩ := ns_obj hn₃
        have F₃ : Fr h₀ L h₃ m := (fr_but F' hk₂ hIL hI₀).change hs₃' hCL hC₀
        have N₂ := news_but N' hk₂ offI
        have N₃ : News h₀ L h₃ ((I, oI) :: (C, oC) :: (D, oD) :: news') := fun p hp => by
          rcases List.mem_cons.mp hp with rfl | hp
          · exact ⟨heI, Ne.symm hIL, hI₀⟩
          · rcases List.mem_cons.mp hp with rfl | hp
            · exact ⟨heC, hCL, hC₀⟩
            · have z := N₂ p hp
              refine ⟨hs₃'.extBut _ _ ?_ z.1, z.2⟩
              rcases List.mem_cons.mp hp with rfl | hp
              · exact hDC
              · exact (off3 p hp).2.1
        refine wpAny_mono (R' v I oI C oC D oD _ h₃ _ _ hPv hoC (by simp) hdD F₃ N₃ off' ⟨hCI, hDI, Ne.symm hDC⟩) (fun kv s₄ h₄ => wpAny_mono h₄ (fun y s₅ h₅ => ?_) fun _ _ e => e) fun _ _ e => e
        obtain ⟨h₅, tk₅, news₅, kk, rfl, F₅, N₅, off₅, hS₅, hkk, R₅⟩ := h₅
        have zI := (N₅ (I, oI) List.mem_cons_self).1
        have zC := (N₅ (C, oC) (List.mem_cons_of_mem _ List.mem_cons_self)).1
        have zD := (N₅ (D, oD) (List.mem_cons_of_mem _ (List.mem_cons_of_mem _ List.mem_cons_self))).1
        have N₅' : News h₀ L h₅ news₅ := fun p hp => N₅ p (List.mem_cons_of_mem _ (List.mem_cons_of_mem _ (List.mem_cons_of_mem _ hp)))
        have hst₅ := list_st _ _ _ _ _ hst₃ heI zI F₅.keep N₅' hS₅
        have off5 := off₅.mem
        refine wpAny_dictSet_pairs (hsz := Nat.le_trans hyl (Nat.le_trans hi hsz)) hkk (Heap.dictOf_iff.mpr ⟨oD, zD, hdD⟩) fun h₆ hl₆ hs₆ => ?_
        obtain ⟨oD₆, heD₆, hdD₆⟩ := Heap.dictOf_iff.mp hl₆
        refine ⟨its.size + 1 - (i + 1), by omega, h₆, _, i + 1, stored kvs kk y, _, news₅, oD₆, rfl, hlt, rfl, Nat.le_trans (stored_length_le _ _ _) (Nat.succ_le_succ hyl), W.frame _ _ _ hst₅ fun b hb o e => hs₆.extBut b o (fun q => hDf (q ▸ hb)) e, F₅.change hs₆ hDL hD₀,
          (hoC.ns zC).sameBut hs₆ (Ne.symm hDC), hdD₆, fun p hp => ?_, off₅, hS₅, ?_⟩
        · rcases List.mem_cons.mp hp with rfl | hp
          · exact ⟨heD₆, hDL, hD₀⟩
          · exact ⟨hs₆.extBut _ _ (off5 p hp).2.2 (N₅' p hp).1, (N₅' p hp).2⟩
        · rw [show its.size - (i + 1) = j by omega]
          exact R₅
      · obtain rfl : i = its.size := Nat.le_antisymm hi (Nat.not_lt.mp hlt)
        rw [Nat.sub_self] at R'
        refine W.done _ _ _ hst' fun h₂ tk₂ hk₂ => ?_
        exact hRR D oD C h₂ tk₂ _ kvs news' hdD (fr_but F' hk₂ hIL hI₀) (news_but N' hk₂ offI) off'.one (hn'.at' fun o e => hk₂ _ o (by simpa using Ne.symm hCI) e) hC₀ hD₀ hCL hDL (Ne.symm hDC) (fun p hp => (off3 p hp).2.1) R'
    · rcases List.mem_cons.mp hp with rfl | hp
      · exact ⟨heD₁, hDL, hD₀⟩
      · exact ⟨old _ _ (N p hp).1, (N p hp).2⟩
  exact codeAny_compStart_dict (loop _ rfl) (W.self 0 _ _ _ hst₁ (loop _ rfl))
/-- the turns over a written list -/
def DRestL (prog : Program) (w : World) {Kk : Type} [DecidableEq Kk] (knd : KeyKind prog w Kk) (A : Around) (h₀ : Heap) (L : Addr) (m : Str → Option Value) (env : Env) (kx vx : Expr) (x : Str) (scope : Scope) (cl : List (Str × Addr)) (s : Shared) (S : List (Addr × Obj) → Prop)
    (Fin : List (Kk × Value) → List (Addr × Obj) → Prop) : List Value → List (Kk × Value) → List (Addr × Obj) → Prop
  | [], kvs, news => Fin kvs news
  | v :: r, kvs, news => ∀ I oI C oC D oD m₂ h tk (E' : Value → Shared → Prop), NsObj oC m₂ → m₂ x = some v → oD.IsDictOf knd kvs → Fr h₀ L h m → News h₀ L h ((I, oI) :: (C, oC) :: (D, oD) :: news) → Off3 I C D news → ((@Ne Nat I C) ∧ (@Ne Nat I D) ∧ (@Ne Nat C D)) →
      wpAny (model prog w) A (eval kx (compEnvC scope cl C env)) (fun kv s₄ => wpAny (model prog w) A (eval vx (compEnvC scope cl C env))
        (DEnd knd h₀ L m { s with heap := h, toks := tk } I oI C oC D oD S (fun kk y news' => DRestL prog w knd A h₀ L m env kx vx x scope cl s S Fin r (stored kvs kk y) news') kv) E' s₄) E' { s with heap := h, toks := tk }
theorem DEnd.mono {s₁ s₂ : Shared} {I C D : Addr} {oI oC oD : Obj} {S : List (Addr × Obj) → Prop} {R R' : Kk → Value → List (Addr × Obj) → Prop} {kv y : Value} (hR : ∀ kk y n, R kk y n → R' kk y n) (h : DEnd knd h₀ L m s₁ I oI C oC D oD S R kv y s₂) : DEnd knd h₀ L m s₁ I oI C oC D oD S R' kv y s₂ :=
  let ⟨h', tk, news', kk, e, F, N, o, hS, hk, r⟩ := h; ⟨h', tk, news', kk, e, F, N, o, hS, hk, hR _ _ _ r⟩
theorem drest_of {kx vx : Expr} {x : Str} {scope : Scope} {cl : List (Str × Addr)} {S : List (Addr × Obj) → Prop} {Fin : List (Kk × Value) → List (Addr × Obj) → Prop} {vs : List Value} : ∀ (r : List Value) (i : Nat) (kvs : List (Kk × Value)) (news : List (Addr × Obj)), vs.drop i = r →
    DRestL prog w knd A h₀ L m env kx vx x scope cl s S Fin r kvs news → DRest prog w knd A h₀ L m env kx vx x scope cl s S (fun i v => vs.toArray[i]? = some v) Fin r.length i kvs news
  | [], _, _, _, _, h => h
  | v :: r, i, kvs, news, e, h => by
    intro v' I oI C oC D oD m₂ hh tk E' hv hC hx hD F N off ne
    have hv' : vs[i]? = some v' := by simpa using hv
    have e2 : vs[i]? = some v := by
      have := congrArg List.head? e
      simpa [List.head?_drop] using this
    rw [hv'] at e2
    cases e2
    have e3 : vs.drop (i + 1) = r := by
      have := congrArg List.tail e
      simpa [List.tail_drop] using this
    exact wpAny_mono (h I oI C oC D oD m₂ hh tk E' hC hx hD F N off ne) (fun kv s₄ h₄ => wpAny_mono h₄ (fun y s₅ h₅ => DEnd.mono (fun kk y n q => drest_of r (i + 1) _ _ e3 q) h₅) fun _ _ z => z) fun _ _ z => z
/-- what the iterable of such a comprehension must be -/
def DSrc (prog : Program) (w : World) {Kk : Type} [DecidableEq Kk] (knd : KeyKind prog w Kk) (A : Around) (h₀ : Heap) (m : Str → Option Value) (env : Env) (kx vx : Expr) (x y : Str) (scope : Scope) (cl : List (Str × Addr)) (Q : Flow → Shared → Prop) (xv : Value) (s₁ : Shared) : Prop :=
  ∃ ax vs k news, xv = .ref ax ∧ A.handled = none ∧ Fr h₀ env.locals s₁.heap m ∧ News h₀ env.locals s₁.heap news ∧ (ax, ({ cls := .type "list", data := .seq vs.toArray k } : Obj)) ∈ news ∧ vs.length ≤ sizeLine ∧
      ∀ g, DRestL prog w knd A h₀ env.locals m env kx vx x scope cl { s₁ with heap := g } (SrcAt h₀ ax vs.toArray)
        (fun kvs news => ∀ D oD h tk, oD.IsDictOf knd kvs → Fr h₀ env.locals h (fun z => if z = y then some (.ref D) else m z) → News h₀ env.locals h ((D, oD) :: news) → Off1 D news → Q .next { s₁ with heap := h, toks := tk }) vs [] news
theorem DSrc.of {kx vx : Expr} {x y : Str} {scope : Scope} {cl : List (Str × Addr)} {Q : Flow → Shared → Prop} {ax : Addr} {vs : List Value} {k : Nat} {news : List (Addr × Obj)} {s₁ : Shared}
    (hh : A.handled = none) (F : Fr h₀ env.locals s₁.heap m) (N : News h₀ env.locals s₁.heap news) (hm : (ax, ({ cls := .type "list", data := .seq vs.toArray k } : Obj)) ∈ news) (hsz : vs.length ≤ sizeLine)
    (h : ∀ g, DRestL prog w knd A h₀ env.locals m env kx vx x scope cl { s₁ with heap := g } (SrcAt h₀ ax vs.toArray)
        (fun kvs news => ∀ D oD h tk, oD.IsDictOf knd kvs → Fr h₀ env.locals h (fun z => if z = y then some (.ref D) else m z) → News h₀ env.locals h ((D, oD) :: news) → Off1 D news → Q .next { s₁ with heap := h, toks := tk }) vs [] news) :
    DSrc prog w knd A h₀ m env kx vx x y scope cl Q (.ref ax) s₁ := ⟨ax, vs, k, news, rfl, hh, F, N, hm, hsz, h⟩
theorem DRestL.succ {kx vx : Expr} {x : Str} {scope : Scope} {cl : List (Str × Addr)} {S : List (Addr × Obj) → Prop} {Fin : List (Kk × Value) → List (Addr × Obj) → Prop} {v : Value} {r : List Value} {kvs : List (Kk × Value)} {news : List (Addr × Obj)}
    (h : ∀ I oI C oC D oD m₂ h tk (E' : Value → Shared → Prop), NsObj oC m₂ → m₂ x = some v → oD.IsDictOf knd kvs → Fr h₀ L h m → News h₀ L h ((I, oI) :: (C, oC) :: (D, oD) :: news) → Off3 I C D news → ((@Ne Nat I C) ∧ (@Ne Nat I D) ∧ (@Ne Nat C D)) →
      wpAny (model prog w) A (eval kx (compEnvC scope cl C env)) (fun kv s₄ => wpAny (model prog w) A (eval vx (compEnvC scope cl C env))
        (DEnd knd h₀ L m { s with heap := h, toks := tk } I oI C oC D oD S (fun kk y news' => DRestL prog w knd A h₀ L m env kx vx x scope cl s S Fin r (stored kvs kk y) news') kv) E' s₄) E' { s with heap := h, toks := tk }) :
    DRestL prog w knd A h₀ L m env kx vx x scope cl s S Fin (v :: r) kvs news := h
theorem DRestL.zero {kx vx : Expr} {x : Str} {scope : Scope} {cl : List (Str × Addr)} {S : List (Addr × Obj) → Prop} {Fin : List (Kk × Value) → List (Addr × Obj) → Prop} {kvs : List (Kk × Value)} {news : List (Addr × Obj)} (h : Fin kvs news) :
    DRestL prog w knd A h₀ L m env kx vx x scope cl s S Fin [] kvs news := h
theorem dend {s₁ : Shared} {I C D T : Addr} {oI oC oD o : Obj} {S : List (Addr × Obj) → Prop} {R : Kk → Value → List (Addr × Obj) → Prop} {kv y : Value} {kk : Kk} {news : List (Addr × Obj)} {h' : Heap} {tk : Nat} {X : Prop} (F : Fr h₀ L h' m) (N : News h₀ L h' ((T, o) :: (I, oI) :: (C, oC) :: (D, oD) :: news))
    (l : I < T ∧ C < T ∧ D < T ∧ X) (off : Off3 I C D news) (hS : S ((T, o) :: news)) (hk : knd.is kk kv = true) (r : R kk y ((T, o) :: news)) : DEnd knd h₀ L m s₁ I oI C oC D oD S R kv y { s₁ with heap := h', toks := tk } :=
  ⟨h', tk, (T, o) :: news, kk, rfl, F, fun p hp => N p (by
    simp only [List.mem_cons] at hp ⊢
    rcases hp with h | h | h | h | h <;> simp [h]), ⟨⟨Ne.symm (Nat.ne_of_lt l.1), Ne.symm (Nat.ne_of_lt l.2.1), Ne.symm (Nat.ne_of_lt l.2.2.1)⟩, off⟩, hS, hk, r⟩
/-- the name = {.. for x in iter}: a dict comprehension that closes over cells and makes new objects -/
theorem assign_dcomp {kx vx iter : Expr} {x y : Str} {px py : Pos} {scope : Scope} {cl : List (Str × Addr)} {pos spos : Pos} {Q : Flow → Shared → Prop} (_F₀ : Fr h₀ env.locals s.heap m)
    (hsw : swapsWith (.DictComp kx vx [⟨.Name x px, iter, [], 0⟩] scope pos) (some (.Name y py)) spos.line env = pure true)
    (hclos : closureFor scope env = pure cl) (hcell : ∀ z ∈ scope.names, z.2 ≠ .cell) (hkind : scope.kind = .function)
    (hnames : ∀ z ∈ scope.names, z.2 = .local → scope.names.lookup z.1 = some .local) (hx : scope.names.lookup x = some .local)
    (hy : env.kindOf y = some .local) (hp : (env.scope.kind == .class || (env.scope.kind == .module && env.locals != env.globals)) = false)
    (h : wpAny (model prog w) A (eval iter env) (DSrc prog w knd A h₀ m env kx vx x y scope cl Q) E s)
    (hs : ∀ x, foldedSetIterable iter env x = pure x := by intro _; rfl) :
    wpAny (model prog w) A (exec (.Assign [.Name y py] (.DictComp kx vx [⟨.Name x px, iter, [], 0⟩] scope pos) spos) env) Q E s := by
  rw [exec_Assign_Name_used _ _ _ _ hsw]
  refine wpAny_bind (wpAny_standAt (wpAny_bind ?_))
  show wpAny _ A (do let _ ← comprehension (.DictComp kx vx [⟨.Name x px, iter, [], 0⟩] scope pos) scope env _ newDict false (eval iter env) (some (assign (.Name y py) env))) _ _ s
  refine wpAny_bind (wpAny_mono (wpAny_comprehension_free (use := some (assign (.Name y py) env)) (Q := fun _ s' => Q .next s') rfl hs hclos hkind hnames
    (wpAny_mono h (fun xv s₁ h₁ => ?_) fun _ _ e => e)) (fun _ s' hq => wpAny_pure (wpAny_pure hq)) fun _ _ e => e)
  obtain ⟨ax, vs, k, news, rfl, hh, F, N, hm, hsz, R⟩ := h₁
  have S : SrcAt h₀ ax vs.toArray news := .inr ⟨_, hm, rfl, k, rfl⟩
  have hl := S.list F.keep N
  have hlt : ax < s₁.heap.objs.size := by obtain ⟨_, e, _⟩ := hl; exact Heap.lt_size e
  refine wpAny_pyIter_list hl ?_
  have up : ∀ b o, s₁.heap.get? b = some o → (s₁.heap.push { cls := .type "list_iterator", data := .fields #[.ref ax, .int 0 0] }).get? b = some o := fun b o e => Heap.get?_push_of_some _ e
  refine dblock (Walks.list hh s₁.heap.objs.size ax (Nat.ne_of_lt hlt) vs.toArray) (by simpa using hsz) hcell hkind hx ⟨⟨_, Heap.get?_push_size _ rfl, rfl, rfl⟩, hl.push _⟩ (fun b hb => ?_)
    (F.keeps up) (N.grown up) (Nat.ne_of_lt F.ns.lt) (next_is_new F) (fun p hp => Nat.ne_of_lt (Heap.lt_size (N p hp).1)) S (by simpa using drest_of vs 0 [] news rfl (R _)) ?_
  · show b < (s₁.heap.push _).objs.size
    rw [Heap.size_push]
    rcases List.mem_cons.mp hb with rfl | hb
    · exact Nat.lt_succ_self _
    · rw [List.mem_singleton.mp hb]; exact Nat.lt_succ_of_lt hlt
  · intro D oD C h' tk m' kvs news' hD F' N' o1 hn hC₀ hD₀ hCL hDL hCD offC fin
    show wpAny _ A (assign (.Name y py) env (.ref D)) _ _ _
    refine wpAny_assign_Name (wpAny_storeName_local hy F'.ns (fun h₂ hn₂ hs₂ => ?_) hp)
    have hL₀ : h₀.get? env.locals = none := Heap.get?_none_of_le F'.above
    have F₂ : Fr h₀ env.locals h₂ (fun z => if z = y then some (.ref D) else m z) := ⟨hn₂, fun b o e => hs₂.extBut b o (fun q => by rw [q, hL₀] at e; cases e) (F'.keep b o e), F'.above⟩
    refine ⟨m', hn.sameBut hs₂ hCL, fun h'' hs'' => fin D oD h'' _ hD (F₂.change hs'' hCL hC₀) (fun p hp => ?_) o1⟩
    have z : h₂.get? p.1 = some p.2 := hs₂.extBut _ _ (N' p hp).2.1 (N' p hp).1
    refine ⟨hs''.extBut _ _ ?_ z, (N' p hp).2⟩
    rcases List.mem_cons.mp hp with rfl | hp
    · exact Ne.symm hCD
    · exact offC p hp
end
end Mine
end
section
open PySem PySem.W PyProof.Rows
namespace Mine
/-! the plain law: what the Coptic date tells of the others -/
theorem copt_R {n : Int} (_hn : 2375940 ≤ n) : 0 ≤ coptR n ∧ coptR n < daysI (copt1 n) := by
  unfold coptR daysI copt1
  split <;> omega
theorem copt_mul {n : Int} : 4 * (n - 1825029) + 1463 = 1461 * copt1 n + (4 * (n - 1825029) + 1463) % 1461 := by unfold copt1; omega
theorem copt_pos {n : Int} (hn : 2375940 ≤ n) : 1508 ≤ copt1 n := by unfold copt1; omega
/-- the place in the year -/
theorem place_eq {n : Int} : 30 * (copt2 n - 1) + copt3 n = coptR n + 1 := by unfold copt2 copt3; omega
theorem copt_2 {n : Int} (hn : 2375940 ≤ n) : 1 ≤ copt2 n ∧ copt2 n ≤ 13 := by
  have h := copt_R hn
  unfold daysI at h
  unfold copt2
  split at h <;> omega
theorem copt_3 {n : Int} : 1 ≤ copt3 n ∧ copt3 n ≤ 30 := by unfold copt3; omega
theorem count_eq {n : Int} : 365 * (copt1 n - 1) + copt1 n / 4 + (coptR n + 1) - 97473 = n - 1922501 := by unfold coptR; omega
theorem loose_eq {n : Int} : (n - 1922501 - 1) / 365 = loose1 n ∧ ((n - 1922501 - 1) % 365 + 1 - 1) / 30 + 1 = loose2 n ∧ ((n - 1922501 - 1) % 365 + 1 - 1) % 30 + 1 = loose3 n := by
  unfold loose1 loose2 loose3; omega
theorem fourth_core {n : Int} : movY (copt1 n) (coptR n + 1) 13 - 1508 = freY (-1) (n - 2375839 + 365) ∧ movP (copt1 n) (coptR n + 1) 13 - 1 = freR (n - 2375839 + 365) := by
  obtain ⟨q, hq⟩ : ∃ q, (n - 2375839 + 365) / 1461 = q := ⟨_, rfl⟩
  obtain ⟨r, hr⟩ : ∃ r, (n - 2375839 + 365) % 1461 = r := ⟨_, rfl⟩
  have hn : n = 1461 * q + r + 2375474 := by omega
  have hr0 : 0 ≤ r ∧ r < 1461 := by omega
  obtain ⟨e, he⟩ : ∃ e, (4 * r + 55) / 1461 = e := ⟨_, rfl⟩
  have hY : copt1 n = 4 * q + 1508 + e := by unfold copt1; omega
  have hR : coptR n = n - 1825029 - 365 * (copt1 n - 1) - copt1 n / 4 := rfl
  rw [hY] at hR
  unfold movY movP freY freR daysI
  rw [hr, hq, hY, hR, hn]
  clear hR hY hq hr hn
  have h5 : e = 0 ∨ e = 1 ∨ e = 2 ∨ e = 3 ∨ e = 4 := by omega
  rcases h5 with rfl | rfl | rfl | rfl | rfl <;> (refine ⟨?_, ?_⟩ <;> (repeat' split) <;> omega)
theorem fourth_eq {n : Int} : movY (copt1 n) (coptR n + 1) 13 - 1508 = freY (-1) (n - 2375839 + 365) ∧
    (movP (copt1 n) (coptR n + 1) 13 - 1) / 30 + 1 = freM (n - 2375839 + 365) ∧ (movP (copt1 n) (coptR n + 1) 13 - 1) % 30 + 1 = freD (n - 2375839 + 365) := by
  obtain ⟨h1, h2⟩ := @fourth_core n
  rw [h2]
  refine ⟨h1, rfl, ?_⟩
  unfold freD; omega
theorem sark_core {n : Int} (hn : 2375940 ≤ n) : movY (copt1 n) (coptR n + 1) 347 - 267 = sark1 n ∧ movP (copt1 n) (coptR n + 1) 347 = sarkR n := by
  obtain ⟨q, hq⟩ : ∃ q, (n - 2117210) / 1461 = q := ⟨_, rfl⟩
  obtain ⟨r, hr⟩ : ∃ r, (n - 2117210) % 1461 = r := ⟨_, rfl⟩
  have hn2 : n = 1461 * q + r + 2117210 := by omega
  have hr0 : 0 ≤ r ∧ r < 1461 := by omega
  obtain ⟨e, he⟩ : ∃ e, 4 * r / 1461 = e := ⟨_, rfl⟩
  obtain ⟨f, hf⟩ : ∃ f, (4 * (292181 + r) + 1463) / 1461 = f := ⟨_, rfl⟩
  have hS : sarkY n = 4 * q + e := by unfold sarkY; omega
  have hY : copt1 n = 4 * q + f := by unfold copt1; omega
  have hR : coptR n = n - 1825029 - 365 * (copt1 n - 1) - copt1 n / 4 := rfl
  have hD : sarkD n = n - 2117210 - (365 * sarkY n + sarkY n / 4) := rfl
  rw [hY] at hR
  rw [hS] at hD
  unfold movY movP sark1 sarkR daysI
  rw [hD, hS, hY, hR, hn2]
  clear hR hY hq hr hn2 hS hD
  have h5 : e = 0 ∨ e = 1 ∨ e = 2 ∨ e = 3 := by omega
  have h6 : f = 800 ∨ f = 801 ∨ f = 802 ∨ f = 803 ∨ f = 804 ∨ f = 805 := by omega
  rcases h5 with rfl | rfl | rfl | rfl <;> rcases h6 with rfl | rfl | rfl | rfl | rfl | rfl <;> first | (exfalso; omega) | (refine ⟨?_, ?_⟩ <;> (repeat' split) <;> omega)
theorem sark_eq {n : Int} : (sarkR n - 1) / 30 + 1 = sark2 n ∧ (sarkR n - 1) % 30 + 1 = sark3 n := by unfold sark2 sark3; omega
theorem romme_core {n : Int} (hn : 2375940 ≤ n) (hf : movY (copt1 n) (coptR n + 1) 13 - 1508 ≤ 98) :
    aheY (movY (copt1 n) (coptR n + 1) 13 - 1508) (movP (copt1 n) (coptR n + 1) 13) 16 = freY (romB' n) (romJ' n) ∧ aheP (movY (copt1 n) (coptR n + 1) 13 - 1508) (movP (copt1 n) (coptR n + 1) 13) 16 - 1 = freR (romJ' n) := by
  obtain ⟨h1, h2⟩ := @fourth_core n
  have h3 : movP (copt1 n) (coptR n + 1) 13 = freR (n - 2375839 + 365) + 1 := by omega
  rw [h1] at hf ⊢
  rw [h3]
  clear h1 h2 h3
  obtain ⟨q, hq⟩ : ∃ q, (n - 2375839 + 365) / 1461 = q := ⟨_, rfl⟩
  obtain ⟨r, hr⟩ : ∃ r, (n - 2375839 + 365) % 1461 = r := ⟨_, rfl⟩
  have hn2 : n = 1461 * q + r + 2375474 := by omega
  have hr0 : 0 ≤ r ∧ r < 1461 := by omega
  obtain ⟨k, hk⟩ : ∃ k, (if r = 1460 then (3 : Int) else r / 365) = k := ⟨_, rfl⟩
  obtain ⟨d, hd⟩ : ∃ d, (if r = 1460 then (365 : Int) else r % 365) = d := ⟨_, rfl⟩
  have hrk : r = 365 * k + d ∧ 0 ≤ k ∧ k ≤ 3 ∧ 0 ≤ d ∧ d ≤ 365 ∧ (d = 365 → k = 3) := by
    subst hk; subst hd; split <;> omega
  have hY : freY (-1) (n - 2375839 + 365) = 4 * q + k := by unfold freY; rw [hq, hr, hk]; omega
  have hP : freR (n - 2375839 + 365) = d := by unfold freR; rw [hr, hd]
  rw [hY] at hf ⊢
  rw [hP]
  clear hY hP hq hr hk hd
  by_cases hlo : n ≤ 2380222
  · have e1 : romB' n = -1 := by unfold romB'; rw [if_pos hlo]
    have e2 : romJ' n = 1461 * q + r := by unfold romJ'; rw [if_pos hlo]; omega
    rw [e1, e2]
    unfold aheY aheP freY freR
    have h5 : k = 0 ∨ k = 1 ∨ k = 2 ∨ k = 3 := by omega
    rcases h5 with rfl | rfl | rfl | rfl <;> (refine ⟨?_, ?_⟩ <;> (repeat' split) <;> omega)
  · have g0 : 0 < n - 2380222 ∧ n - 2380222 < 36524 := by omega
    have g1 : (n - 2380222) % 1460969 = n - 2380222 := by omega
    have g2 : (n - 2380222) % 1460969 % 146097 = n - 2380222 := by omega
    have g3 : (n - 2380222) % 1460969 % 146097 % 36524 = n - 2380222 := by omega
    have e1 : romB' n = 12 := by unfold romB'; rw [if_neg hlo]; unfold romB; rw [g2, g1]; omega
    have e2 : romJ' n = 1461 * q + r - 4748 := by unfold romJ'; rw [if_neg hlo]; unfold romJ; rw [g3]; omega
    rw [e1, e2]
    unfold aheY aheP freY freR
    clear e1 e2
    have h5 : k = 0 ∨ k = 1 ∨ k = 2 ∨ k = 3 := by omega
    rcases h5 with rfl | rfl | rfl | rfl <;> (refine ⟨?_, ?_⟩ <;> (repeat' split) <;> omega)
theorem madler_core {n : Int} (hn : 2375940 ≤ n) (hf : movY (copt1 n) (coptR n + 1) 13 - 1508 ≤ 126) :
    aheY (movY (copt1 n) (coptR n + 1) 13 - 1508) (movP (copt1 n) (coptR n + 1) 13) 20 = freY (madB' n) (madJ' n) ∧ aheP (movY (copt1 n) (coptR n + 1) 13 - 1508) (movP (copt1 n) (coptR n + 1) 13) 20 - 1 = freR (madJ' n) := by
  obtain ⟨h1, h2⟩ := @fourth_core n
  have h3 : movP (copt1 n) (coptR n + 1) 13 = freR (n - 2375839 + 365) + 1 := by omega
  rw [h1] at hf ⊢
  rw [h3]
  clear h1 h2 h3
  obtain ⟨q, hq⟩ : ∃ q, (n - 2375839 + 365) / 1461 = q := ⟨_, rfl⟩
  obtain ⟨r, hr⟩ : ∃ r, (n - 2375839 + 365) % 1461 = r := ⟨_, rfl⟩
  have hn2 : n = 1461 * q + r + 2375474 := by omega
  have hr0 : 0 ≤ r ∧ r < 1461 := by omega
  obtain ⟨k, hk⟩ : ∃ k, (if r = 1460 then (3 : Int) else r / 365) = k := ⟨_, rfl⟩
  obtain ⟨d, hd⟩ : ∃ d, (if r = 1460 then (365 : Int) else r % 365) = d := ⟨_, rfl⟩
  have hrk : r = 365 * k + d ∧ 0 ≤ k ∧ k ≤ 3 ∧ 0 ≤ d ∧ d ≤ 365 ∧ (d = 365 → k = 3) := by
    subst hk; subst hd; split <;> omega
  have hY : freY (-1) (n - 2375839 + 365) = 4 * q + k := by unfold freY; rw [hq, hr, hk]; omega
  have hP : freR (n - 2375839 + 365) = d := by unfold freR; rw [hr, hd]
  rw [hY] at hf ⊢
  rw [hP]
  clear hY hP hq hr hk hd
  by_cases hlo : n ≤ 2382048
  · have e1 : madB' n = -1 := by unfold madB'; rw [if_pos hlo]
    have e2 : madJ' n = 1461 * q + r := by unfold madJ'; rw [if_pos hlo]; omega
    rw [e1, e2]
    unfold aheY aheP freY freR
    have h5 : k = 0 ∨ k = 1 ∨ k = 2 ∨ k = 3 := by omega
    rcases h5 with rfl | rfl | rfl | rfl <;> (refine ⟨?_, ?_⟩ <;> (repeat' split) <;> omega)
  · have e1 : madB' n = 16 := by unfold madB'; rw [if_neg hlo]; unfold madB; omega
    have e2 : madJ' n = 1461 * q + r - 6209 := by unfold madJ'; rw [if_neg hlo]; unfold madJ; omega
    rw [e1, e2]
    unfold aheY aheP freY freR
    clear e1 e2
    have h5 : k = 0 ∨ k = 1 ∨ k = 2 ∨ k = 3 := by omega
    rcases h5 with rfl | rfl | rfl | rfl <;> (refine ⟨?_, ?_⟩ <;> (repeat' split) <;> omega)
theorem fre_of {y J p : Int} (h : p - 1 = freR J) : (p - 1) / 30 + 1 = freM J ∧ (p - 1) % 30 + 1 = freD J := by
  rw [h]; refine ⟨rfl, ?_⟩; unfold freD; omega
theorem lc_back {k : Int} : k / 144000 * 144000 + k % 144000 / 7200 * 7200 + k % 7200 / 360 * 360 + k % 360 / 20 * 20 + k % 20 = k := by omega
theorem haab_eq {n : Int} : (n - 1922501 + 112) % 365 = (n - 584282 + 348) % 365 := by omega
theorem tz1_eq {k : Int} : (12 * (k / 144000) + 11 * (k % 144000 / 7200) + 9 * (k % 7200 / 360) + 7 * (k % 360 / 20) + k % 20 + 3) % 13 + 1 = tz1 k := by
  have h := @lc_back k
  generalize k / 144000 = b at *
  generalize k % 144000 / 7200 = c at *
  generalize k % 7200 / 360 = d at *
  generalize k % 360 / 20 = e at *
  generalize k % 20 = f at *
  subst h
  unfold tz1 amodI
  split <;> omega
theorem tz2_eq {k : Int} : (k % 20 + 19) % 20 = amodI (k + 20) 20 - 1 := by
  unfold amodI
  split <;> omega
theorem mayan_eq {k : Int} : k / 7200 % 20 = k % 144000 / 7200 ∧ k / 360 % 20 = k % 7200 / 360 ∧ k / 20 % 18 = k % 360 / 20 := by omega
end Mine
end
section
open PySem PySem.W PyProof.Rows
namespace Mine
section
variable {prog : Program} {w : World} {A : Around} {E : Value → Shared → Prop} {s : Shared} {env : Env} {h₀ : Heap} {x : Str} {body : List Stmt} {Q : Flow → Shared → Prop}
theorem unr_mono {L I : Addr} {it : Obj} {R R' : (Str → Option Value) → List (Addr × Obj) → Prop} {s₁ s₂ : Shared} {f : Flow} (hR : ∀ m n, R m n → R' m n) (h : UnrPost h₀ L s₁ I it R Q f s₂) : UnrPost h₀ L s₁ I it R' Q f s₂ := by
  have go : UnrEnd h₀ L s₁ I it R s₂ → UnrEnd h₀ L s₁ I it R' s₂ := fun ⟨h', tk, m', news', e, F, N, o, r⟩ => ⟨h', tk, m', news', e, F, N, o, hR _ _ r⟩
  cases f with
  | ret v => exact h
  | brk => exact h
  | next => exact go h
  | cont => exact go h
/-- a `for` over a range, by an invariant of the frame and the ledger -/
theorem rng_inv {r : Addr} {a₀ b₀ c : Int} {t₀ u₀ v₀ : Tok} {n : Nat} {m₀ : Str → Option Value} {news : List (Addr × Obj)} (J : Nat → (Str → Option Value) → List (Addr × Obj) → Prop)
    (hh : A.handled = none) (hr : IsRange s.heap r a₀ b₀ c t₀ u₀ v₀) (hsmall : Builtin.Range.small a₀ b₀ c = true) (hn : Builtin.Range.rangeSize a₀ b₀ c = (n : Int)) (F : Fr h₀ env.locals s.heap m₀) (N : News h₀ env.locals s.heap news)
    (j0 : J 0 m₀ news)
    (fin : ∀ m nw h tk, J n m nw → Fr h₀ env.locals h m → News h₀ env.locals h nw → Q .next { s with heap := h, toks := tk })
    (step : ∀ I : Addr, (∀ p ∈ news, p.1 < I) → ∀ i, i < n → ∀ m nw t h tk, J i m nw → Fr h₀ env.locals h (fun y => if y = x then some (.int (a₀ + (i : Int) * c) t) else m y) →
      News h₀ env.locals h ((I, krsIt (a₀ + ((i + 1 : Nat) : Int) * c) ((n : Int) - ((i + 1 : Nat) : Int)) c) :: nw) →
      wpAny (model prog w) A (execs body env) (UnrPost h₀ env.locals { s with heap := h, toks := tk } I (krsIt (a₀ + ((i + 1 : Nat) : Int) * c) ((n : Int) - ((i + 1 : Nat) : Int)) c) (J (i + 1)) Q) E { s with heap := h, toks := tk }) :
    wpAny (model prog w) A (pyIter (.ref r)) (fun it s₂ => LoopAtV prog w A h₀ env x body Q E it s₂) E s := by
  refine krs_iter hh hr hsmall hn F N fun I hI => ?_
  have go : ∀ k i, i + k = n → ∀ m nw, J i m nw → KrsRest prog w A E h₀ env x body Q s I a₀ c n k i m nw := by
    intro k
    induction k with
    | zero =>
      intro i hi m nw hJ
      refine KrsRest.zero fun h tk F' N' => fin m nw h tk ?_ F' N'
      rw [← hi]; exact hJ
    | succ k ih =>
      intro i hi m nw hJ
      refine KrsRest.succ rfl fun t h tk F' N' => ?_
      exact wpAny_mono (step I hI i (by omega) m nw t h tk hJ F' N') (fun f s₂ p => unr_mono (fun m' n' q => ih (i + 1) (by omega) m' n' q) p) fun _ _ e => e
  exact go n 0 (by omega) m₀ news j0
/-- the rounds of range(0, max(1, len), 3) -/
theorem rounds (N : Nat) (hN : N ≤ 12) : Builtin.Range.rangeSize 0 (if (N : Int) > 1 then (N : Int) else 1) 3 = (((max 1 N + 2) / 3 : Nat) : Int) := by
  have : N = 0 ∨ N = 1 ∨ N = 2 ∨ N = 3 ∨ N = 4 ∨ N = 5 ∨ N = 6 ∨ N = 7 ∨ N = 8 ∨ N = 9 ∨ N = 10 ∨ N = 11 ∨ N = 12 := by omega
  rcases this with h | h | h | h | h | h | h | h | h | h | h | h | h <;> subst h <;> decide +kernel
theorem roundsSmall (N : Nat) (hN : N ≤ 12) : Builtin.Range.small 0 (if (N : Int) > 1 then (N : Int) else 1) 3 = true := by
  have : N = 0 ∨ N = 1 ∨ N = 2 ∨ N = 3 ∨ N = 4 ∨ N = 5 ∨ N = 6 ∨ N = 7 ∨ N = 8 ∨ N = 9 ∨ N = 10 ∨ N = 11 ∨ N = 12 := by omega
  rcases this with h | h | h | h | h | h | h | h | h | h | h | h | h <;> subst h <;> decide +kernel
end
/-- what stays from turn to turn of the law's loop: the numbers and the three cells -/
def LawJ (D : Addr) (ws : List Value) (c1 c2 c3 : Addr) (_ : Nat) (m : Str → Option Value) (nw : List (Addr × Obj)) : Prop :=
  m (PySem.Str.ofString "numbers") = some (.ref D) ∧ ∃ o1 o2 o3 x1 x2 x3, nw = [(D, W.listOf ws.toArray 0), (c3, o3), (c2, o2), (c1, o1)] ∧ o1.data = .cell x1 ∧ o2.data = .cell x2 ∧ o3.data = .cell x3
theorem LawJ.intro {D : Addr} {ws : List Value} {c1 c2 c3 : Addr} {i : Nat} {m : Str → Option Value} {o1 o2 o3 : Obj} {x1 x2 x3 : Option Value} (h : m (PySem.Str.ofString "numbers") = some (.ref D)) (h1 : o1.data = .cell x1) (h2 : o2.data = .cell x2) (h3 : o3.data = .cell x3) :
    LawJ D ws c1 c2 c3 i m [(D, W.listOf ws.toArray 0), (c3, o3), (c2, o2), (c1, o1)] := ⟨h, _, _, _, _, _, _, rfl, h1, h2, h3⟩
section
variable {prog : Program} {w : World} {A : Around} {E : Value → Shared → Prop} {s : Shared} {env : Env} {h₀ : Heap} {body : List Stmt} {Q : Flow → Shared → Prop}
theorem lawRng {r D c1 c2 c3 : Addr} {t₀ u₀ v₀ : Tok} {N : Nat} {m₀ : Str → Option Value} {ws : List Value} {o1 o2 o3 : Obj} {x1 x2 x3 : Option Value} {p1 p3 p4 : Addr × Obj}
    (hh : A.handled = none) (hr : IsRange s.heap r 0 (if (N : Int) > 1 then (N : Int) else 1) 3 t₀ u₀ v₀) (hN : N ≤ 12) (F : Fr h₀ env.locals s.heap m₀)
    (Nw : News h₀ env.locals s.heap [p1, (D, W.listOf ws.toArray 0), p3, p4, (c3, o3), (c2, o2), (c1, o1)]) (hm : m₀ (PySem.Str.ofString "numbers") = some (.ref D)) (d1 : o1.data = .cell x1) (d2 : o2.data = .cell x2) (d3 : o3.data = .cell x3)
    (fin : ∀ m nw h tk, Fr h₀ env.locals h m → News h₀ env.locals h nw → Q .next { s with heap := h, toks := tk })
    (step : ∀ (I : Addr) (K : Int) (J : (Str → Option Value) → List (Addr × Obj) → Prop) (it : Obj) (m : Str → Option Value) t h tk o1 o2 o3 x1 x2 x3, 0 ≤ K → K ≤ N → K < 12 → it.cls = .type "range_iterator" →
      (∀ m nw, LawJ D ws c1 c2 c3 0 m nw → J m nw) → (∀ p ∈ [(D, W.listOf ws.toArray 0), (c3, o3), (c2, o2), (c1, o1)], p.1 < I) → o1.data = .cell x1 → o2.data = .cell x2 → o3.data = .cell x3 →
      Fr h₀ env.locals h (fun y => if y = PySem.Str.ofString "at" then some (.int K t) else if y = PySem.Str.ofString "numbers" then some (.ref D) else m y) →
      News h₀ env.locals h [(I, it), (D, W.listOf ws.toArray 0), (c3, o3), (c2, o2), (c1, o1)] →
      wpAny (model prog w) A (execs body env) (UnrPost h₀ env.locals { s with heap := h, toks := tk } I it J Q) E { s with heap := h, toks := tk }) :
    wpAny (model prog w) A (pyIter (.ref r)) (fun it s₂ => LoopAtV prog w A h₀ env (PySem.Str.ofString "at") body Q E it s₂) E s := by
  have Nw' : News h₀ env.locals s.heap [(D, W.listOf ws.toArray 0), (c3, o3), (c2, o2), (c1, o1)] := fun p hp => Nw p (by
    simp only [List.mem_cons, List.mem_nil_iff, or_false] at hp ⊢
    rcases hp with h | h | h | h <;> simp [h])
  refine rng_inv (LawJ D ws c1 c2 c3) hh hr (roundsSmall N hN) (rounds N hN) F Nw' ⟨hm, _, _, _, _, _, _, rfl, d1, d2, d3⟩ (fun m nw h tk _ F' N' => fin m nw h tk F' N') (fun I hI i hi m nw t h tk hJ F' N' => ?_)
  obtain ⟨hm', o1', o2', o3', y1, y2, y3, e, e1, e2, e3⟩ := hJ
  subst e
  have hK : (0 : Int) + (i : Int) * 3 < 12 ∧ (0 : Int) + (i : Int) * 3 ≤ N ∧ 0 ≤ (0 : Int) + (i : Int) * 3 := by omega
  refine step I _ _ _ m t h tk o1' o2' o3' y1 y2 y3 hK.2.2 hK.2.1 hK.1 rfl (fun m nw h => h) (fun p hp => ?_) e1 e2 e3 ?_ N'
  · simp only [List.mem_cons, List.mem_nil_iff, or_false] at hp
    rcases hp with rfl | rfl | rfl | rfl
    · exact hI (D, W.listOf ws.toArray 0) (by simp)
    · exact hI (c3, o3) (by simp)
    · exact hI (c2, o2) (by simp)
    · exact hI (c1, o1) (by simp)
  · have : (fun y => if y = PySem.Str.ofString "at" then some (Value.int (0 + (i : Int) * 3) t) else if y = PySem.Str.ofString "numbers" then some (.ref D) else m y) = (fun y => if y = PySem.Str.ofString "at" then some (Value.int (0 + (i : Int) * 3) t) else m y) := by
      funext y
      by_cases h : y = PySem.Str.ofString "numbers"
      · subst h; rw [hm']; simp
      · rw [if_neg h]
    rw [this]
    exact F'
end
section
variable {prog : Program} {w : World} {A : Around} {E : Value → Shared → Prop} {s : Shared} {h₀ : Heap} {L : Addr} {m : Str → Option Value} {news : List (Addr × Obj)} {Q : Value → Shared → Prop} {a b : Int} {t u : Tok}
theorem r_mod_any (hb : 0 < b) (h : ∀ r, 0 ≤ r → r < b → Q (.int r s.toks) { s with toks := s.toks + 1 }) : wpAny (model prog w) A (binaryOp .Mod (.int a t) (.int b u)) Q E s :=
  r_mod_ii hb (h _ (Int.emod_nonneg _ (by omega)) (Int.emod_lt_of_pos _ hb))
theorem divmod_any (F : Fr h₀ L s.heap m) (N : News h₀ L s.heap news) (hb : 0 < b) (hb2 : b < 1000)
    (h : ∀ D q r t1 t2 h' tk', 0 ≤ r → r < b → (∀ p ∈ news, p.1 < D) → Fr h₀ L h' m → News h₀ L h' ((D, tupOf [.int q t1, .int r t2] 0) :: news) → Q (.ref D) { s with toks := tk', heap := h' }) :
    wpAny (model prog w) A (call (.builtin "divmod") [.int a t, .int b u]) Q E s :=
  divmod_N F N (by omega) (fun h' F' N' => h _ _ _ _ _ h' _ (by rw [Int.fmod_eq_emod_of_nonneg _ (Int.le_of_lt hb)]; exact Int.emod_nonneg _ (by omega)) (by rw [Int.fmod_eq_emod_of_nonneg _ (Int.le_of_lt hb)]; exact Int.emod_lt_of_pos _ hb) (fun p hp => Heap.lt_size (N p hp).1) F' N')
    (.inl (PyProof.noPylong_small (by omega)))
theorem join_feb {M : Model} {cn : Str} {cs : Scope} {af : Addr} {ccd : Value} {cl : List (Str × Addr)} {c : Addr} {o : Obj} {Y : Int} {ty : Tok} {e : Expr} (N : News h₀ L s.heap news) (hc : cl.lookup (PySem.Str.ofString "year") = some c) (hm : (c, o) ∈ news) (hd : o.data = .cell (some (.int Y ty)))
    (inner : ∀ Q' : Value → Shared → Prop, (∀ t' tk', Q' (.int (if leapP Y then 29 else 28) t') { s with toks := tk' }) → wpAny M A (eval e (envX cn cs L af ccd cl)) Q' E s)
    (h : ∀ t' tk', Q (.int (if leapP Y then 29 else 28) t') { s with toks := tk' }) : wpAny M A (eval e (envX cn cs L af ccd cl)) Q E s := inner Q h
theorem join_miss {M : Model} {cn : Str} {cs : Scope} {af : Addr} {ccd : Value} {cl : List (Str × Addr)} {l : Int} {ty : Tok} {e : Expr} (F : Fr h₀ L s.heap m) (hv : m (PySem.Str.ofString "length") = some (.int l ty))
    (inner : ∀ Q' : Value → Shared → Prop, (∀ x t' tk', (x < 1 ∨ l < x) → -100 < x → x < 100 → Q' (.int x t') { s with toks := tk' }) → wpAny M A (eval e (envX cn cs L af ccd cl)) Q' E s)
    (h : ∀ x t' tk', (x < 1 ∨ l < x) → -100 < x → x < 100 → Q (.int x t') { s with toks := tk' }) : wpAny M A (eval e (envX cn cs L af ccd cl)) Q E s := inner Q h
theorem feb_yes {Y : Int} {t : Tok} {tk : Nat} (hQ : ∀ t' tk', Q (.int (if leapP Y then 29 else 28) t') { s with toks := tk' }) (h : leapP Y) : Q (.int 29 t) { s with toks := tk } := by
  have := hQ t tk
  rwa [if_pos h] at this
theorem feb_no {Y : Int} {t : Tok} {tk : Nat} (hQ : ∀ t' tk', Q (.int (if leapP Y then 29 else 28) t') { s with toks := tk' }) (h : ¬ leapP Y) : Q (.int 28 t) { s with toks := tk } := by
  have := hQ t tk
  rwa [if_neg h] at this
theorem miss_hi {l r : Int} {t : Tok} {tk : Nat} (hQ : ∀ x t' tk', (x < 1 ∨ l < x) → -100 < x → x < 100 → Q (.int x t') { s with toks := tk' }) (h1 : 0 ≤ r) (h2 : r < 50) (h3 : l ≤ 31) (h4 : 28 ≤ l) : Q (.int (l + 1 + r) t) { s with toks := tk } := hQ _ _ _ (by omega) (by omega) (by omega)
theorem miss_lo {l r : Int} {t : Tok} {tk : Nat} (hQ : ∀ x t' tk', (x < 1 ∨ l < x) → -100 < x → x < 100 → Q (.int x t') { s with toks := tk' }) (h1 : 0 ≤ r) (h2 : r < 50) : Q (.int (-r) t) { s with toks := tk } := hQ _ _ _ (by omega) (by omega) (by omega)
theorem leap_A {Y : Int} (h : Y % 4 = 0) (h2 : 0 < Y % 25) : leapP Y := by unfold leapP; omega
theorem leap_B {Y : Int} (h : Y % 16 = 0) : leapP Y := by unfold leapP; omega
theorem leap_C {Y : Int} (h2 : ¬ 0 < Y % 25) (h : Y % 16 ≠ 0) : ¬ leapP Y := by unfold leapP; omega
theorem leap_D {Y : Int} (h : Y % 4 ≠ 0) : ¬ leapP Y := by unfold leapP; omega
theorem len_dim {Y r : Int} (h1 : 0 ≤ r) (h2 : r < 12) : ([31, (if leapP Y then 29 else 28), 31, 30, 31, 30, 31, 31, 30, 31, 30, 31] : List Int).getD (1 + r - 1).toNat 0 = dim Y (1 + r) := by
  have : r = 0 ∨ r = 1 ∨ r = 2 ∨ r = 3 ∨ r = 4 ∨ r = 5 ∨ r = 6 ∨ r = 7 ∨ r = 8 ∨ r = 9 ∨ r = 10 ∨ r = 11 := by omega
  rcases this with h | h | h | h | h | h | h | h | h | h | h | h <;> subst h <;> simp [dim]
theorem store_len {M : Model} {env : Env} {x : Str} {Y r : Int} {Q : Unit → Shared → Prop} (h1 : 0 ≤ r) (h2 : r < 12) (h : dim Y (1 + r) ≤ 31 → 28 ≤ dim Y (1 + r) → wpAny M A (storeName env x (.int (dim Y (1 + r)) t)) Q E s) :
    wpAny M A (storeName env x (.int (([31, (if leapP Y then 29 else 28), 31, 30, 31, 30, 31, 31, 30, 31, 30, 31] : List Int).getD (1 + r - 1).toNat 0) t)) Q E s := by
  rw [len_dim h1 h2]
  exact h (dim_le _ _) (dim_ge _ _)
end
section
variable {M : Model} {A : Around} {E : Value → Shared → Prop} {s : Shared} {h₀ : Heap} {L a : Addr} {m : Str → Option Value} {cn : Str} {cs : Scope} {ccd : Value} {cl : List (Str × Addr)} {x : Str} {v : Value} {Q : Value → Shared → Prop}
theorem loadX_C {c : Addr} {o : Obj} {news : List (Addr × Obj)} (N : News h₀ L s.heap news) (hc : cl.lookup x = some c) (hm : (c, o) ∈ news) (hd : o.data = .cell (some v)) (h : Q v s) (hk : cs.kind = .function) (hx : (envX cn cs L a ccd cl).kindOf x = some .cell) : wpAny M A (loadName (envX cn cs L a ccd cl) x) Q E s := wpAny_loadName_cell hk hx hc ⟨o, N.get hm, hd⟩ h
theorem loadX_L (F : Fr h₀ L s.heap m) (hv : m x = some v) (h : Q v s) (hk : cs.kind = .function) (hx : (envX cn cs L a ccd cl).kindOf x = some .local) : wpAny M A (loadName (envX cn cs L a ccd cl) x) Q E s := wpAny_loadName_local hk hx F.ns hv h
end
def AllV (P : Value → Prop) : List Value → Prop
  | [] => True
  | v :: r => P v ∧ AllV P r
/-- what a turn of an inner loop keeps: the ledger and every other name -/
def KeepJ (x : Str) (m₀ : Str → Option Value) (news : List (Addr × Obj)) (m : Str → Option Value) (nw : List (Addr × Obj)) : Prop := nw = news ∧ ∀ y, y ≠ x → m y = m₀ y
section
variable {prog : Program} {w : World} {A : Around} {E : Value → Shared → Prop} {s : Shared} {env : Env} {h₀ : Heap} {x : Str} {body : List Stmt} {Q : Flow → Shared → Prop}
theorem list_inv {ax : Addr} {lo : Obj} {vs : List Value} {n : Nat} {m₀ : Str → Option Value} {news : List (Addr × Obj)}
    (hh : A.handled = none) (F : Fr h₀ env.locals s.heap m₀) (N : News h₀ env.locals s.heap news) (hm : (ax, lo) ∈ news) (hc : lo.cls = .type "list") (hd : lo.data = .seq vs.toArray n)
    (fin : ∀ v h tk, Fr h₀ env.locals h (fun y => if y = x then v else m₀ y) → News h₀ env.locals h news → Q .next { s with heap := h, toks := tk })
    (step : AllV (fun v => ∀ (I : Addr) (it : Obj) h tk, it.cls = .type "list_iterator" → (∀ p ∈ news, p.1 < I) → Fr h₀ env.locals h (fun y => if y = x then some v else m₀ y) → News h₀ env.locals h ((I, it) :: news) →
      wpAny (model prog w) A (execs body env) (UnrPost h₀ env.locals { s with heap := h, toks := tk } I it (KeepJ x m₀ news) Q) E { s with heap := h, toks := tk }) vs) :
    wpAny (model prog w) A (pyIter (.ref ax)) (fun it s₂ => LoopAtV prog w A h₀ env x body Q E it s₂) E s := by
  refine iter_listUnr hh F N hm hc hd fun I hI => ?_
  have eqm : ∀ (m : Str → Option Value) (v : Option Value), (∀ y, y ≠ x → m y = m₀ y) → (fun y => if y = x then v else m y) = (fun y => if y = x then v else m₀ y) := by
    intro m v h
    funext y
    by_cases e : y = x
    · rw [if_pos e, if_pos e]
    · rw [if_neg e, if_neg e, h y e]
  have go : ∀ r, AllV (fun v => ∀ (I : Addr) (it : Obj) h tk, it.cls = .type "list_iterator" → (∀ p ∈ news, p.1 < I) → Fr h₀ env.locals h (fun y => if y = x then some v else m₀ y) → News h₀ env.locals h ((I, it) :: news) →
      wpAny (model prog w) A (execs body env) (UnrPost h₀ env.locals { s with heap := h, toks := tk } I it (KeepJ x m₀ news) Q) E { s with heap := h, toks := tk }) r → ∀ m nw, KeepJ x m₀ news m nw → ListRest prog w A E h₀ env x body Q s I (ax, lo) r m nw := by
    intro r
    induction r with
    | nil =>
      rintro _ m nw ⟨rfl, h⟩
      refine ListRest.zero fun h' tk F' N' => fin (m x) h' tk ?_ N'
      have : (fun y => if y = x then m x else m₀ y) = m := by
        funext y
        by_cases e : y = x
        · rw [if_pos e, e]
        · rw [if_neg e, h y e]
      rw [this]; exact F'
    | cons v r ih =>
      rintro ⟨hv, hr⟩ m nw ⟨rfl, h⟩
      refine ListRest.succ fun it h' tk hit F' N' => ?_
      rw [eqm m (some v) h] at F'
      exact wpAny_mono (hv I it h' tk hit hI F' N') (fun f s₂ p => unr_mono (fun m' n' (q : KeepJ x m₀ nw m' n') => ⟨q.1.symm ▸ hm, ih hr m' n' q⟩) p) fun _ _ e => e
  exact go vs step m₀ news ⟨rfl, fun _ _ => rfl⟩
theorem keep_end {L I : Addr} {it : Obj} {s₁ : Shared} {m₀ m' : Str → Option Value} {news all : List (Addr × Obj)} {h' : Heap} {tk : Nat} (hI : ∀ p ∈ news, p.1 < I) (F : Fr h₀ L h' m') (N : News h₀ L h' all) (hi : (I, it) ∈ all) (hs : ∀ p ∈ news, p ∈ all) (hm : ∀ y, y ≠ x → m' y = m₀ y) :
    UnrEnd h₀ L s₁ I it (KeepJ x m₀ news) { s₁ with heap := h', toks := tk } :=
  UnrEnd.intro F N news (fun p hp => by
    rcases List.mem_cons.mp hp with rfl | hp
    · exact hi
    · exact hs p hp) (fun p hp => Nat.ne_of_lt (hI p hp)) ⟨rfl, hm⟩
end
theorem jdn_lo {y m d : Int} (hy : 1793 ≤ y) (h1 : 1 ≤ m) (h2 : m ≤ 12) (hd : 1 ≤ d) : 2375940 ≤ jdn y m d := by
  have e : ∀ q : Int, (if m ≤ 2 then (0 : Int) else if leapP y then -1 else -2) = q → -2 ≤ q ∧ (m ≤ 2 → q = 0) := by
    intro q hq; subst hq; (repeat' split) <;> omega
  have := e _ rfl
  unfold jdn
  generalize (if m ≤ 2 then (0 : Int) else if leapP y then -1 else -2) = q at *
  omega
theorem jdn_hi {y m d : Int} (hy : 1793 ≤ y) (hy2 : y ≤ 1000002000) (h1 : 1 ≤ m) (h2 : m ≤ 12) (hd : d ≤ 31) : jdn y m d ≤ 370000000000 := by
  have e : ∀ q : Int, (if m ≤ 2 then (0 : Int) else if leapP y then -1 else -2) = q → q ≤ 0 := by
    intro q hq; subst hq; (repeat' split) <;> omega
  have := e _ rfl
  unfold jdn
  generalize (if m ≤ 2 then (0 : Int) else if leapP y then -1 else -2) = q at *
  omega
section
variable {prog : Program} {w : World} {A : Around} {E : Value → Shared → Prop} {s : Shared} {h₀ : Heap} {L : Addr} {m : Str → Option Value} {news : List (Addr × Obj)} {Q : Value → Shared → Prop} {a b : Int} {t u : Tok}
theorem r_mod_year (h : ∀ r, 1793 ≤ 1793 + r → 1 ≤ 1793 + r → 1793 + r ≤ 1000002000 → Q (.int r s.toks) { s with toks := s.toks + 1 }) : wpAny (model prog w) A (binaryOp .Mod (.int a t) (.int 1000000000 u)) Q E s :=
  r_mod_any (by decide) fun r h1 h2 => h r (by omega) (by omega) (by omega)
theorem r_mod_month (h : ∀ r, 0 ≤ r → r < 12 → 1 ≤ 1 + r → 1 + r ≤ 12 → Q (.int r s.toks) { s with toks := s.toks + 1 }) : wpAny (model prog w) A (binaryOp .Mod (.int a t) (.int 12 u)) Q E s :=
  r_mod_any (by decide) fun r h1 h2 => h r h1 h2 (by omega) (by omega)
theorem divmod_day {Y M : Int} (F : Fr h₀ L s.heap m) (N : News h₀ L s.heap news) (h1 : 1793 ≤ Y) (h2 : Y ≤ 1000002000) (h3 : 1 ≤ M) (h4 : M ≤ 12)
    (h : ∀ D q r t1 t2 h' tk', 1 ≤ r + 1 → r + 1 ≤ dim Y M → 2375839 ≤ jdn Y M (r + 1) → jdn Y M (r + 1) ≤ 400000000000 → 2375940 ≤ jdn Y M (r + 1) → jdn Y M (r + 1) ≤ 370000000000 → (∀ p ∈ news, p.1 < D) → Fr h₀ L h' m → News h₀ L h' ((D, tupOf [.int q t1, .int r t2] 0) :: news) → Q (.ref D) { s with toks := tk', heap := h' }) :
    wpAny (model prog w) A (call (.builtin "divmod") [.int a t, .int (dim Y M) u]) Q E s := by
  have e1 := dim_le Y M
  have e2 := dim_ge Y M
  refine divmod_any F N (by omega) (by omega) fun D q r t1 t2 h' tk' hr1 hr2 l F' N' => ?_
  have lo := jdn_lo (d := r + 1) h1 h3 h4 (by omega)
  have hi := jdn_hi (d := r + 1) h1 h2 h3 h4 (by omega)
  exact h D q r t1 t2 h' tk' (by omega) (by omega) (by omega) (by omega) lo hi l F' N'
end
end Mine
end
section
open PySem PySem.W PyProof.Rows
set_option maxRecDepth 100000
namespace Mine
/-- the law's own def, as the heap holds it -/
noncomputable def lawFn (w : World) : Option (List Stmt × Scope) :=
  match (Mine.hd.heap_39 w.params).lookup 320 with
  | some o => (match o.data with | .func fd => (match fd.body with | .stmts b => some (b, fd.scope) | _ => none) | _ => none)
  | none => none
def forBody : List Stmt → List Stmt
  | _ :: .For _ _ b _ _ :: _ => b
  | _ => []
/-- the body of the law's loop, and the law's scope -/
noncomputable def turnBody (w : World) : List Stmt := match lawFn w with | some (b, _) => forBody b | none => []
noncomputable def lawScope (w : World) : Scope := match lawFn w with | some (_, sc) => sc | none => { kind := .function, names := [], isGenerator := false, isCoroutine := false }
section
variable {w : World} {oc : Value} {od an : Option Addr} {name qual : Str} {params : Arguments} {st0 : Stmt} {tg it : Expr} {fb els rest : List Stmt} {ps : Pos} {scope : Scope} {dV kV doc pm cdv ct : Value} {osl : Array (Option Value)}
theorem turn_intro {P : List Stmt → Scope → Prop} (h : (Mine.hd.heap_39 w.params).lookup 320 = some ⟨oc, od, .func (fnOf name qual params (st0 :: .For tg it fb els ps :: rest) scope dV kV doc pm an cdv ct), osl⟩) (hp : P fb scope) : P (turnBody w) (lawScope w) := by
  unfold turnBody lawScope lawFn
  rw [h]
  exact hp
theorem turn_elim {P : List Stmt → Scope → Prop} (h : (Mine.hd.heap_39 w.params).lookup 320 = some ⟨oc, od, .func (fnOf name qual params (st0 :: .For tg it fb els ps :: rest) scope dV kV doc pm an cdv ct), osl⟩) (hp : P (turnBody w) (lawScope w)) : P fb scope := by
  unfold turnBody lawScope lawFn at hp
  rw [h] at hp
  exact hp
end
noncomputable abbrev TurnP (w : World) (fb : List Stmt) (sc : Scope) : Prop :=
  ∀ (h₀ : Heap) (L fa : Addr) (cdv : Value) (mean : ExcName → Option Value) (mg mb : Str → Option Value) (m : Str → Option Value) (D I : Addr) (it : Obj) (ws : List Value) (nums : List Int) (K : Int) (o1 o2 o3 : Obj) (x1 x2 x3 : Option Value) (t : Tok)
    (J : (Str → Option Value) → List (Addr × Obj) → Prop) (s : Shared) (Q : Flow → Shared → Prop) (E : Value → Shared → Prop),
    Below callerA h₀ [] h₀ → (Mine.hd.heap_39 w.params).In h₀ → Top Mine.hd.view_39 LO mean mg mb h₀ → IntsAre ws nums → 0 ≤ K → K + 2 < nums.length → nums.length ≤ 15 → it.cls = .type "range_iterator" →
    (∀ m nw, LawJ D ws (L + 1) (L + 1 + 1) (L + 1 + 1 + 1) 0 m nw → J m nw) → (∀ p ∈ [(D, W.listOf ws.toArray 0), (L + 1 + 1 + 1, o3), (L + 1 + 1, o2), (L + 1, o1)], p.1 < I) → (∀ p ∈ [(L + 1 + 1 + 1, o3), (L + 1 + 1, o2), (L + 1, o1)], p.1 < D) → o1.data = .cell x1 → o2.data = .cell x2 → o3.data = .cell x3 →
    PassesOwn (model Challenge.rw_ad5037_01.row.prog w) (callerA.deeper (envOfC (PySem.Str.ofString "law") sc L fa cdv)) (envOfC (PySem.Str.ofString "law") sc L fa cdv) E →
    Fr h₀ L s.heap (fun y => if y = PySem.Str.ofString "at" then some (.int K t) else if y = PySem.Str.ofString "numbers" then some (.ref D) else m y) →
    News h₀ L s.heap [(I, it), (D, W.listOf ws.toArray 0), (L + 1 + 1 + 1, o3), (L + 1 + 1, o2), (L + 1, o1)] →
    wpAny (model Challenge.rw_ad5037_01.row.prog w) (callerA.deeper (envOfC (PySem.Str.ofString "law") sc L fa cdv)) (execs fb (envOfC (PySem.Str.ofString "law") sc L fa cdv)) (UnrPost h₀ L s I it J Q) E s
end Mine
end
section
open PySem PySem.W PyProof.Rows
set_option maxRecDepth 100000
namespace Mine
section
variable {w : World} {oc : Value} {od an : Option Addr} {name qual : Str} {params : Arguments} {st0 b0 b1 b2 b3 b4 b5 b6 b7 b8 b9 b10 : Stmt} {tg it : Expr} {tb els rest : List Stmt} {ps : Pos} {scope : Scope} {dV kV doc pm cdv ct : Value} {osl : Array (Option Value)}
theorem tail_intro {P : List Stmt → Scope → Prop} (h : (Mine.hd.heap_39 w.params).lookup 320 = some ⟨oc, od, .func (fnOf name qual params (st0 :: .For tg it (b0 :: b1 :: b2 :: b3 :: b4 :: b5 :: b6 :: b7 :: b8 :: b9 :: b10 :: tb) els ps :: rest) scope dV kV doc pm an cdv ct), osl⟩) (hp : P tb scope) : P ((turnBody w).drop 11) (lawScope w) := by
  unfold turnBody lawScope lawFn
  rw [h]
  exact hp
theorem tail_elim {P : List Stmt → Scope → Prop} (h : (Mine.hd.heap_39 w.params).lookup 320 = some ⟨oc, od, .func (fnOf name qual params (st0 :: .For tg it (b0 :: b1 :: b2 :: b3 :: b4 :: b5 :: b6 :: b7 :: b8 :: b9 :: b10 :: tb) els ps :: rest) scope dV kV doc pm an cdv ct), osl⟩) (hp : P ((turnBody w).drop 11) (lawScope w)) : P tb scope := by
  unfold turnBody lawScope lawFn at hp
  rw [h] at hp
  exact hp
end
abbrev S_ (x : String) : Str := PySem.Str.ofString x
noncomputable abbrev toldOf (T1 T2 T3 T4 T5 T6 T7 : Addr) : List (Str × Value) :=
  stored (stored (stored (stored (stored (stored (stored [] (PySem.Str.ofString "loose") (.ref T1)) (PySem.Str.ofString "fixed") (.ref T2)) (PySem.Str.ofString "coptic") (.ref T3)) (PySem.Str.ofString "fourth") (.ref T4)) (PySem.Str.ofString "romme") (.ref T5)) (PySem.Str.ofString "madler") (.ref T6)) (PySem.Str.ofString "long count") (.ref T7)
theorem told_lit (T1 T2 T3 T4 T5 T6 T7 : Addr) : toldOf T1 T2 T3 T4 T5 T6 T7 = [(PySem.Str.ofString "loose", Value.ref T1), (PySem.Str.ofString "fixed", Value.ref T2), (PySem.Str.ofString "coptic", Value.ref T3), (PySem.Str.ofString "fourth", Value.ref T4), (PySem.Str.ofString "romme", Value.ref T5), (PySem.Str.ofString "madler", Value.ref T6), (PySem.Str.ofString "long count", Value.ref T7)] := by rfl
theorem told_dict {prog : Program} {w : World} {knd : PySem.KeyKind prog w Str} {o : Obj} {T1 T2 T3 T4 T5 T6 T7 : Addr} (h : o.IsDictOf knd (toldOf T1 T2 T3 T4 T5 T6 T7)) : o.IsDictOf knd [(PySem.Str.ofString "loose", Value.ref T1), (PySem.Str.ofString "fixed", Value.ref T2), (PySem.Str.ofString "coptic", Value.ref T3), (PySem.Str.ofString "fourth", Value.ref T4), (PySem.Str.ofString "romme", Value.ref T5), (PySem.Str.ofString "madler", Value.ref T6), (PySem.Str.ofString "long count", Value.ref T7)] := told_lit T1 T2 T3 T4 T5 T6 T7 ▸ h
/-- the turn from `place = ..` on -/
noncomputable abbrev TailP (w : World) (tb : List Stmt) (sc : Scope) : Prop :=
  ∀ (h₀ : Heap) (L fa : Addr) (cdv : Value) (mean : ExcName → Option Value) (mg mb : Str → Option Value) (m : Str → Option Value) (D I TD T1 T2 T3 T4 T5 T6 T7 : Addr) (it oT : Obj) (ws : List Value) (o1 o2 o3 : Obj) (x1 x2 x3 : Option Value) (n : Int)
    (t1 t2 t3 a1 a2 a3 b1 b2 b3 c1 c2 c3 d1 d2 d3 e1 e2 e3 f1 f2 f3 g1 g2 g3 g4 g5 : Tok) (n1 n2 n3 n4 n5 n6 n7 : Nat)
    (J : (Str → Option Value) → List (Addr × Obj) → Prop) (s : Shared) (Q : Flow → Shared → Prop) (E : Value → Shared → Prop),
    Below callerA h₀ [] h₀ → (Mine.hd.heap_39 w.params).In h₀ → Top Mine.hd.view_39 LO mean mg mb h₀ → 2375940 ≤ n → n ≤ 370000000000 → it.cls = .type "range_iterator" →
    (∀ m nw, LawJ D ws (L + 1) (L + 1 + 1) (L + 1 + 1 + 1) 0 m nw → J m nw) → (∀ p ∈ [(D, W.listOf ws.toArray 0), (L + 1 + 1 + 1, o3), (L + 1 + 1, o2), (L + 1, o1)], p.1 < I) → o1.data = .cell x1 → o2.data = .cell x2 → o3.data = .cell x3 →
    PassesOwn (model Challenge.rw_ad5037_01.row.prog w) (callerA.deeper (envOfC (PySem.Str.ofString "law") sc L fa cdv)) (envOfC (PySem.Str.ofString "law") sc L fa cdv) E →
    oT.IsDictOf (strKind Challenge.rw_ad5037_01.row.prog w) (toldOf T1 T2 T3 T4 T5 T6 T7) →
    Fr h₀ L s.heap (fun y => if y = PySem.Str.ofString "rest" then some (.int (copt3 n) t3) else if y = PySem.Str.ofString "unit" then some (.int (copt2 n) t2) else if y = PySem.Str.ofString "own" then some (.int (copt1 n) t1) else
      if y = PySem.Str.ofString "told" then some (.ref TD) else if y = PySem.Str.ofString "numbers" then some (.ref D) else m y) →
    News h₀ L s.heap [(TD, oT), (T7, tupOf [.int ((n - 584282) / 144000) g1, .int ((n - 584282) % 144000 / 7200) g2, .int ((n - 584282) % 7200 / 360) g3, .int ((n - 584282) % 360 / 20) g4, .int ((n - 584282) % 20) g5] n7),
      (T6, tupOf [.int (freY (madB' n) (madJ' n)) f1, .int (freM (madJ' n)) f2, .int (freD (madJ' n)) f3] n6), (T5, tupOf [.int (freY (romB' n) (romJ' n)) e1, .int (freM (romJ' n)) e2, .int (freD (romJ' n)) e3] n5),
      (T4, tupOf [.int (freY (-1) (n - 2375839 + 365)) d1, .int (freM (n - 2375839 + 365)) d2, .int (freD (n - 2375839 + 365)) d3] n4), (T3, tupOf [.int (copt1 n) c1, .int (copt2 n) c2, .int (copt3 n) c3] n3),
      (T2, tupOf [.int (sark1 n) b1, .int (sark2 n) b2, .int (sark3 n) b3] n2), (T1, tupOf [.int (loose1 n) a1, .int (loose2 n) a2, .int (loose3 n) a3] n1),
      (I, it), (D, W.listOf ws.toArray 0), (L + 1 + 1 + 1, o3), (L + 1 + 1, o2), (L + 1, o1)] →
    wpAny (model Challenge.rw_ad5037_01.row.prog w) (callerA.deeper (envOfC (PySem.Str.ofString "law") sc L fa cdv)) (execs tb (envOfC (PySem.Str.ofString "law") sc L fa cdv)) (UnrPost h₀ L s I it J Q) E s
section
variable {prog : Program} {w : World} {A : Around} {E : Value → Shared → Prop} {s : Shared} {a b : Int} {t u : Tok} {Q : Value → Shared → Prop}
theorem le_t (h : a ≤ b) (hq : Q (.bool true) s) : wpAny (model prog w) A (compareOp .LtE (.int a t) (.int b u)) Q E s := PyProof.Rows.le_int (by rw [decide_eq_true h]; exact hq)
theorem ge_t (h : b ≤ a) (hq : Q (.bool true) s) : wpAny (model prog w) A (compareOp .GtE (.int a t) (.int b u)) Q E s := PyProof.Rows.ge_int (by rw [decide_eq_true h]; exact hq)
theorem gt_t (h : b < a) (hq : Q (.bool true) s) : wpAny (model prog w) A (compareOp .Gt (.int a t) (.int b u)) Q E s := PyProof.Rows.gt_int (by rw [decide_eq_true h]; exact hq)
end
theorem sark1_ge {n : Int} (hn : 2375940 ≤ n) : 533 ≤ sark1 n ∧ sark1 n < 1000000000000 ∨ 400000000000 < n := by
  unfold sark1; have h : sarkY n = 4 * (n - 2117210) / 1461 := rfl; split <;> omega
theorem four_ge {n : Int} (hn : 2375940 ≤ n) : 1 ≤ freY (-1) (n - 2375839 + 365) := by unfold freY; split <;> omega
theorem copt1_le {n : Int} (hn : 2375940 ≤ n) (hn2 : n ≤ 400000000000) : -1000000000000 < copt1 n ∧ copt1 n < 1000000000000 := by unfold copt1; omega
theorem coptR_le {n : Int} (hn : 2375940 ≤ n) : -1000000 < coptR n + 1 ∧ coptR n + 1 < 1000000 ∧ coptR n + 1 ≤ daysI (copt1 n) := by
  have h := copt_R hn
  unfold daysI at h ⊢
  split at h <;> (simp only [*, if_true, if_false]; omega)
theorem new_tup {prog : Program} {w : World} {A : Around} {E : Value → Shared → Prop} {s : Shared} {h₀ : Heap} {L : Addr} {m : Str → Option Value} {news : List (Addr × Obj)} {Q : Value → Shared → Prop} {vs : List Value} (F : Fr h₀ L s.heap m) (N : News h₀ L s.heap news) (hz : vs.length ≤ sizeLine)
    (h : ∀ D h', Fr h₀ L h' m → News h₀ L h' ((D, tupOf vs 0) :: news) → (∀ p ∈ news, p.1 < D) → Q (.ref D) { s with heap := h' }) : wpAny (model prog w) A (newTuple vs) Q E s :=
  wpAny_newTuple (h _ _ (F.push _) (News.push F N _) fun p hp => Heap.lt_size (N p hp).1) hz
theorem mov_facts {n : Int} (hn : 2375940 ≤ n) (hn2 : n ≤ 400000000000) : 1 ≤ movY (copt1 n) (coptR n + 1) 13 - 1508 ∧ movY (copt1 n) (coptR n + 1) 13 - 1508 < 1000000000000 ∧ -1000000000000 < movY (copt1 n) (coptR n + 1) 13 - 1508 ∧ -1000000 < movP (copt1 n) (coptR n + 1) 13 ∧ movP (copt1 n) (coptR n + 1) 13 < 1000000 := by
  obtain ⟨h1, h2⟩ := @fourth_core n
  have h3 : 0 ≤ freR (n - 2375839 + 365) ∧ freR (n - 2375839 + 365) ≤ 365 := by unfold freR; split <;> omega
  have h4 := four_ge hn
  have h5 : freY (-1) (n - 2375839 + 365) < 1000000000000 := by unfold freY; split <;> omega
  omega
theorem sarkR_facts {n : Int} (hn : 2375940 ≤ n) : -1000000 < sarkR n ∧ sarkR n < 1000000 := by
  have h : sarkD n = n - 2117210 - (365 * sarkY n + sarkY n / 4) := rfl
  have h2 : sarkY n = 4 * (n - 2117210) / 1461 := rfl
  unfold sarkR
  (repeat' split) <;> omega
theorem lc_facts {n : Int} (hn : 2375940 ≤ n) (hn2 : n ≤ 370000000000) : (0 ≤ (n - 584282) / 144000 ∧ (n - 584282) / 144000 < 2600000 ∧ 0 ≤ (n - 584282) % 144000 / 7200 ∧ (n - 584282) % 144000 / 7200 < 1000) ∧
    (0 ≤ (n - 584282) % 7200 / 360 ∧ (n - 584282) % 7200 / 360 < 1000 ∧ 0 ≤ (n - 584282) % 360 / 20 ∧ (n - 584282) % 360 / 20 < 1000 ∧ 0 ≤ (n - 584282) % 20 ∧ (n - 584282) % 20 < 1000) := by omega
theorem lc_sum {n : Int} (hn : 2375940 ≤ n) : 1790718 ≤ (n - 584282) / 144000 * 144000 + (n - 584282) % 144000 / 7200 * 7200 + (n - 584282) % 7200 / 360 * 360 + (n - 584282) % 360 / 20 * 20 + (n - 584282) % 20 := by rw [lc_back]; omega
theorem haabA {n : Int} : (n - 1922501 + 112) % 365 % 20 = haab1 (n - 584282) := by unfold haab1; rw [haab_eq]
theorem haabB {n : Int} : HN.getD ((n - 1922501 + 112) % 365 / 20).toNat PySem.Str.empty = haab2 (n - 584282) := by unfold haab2; rw [haab_eq]
theorem tzolB {k : Int} : TN.getD ((k % 20 + 19) % 20).toNat PySem.Str.empty = tz2 k := by unfold tz2; rw [tz2_eq]
theorem getD_ok {l : List Str} (h : (l.all fun x => PyData.strOk x) = true) (i : Nat) : PyData.strOk (l.getD i PySem.Str.empty) = true := by
  rw [List.getD_eq_getElem?_getD]
  cases e : l[i]? with
  | none => decide +kernel
  | some x => exact List.all_eq_true.mp h x (List.mem_of_getElem? e)
theorem tz2_ok (k : Int) : PyData.strOk (tz2 k) = true := getD_ok (by decide +kernel) _
theorem haab2_ok (k : Int) : PyData.strOk (haab2 k) = true := getD_ok (by decide +kernel) _
section
variable {prog : Program} {w : World} {A : Around} {E : Value → Shared → Prop} {s : Shared} {h₀ : Heap} {L : Addr} {m : Str → Option Value} {news : List (Addr × Obj)} {Q : Value → Shared → Prop} {a a' : Int} {b b' : Str} {t u : Tok}
theorem new_tupS (e1 : a = a') (e2 : b = b') (F : Fr h₀ L s.heap m) (N : News h₀ L s.heap news)
    (h : ∀ D h', Fr h₀ L h' m → News h₀ L h' ((D, tupOf [.int a' t, .str b' u] 0) :: news) → (∀ p ∈ news, p.1 < D) → Q (.ref D) { s with heap := h' }) : wpAny (model prog w) A (newTuple [.int a t, .str b u]) Q E s := by
  subst e1 e2
  exact new_tup F N (Nat.le_of_ble_eq_true rfl) h
end
end Mine
end
section
open PySem PySem.W PyProof.Rows
namespace Mine
def AllK (P : Str → Prop) : List (Str × Value) → Prop
  | [] => True
  | v :: r => P v.1 ∧ AllK P r
theorem AllK.drop {P : Str → Prop} {l : List (Str × Value)} (h : AllK P l) : ∀ {i : Nat} {k : Str} {v : Value}, l[i]? = some (k, v) → P k := by
  induction l with
  | nil => intro i k v e; simp at e
  | cons a l ih =>
    intro i k v e
    cases i with
    | zero => simp at e; subst e; exact h.1
    | succ j => simp at e; exact ih h.2 e
section
variable {prog : Program} {w : World} {A : Around} {E : Value → Shared → Prop} {s : Shared} {env : Env} {h₀ : Heap} {x : Str} {body : List Stmt} {Q : Flow → Shared → Prop}
/-- a `for` over a dict's own keys, each turn on its own -/
theorem dict_inv {d : Addr} {od : Obj} {kvs : List (Str × Value)} {m₀ : Str → Option Value} {news : List (Addr × Obj)}
    (hh : A.handled = none) (F : Fr h₀ env.locals s.heap m₀) (N : News h₀ env.locals s.heap news) (hm : (d, od) ∈ news) (hd : od.IsDictOf (strKind prog w) kvs) (lo : (d == sysModules) = false)
    (fin : ∀ v h tk, Fr h₀ env.locals h (fun y => if y = x then v else m₀ y) → News h₀ env.locals h news → Q .next { s with heap := h, toks := tk })
    (step : AllK (fun k => ∀ (t : Tok) (I : Addr) (it : Obj) h tk, it.cls = .type "dict_keyiterator" → (∀ p ∈ news, p.1 < I) → Fr h₀ env.locals h (fun y => if y = x then some (.str k t) else m₀ y) → News h₀ env.locals h ((I, it) :: news) →
      wpAny (model prog w) A (execs body env) (UnrPost h₀ env.locals { s with heap := h, toks := tk } I it (KeepJ x m₀ news) Q) E { s with heap := h, toks := tk }) kvs) :
    wpAny (model prog w) A (pyIter (.ref d)) (fun it s₂ => LoopAtV prog w A h₀ env x body Q E it s₂) E s := by
  obtain ⟨ep, ha⟩ := KdkAt.of hd
  have hax := N _ hm
  have hat := ha.dictAt hax.1
  refine wpAny_pyIter_dict lo hat ?_
  have hI : ∀ p ∈ news, p.1 < s.heap.objs.size := fun p hp => Heap.lt_size (N p hp).1
  have hne : d ≠ s.heap.objs.size := Nat.ne_of_lt hat.lt_size
  have W := Walks.dictKeys (knd := strKind prog w) hh s.heap.objs.size d hne kvs ep
  have hnew := next_is_new F
  let J : Nat → (Str → Option Value) → List (Addr × Obj) → Prop := fun _ m₁ news₁ => KeepJ x m₀ news m₁ news₁
  refine ⟨_, _, _, kvs.length, _, _, m₀, news, J, rfl, W, ?_, ?_, ?_, ⟨⟨_, Heap.get?_push_size _ rfl, rfl, rfl⟩, hat.push _⟩, F.push _, (fun p hp => ⟨Heap.get?_push_of_some _ (N p hp).1, (N p hp).2⟩), ⟨rfl, fun _ _ => rfl⟩, ?_, ?_⟩
  · intro hmm
    rcases List.mem_cons.mp hmm with e | hmm
    · exact absurd F.ns.lt (e ▸ Nat.lt_irrefl _)
    · exact hax.2.1 (List.mem_singleton.mp hmm).symm
  · intro b hb
    rw [List.mem_singleton.mp hb]
    exact hnew
  · intro p hp hI
    exact absurd (Heap.lt_size (N p hp).1) ((List.mem_singleton.mp hI) ▸ Nat.lt_irrefl _)
  · rintro i v m₁ news₁ s₁ own ⟨hh', tk', rfl⟩ hin hP ⟨hmem₁, hJ⟩ hoff hown hget hall hst F₁ N₁
    obtain ⟨it, hit, hic, hid⟩ := hst.1
    have hmemI := hall s.heap.objs.size (List.mem_cons_self ..) hnew _ hit
    obtain ⟨k, xv, hx, hkey⟩ := hP
    obtain ⟨t, rfl⟩ := Value.isStrOf_shape hkey
    subst hmem₁
    have N₂ : News h₀ env.locals hh' ((s.heap.objs.size, it) :: news₁) := fun p hp => by
      rcases List.mem_cons.mp hp with rfl | hp
      · exact N₁ _ (List.mem_append_left _ hmemI)
      · exact N₁ _ (List.mem_append_right _ hp)
    have eqm : (fun y => if y = x then some (Value.str k t) else m₁ y) = (fun y => if y = x then some (Value.str k t) else m₀ y) := by
      funext y
      by_cases e : y = x
      · rw [if_pos e, if_pos e]
      · rw [if_neg e, if_neg e, hJ y e]
    rw [eqm] at F₁
    refine wpAny_mono (step.drop hx t s.heap.objs.size it hh' tk' hic hI F₁ N₂) (fun f s₂ p => ?_) fun _ _ e => e
    have fin : UnrEnd h₀ env.locals { s with heap := hh', toks := tk' } s.heap.objs.size it (KeepJ x m₀ news₁) s₂ →
        LoopStepU h₀ env.locals [s.heap.objs.size] own (J (i + 1)) { s with heap := hh', toks := tk' } .next s₂ := by
      rintro ⟨h', tk, m', news', e, F', N', ho, e2, hk⟩
      have N3 : News h₀ env.locals h' ((s.heap.objs.size, it) :: news₁) := e2 ▸ N'
      refine ⟨rfl, h', tk, m', news', e, F', fun p hp => ?_, fun p hp hI => ho p hp (List.mem_singleton.mp hI), e2, hk⟩
      rw [e2] at hp
      rcases List.mem_append.mp hp with hp | hp
      · have h2 : hh'.get? p.1 = some p.2 := hget p hp
        rcases List.mem_cons.mp (hown p hp) with h1 | h1
        · have h3 : p = (s.heap.objs.size, it) := by
            rw [h1, hit] at h2
            exact Prod.ext h1 (Option.some.inj h2).symm
          rw [h3]; exact N3 _ (List.mem_cons_self ..)
        · have h1' : p.1 = d := List.mem_singleton.mp h1
          have h3 : p = (d, od) := by
            rw [h1', (N₁ _ (List.mem_append_right _ hm)).1] at h2
            exact Prod.ext h1' (Option.some.inj h2).symm
          rw [h3]; exact N3 _ (List.mem_cons_of_mem _ hm)
      · exact N3 _ (List.mem_cons_of_mem _ hp)
    cases f with
    | ret v => exact .ret p
    | brk => exact .brk p
    | next => exact .next (fin p)
    | cont => exact .cont (fin p)
  · rintro h' tk m' news' F' N' _ ⟨e2, hJ⟩
    subst e2
    refine fin (m' x) h' tk ?_ N'
    have : (fun y => if y = x then m' x else m₀ y) = m' := by
      funext y
      by_cases e : y = x
      · rw [if_pos e, e]
      · rw [if_neg e, hJ y e]
    rw [this]; exact F'
def AllS (P : Str → Prop) : List Str → Prop
  | [] => True
  | v :: r => P v ∧ AllS P r
theorem AllS.to {P : Str → Prop} : ∀ {l : List (Str × Value)}, AllS P (l.map Prod.fst) → AllK P l
  | [], _ => trivial
  | _ :: _, h => ⟨h.1, AllS.to h.2⟩
theorem dict_invS {d : Addr} {od : Obj} {kvs : List (Str × Value)} (ks : List Str) {m₀ : Str → Option Value} {news : List (Addr × Obj)}
    (hh : A.handled = none) (F : Fr h₀ env.locals s.heap m₀) (N : News h₀ env.locals s.heap news) (hm : (d, od) ∈ news) (hd : od.IsDictOf (strKind prog w) kvs) (lo : (d == sysModules) = false) (hk : kvs.map Prod.fst = ks)
    (fin : ∀ v h tk, Fr h₀ env.locals h (fun y => if y = x then v else m₀ y) → News h₀ env.locals h news → Q .next { s with heap := h, toks := tk })
    (step : AllS (fun k => ∀ (t : Tok) (I : Addr) (it : Obj) h tk, it.cls = .type "dict_keyiterator" → (∀ p ∈ news, p.1 < I) → Fr h₀ env.locals h (fun y => if y = x then some (.str k t) else m₀ y) → News h₀ env.locals h ((I, it) :: news) →
      wpAny (model prog w) A (execs body env) (UnrPost h₀ env.locals { s with heap := h, toks := tk } I it (KeepJ x m₀ news) Q) E { s with heap := h, toks := tk }) ks) :
    wpAny (model prog w) A (pyIter (.ref d)) (fun it s₂ => LoopAtV prog w A h₀ env x body Q E it s₂) E s := by
  subst hk
  exact dict_inv hh F N hm hd lo fin (AllS.to step)
end
end Mine
end
section
open PySem PySem.W PyProof.Rows PyProof.V
namespace Mine
section
variable {prog : Program} {w : World} {A : Around} {E : Value → Shared → Prop} {s : Shared} {h₀ : Heap} {L a b : Addr} {news : List (Addr × Obj)} {Q : Value → Shared → Prop} {k k' : Nat}
theorem ne_tup3 {x y z x' y' z' : Int} {t u v t' u' v' : Tok} (N : News h₀ L s.heap news) (ma : (a, tupOf [.int x t, .int y u, .int z v] k) ∈ news) (mb : (b, tupOf [.int x' t', .int y' u', .int z' v'] k') ∈ news)
    (e1 : x = x') (e2 : y = y') (e3 : z = z') (hu : A.units + 64 < cLine) (h : Q (.bool false) s) : wpAny (model prog w) A (compareOp .NotEq (.ref a) (.ref b)) Q E s := by
  subst e1 e2 e3
  refine ne_dataH (da := .tuple [.int x, .int y, .int z]) (db := .tuple [.int x, .int y, .int z]) (reads_tuple_at (N.get ma) rfl rfl (.cons (.int _ _) (.cons (.int _ _) (.cons (.int _ _) .nil)))) (reads_tuple_at (N.get mb) rfl rfl (.cons (.int _ _) (.cons (.int _ _) (.cons (.int _ _) .nil)))) (by rfl) (by rfl) hu ?_
  simp only [PyData.eqv, PyData.eqvAll, beq_self_eq_true, Bool.and_true, Bool.not_true]
  exact h
theorem ne_tup5 {x y z p q x' y' z' p' q' : Int} {t u v r j t' u' v' r' j' : Tok} (N : News h₀ L s.heap news) (ma : (a, tupOf [.int x t, .int y u, .int z v, .int p r, .int q j] k) ∈ news) (mb : (b, tupOf [.int x' t', .int y' u', .int z' v', .int p' r', .int q' j'] k') ∈ news)
    (e1 : x = x') (e2 : y = y') (e3 : z = z') (e4 : p = p') (e5 : q = q') (hu : A.units + 64 < cLine) (h : Q (.bool false) s) : wpAny (model prog w) A (compareOp .NotEq (.ref a) (.ref b)) Q E s := by
  subst e1 e2 e3 e4 e5
  refine ne_dataH (da := .tuple [.int x, .int y, .int z, .int p, .int q]) (db := .tuple [.int x, .int y, .int z, .int p, .int q]) (reads_tuple_at (N.get ma) rfl rfl (.cons (.int _ _) (.cons (.int _ _) (.cons (.int _ _) (.cons (.int _ _) (.cons (.int _ _) .nil)))))) (reads_tuple_at (N.get mb) rfl rfl (.cons (.int _ _) (.cons (.int _ _) (.cons (.int _ _) (.cons (.int _ _) (.cons (.int _ _) .nil)))))) (by rfl) (by rfl) hu ?_
  simp only [PyData.eqv, PyData.eqvAll, beq_self_eq_true, Bool.and_true, Bool.not_true]
  exact h
theorem ne_tupS {x x' : Int} {y y' : Str} {t u t' u' : Tok} (N : News h₀ L s.heap news) (ma : (a, tupOf [.int x t, .str y u] k) ∈ news) (mb : (b, tupOf [.int x' t', .str y' u'] k') ∈ news)
    (e1 : x = x') (e2 : y = y') (hy : PyData.strOk y = true) (hu : A.units + 64 < cLine) (h : Q (.bool false) s) : wpAny (model prog w) A (compareOp .NotEq (.ref a) (.ref b)) Q E s := by
  subst e1 e2
  have hs : SeqAt.shaped (.tuple [.int x, .str y]) = true := by
    simp [SeqAt.shaped, PyData.canLay0, PyData.canLayAll0, PyData.depth, PyData.depthAll, hy]
  refine ne_dataH (da := .tuple [.int x, .str y]) (db := .tuple [.int x, .str y]) (reads_tuple_at (N.get ma) rfl rfl (.cons (.int _ _) (.cons (.str _ _) .nil))) (reads_tuple_at (N.get mb) rfl rfl (.cons (.int _ _) (.cons (.str _ _) .nil))) hs hs hu ?_
  simp only [PyData.eqv, PyData.eqvAll, beq_self_eq_true, Bool.and_true, Bool.not_true]
  exact h
end
end Mine
end
section
open PySem PySem.W PyProof.Rows PyProof.V
set_option maxRecDepth 100000
namespace Mine
section
variable {w : World} {oc : Value} {od an : Option Addr} {name qual : Str} {params : Arguments} {st0 b0 b1 b2 b3 b4 b5 b6 b7 b8 b9 b10 b11 b12 b13 b14 b15 b16 b17 b18 b19 b20 b21 b22 b23 : Stmt} {tg it : Expr} {tb els rest : List Stmt} {ps : Pos} {scope : Scope} {dV kV doc pm cdv ct : Value} {osl : Array (Option Value)}
theorem tail2_intro {P : List Stmt → Scope → Prop} (h : (Mine.hd.heap_39 w.params).lookup 320 = some ⟨oc, od, .func (fnOf name qual params (st0 :: .For tg it (b0 :: b1 :: b2 :: b3 :: b4 :: b5 :: b6 :: b7 :: b8 :: b9 :: b10 :: b11 :: b12 :: b13 :: b14 :: b15 :: b16 :: b17 :: b18 :: b19 :: b20 :: b21 :: b22 :: b23 :: tb) els ps :: rest) scope dV kV doc pm an cdv ct), osl⟩) (hp : P tb scope) : P ((turnBody w).drop 24) (lawScope w) := by
  unfold turnBody lawScope lawFn
  rw [h]
  exact hp
theorem tail2_elim {P : List Stmt → Scope → Prop} (h : (Mine.hd.heap_39 w.params).lookup 320 = some ⟨oc, od, .func (fnOf name qual params (st0 :: .For tg it (b0 :: b1 :: b2 :: b3 :: b4 :: b5 :: b6 :: b7 :: b8 :: b9 :: b10 :: b11 :: b12 :: b13 :: b14 :: b15 :: b16 :: b17 :: b18 :: b19 :: b20 :: b21 :: b22 :: b23 :: tb) els ps :: rest) scope dV kV doc pm an cdv ct), osl⟩) (hp : P ((turnBody w).drop 24) (lawScope w)) : P tb scope := by
  unfold turnBody lawScope lawFn at hp
  rw [h] at hp
  exact hp
end
/-- the turn from `for which in due` on -/
noncomputable abbrev Tail2P (w : World) (tb : List Stmt) (sc : Scope) : Prop :=
  ∀ (h₀ : Heap) (L fa : Addr) (cdv : Value) (mean : ExcName → Option Value) (mg mb : Str → Option Value) (m : Str → Option Value) (D I TD T1 T2 T3 T4 T5 T6 T7 UD U1 U2 U3 U4 U5 U6 : Addr) (it oT oU : Obj) (ws : List Value) (o1 o2 o3 : Obj) (x1 x2 x3 : Option Value) (n fr r1 r2 r3 q1 q2 q3 : Int)
    (tc tf tm a1 a2 a3 b1 b2 b3 c1 c2 c3 d1 d2 d3 e1 e2 e3 f1 f2 f3 g1 g2 g3 g4 g5 ua1 ua2 ua3 ub1 ub2 ub3 ud1 ud2 ud3 ue1 ue2 ue3 uf1 uf2 uf3 ug1 ug2 ug3 ug4 ug5 : Tok) (n1 n2 n3 n4 n5 n6 n7 k1 k2 k3 k4 k5 k6 : Nat)
    (J : (Str → Option Value) → List (Addr × Obj) → Prop) (s : Shared) (Q : Flow → Shared → Prop) (E : Value → Shared → Prop),
    Below callerA h₀ [] h₀ → (Mine.hd.heap_39 w.params).In h₀ → Top Mine.hd.view_39 LO mean mg mb h₀ → 2375940 ≤ n → n ≤ 370000000000 →
    (fr ≤ 98 → freY (romB' n) (romJ' n) = r1 ∧ freM (romJ' n) = r2 ∧ freD (romJ' n) = r3) → (fr ≤ 126 → freY (madB' n) (madJ' n) = q1 ∧ freM (madJ' n) = q2 ∧ freD (madJ' n) = q3) → it.cls = .type "range_iterator" →
    (∀ m nw, LawJ D ws (L + 1) (L + 1 + 1) (L + 1 + 1 + 1) 0 m nw → J m nw) → (∀ p ∈ [(D, W.listOf ws.toArray 0), (L + 1 + 1 + 1, o3), (L + 1 + 1, o2), (L + 1, o1)], p.1 < I) → o1.data = .cell x1 → o2.data = .cell x2 → o3.data = .cell x3 →
    PassesOwn (model Challenge.rw_ad5037_01.row.prog w) (callerA.deeper (envOfC (PySem.Str.ofString "law") sc L fa cdv)) (envOfC (PySem.Str.ofString "law") sc L fa cdv) E →
    (UD == sysModules) = false → oT.IsDictOf (strKind Challenge.rw_ad5037_01.row.prog w) (toldOf T1 T2 T3 T4 T5 T6 T7) → oU.IsDictOf (strKind Challenge.rw_ad5037_01.row.prog w) [(PySem.Str.ofString "loose", Value.ref U1), (PySem.Str.ofString "fixed", Value.ref U2), (PySem.Str.ofString "fourth", Value.ref U3), (PySem.Str.ofString "romme", Value.ref U4), (PySem.Str.ofString "madler", Value.ref U5), (PySem.Str.ofString "long count", Value.ref U6)] →
    Fr h₀ L s.heap (fun y => if y = PySem.Str.ofString "mayan" then some (.int (n - 1922501 + 1338219) tm) else if y = PySem.Str.ofString "french" then some (.int fr tf) else if y = PySem.Str.ofString "due" then some (.ref UD) else if y = PySem.Str.ofString "count" then some (.int (n - 1922501) tc) else
      if y = PySem.Str.ofString "told" then some (.ref TD) else if y = PySem.Str.ofString "numbers" then some (.ref D) else m y) →
    News h₀ L s.heap [(UD, oU), (U6, tupOf [.int ((n - 584282) / 144000) ug1, .int ((n - 584282) % 144000 / 7200) ug2, .int ((n - 584282) % 7200 / 360) ug3, .int ((n - 584282) % 360 / 20) ug4, .int ((n - 584282) % 20) ug5] k6), (U5, tupOf [.int q1 uf1, .int q2 uf2, .int q3 uf3] k5), (U4, tupOf [.int r1 ue1, .int r2 ue2, .int r3 ue3] k4),
      (U3, tupOf [.int (freY (-1) (n - 2375839 + 365)) ud1, .int (freM (n - 2375839 + 365)) ud2, .int (freD (n - 2375839 + 365)) ud3] k3),
      (U2, tupOf [.int (sark1 n) ub1, .int (sark2 n) ub2, .int (sark3 n) ub3] k2), (U1, tupOf [.int (loose1 n) ua1, .int (loose2 n) ua2, .int (loose3 n) ua3] k1),
      (TD, oT), (T7, tupOf [.int ((n - 584282) / 144000) g1, .int ((n - 584282) % 144000 / 7200) g2, .int ((n - 584282) % 7200 / 360) g3, .int ((n - 584282) % 360 / 20) g4, .int ((n - 584282) % 20) g5] n7), (T6, tupOf [.int (freY (madB' n) (madJ' n)) f1, .int (freM (madJ' n)) f2, .int (freD (madJ' n)) f3] n6), (T5, tupOf [.int (freY (romB' n) (romJ' n)) e1, .int (freM (romJ' n)) e2, .int (freD (romJ' n)) e3] n5),
      (T4, tupOf [.int (freY (-1) (n - 2375839 + 365)) d1, .int (freM (n - 2375839 + 365)) d2, .int (freD (n - 2375839 + 365)) d3] n4), (T3, tupOf [.int (copt1 n) c1, .int (copt2 n) c2, .int (copt3 n) c3] n3),
      (T2, tupOf [.int (sark1 n) b1, .int (sark2 n) b2, .int (sark3 n) b3] n2), (T1, tupOf [.int (loose1 n) a1, .int (loose2 n) a2, .int (loose3 n) a3] n1),
      (I, it), (D, W.listOf ws.toArray 0), (L + 1 + 1 + 1, o3), (L + 1 + 1, o2), (L + 1, o1)] →
    wpAny (model Challenge.rw_ad5037_01.row.prog w) (callerA.deeper (envOfC (PySem.Str.ofString "law") sc L fa cdv)) (execs tb (envOfC (PySem.Str.ofString "law") sc L fa cdv)) (UnrPost h₀ L s I it J Q) E s
section
variable {prog : Program} {w : World} {A : Around} {E : Value → Shared → Prop} {s : Shared} {a b : Int} {t u : Tok} {Q : Value → Shared → Prop} {P1 P2 P3 : Prop}
/-- `a > b`, where the other way tells three things -/
theorem gt_hyp (h : a ≤ b → P1 ∧ P2 ∧ P3) (ht : b < a → Q (.bool true) s) (hf : a ≤ b → P1 → P2 → P3 → Q (.bool false) s) : wpAny (model prog w) A (compareOp .Gt (.int a t) (.int b u)) Q E s := by
  refine PyProof.Rows.gt_int ?_
  by_cases e : b < a
  · rw [decide_eq_true e]; exact ht e
  · rw [decide_eq_false e]
    have h0 : a ≤ b := by omega
    exact hf h0 (h h0).1 (h h0).2.1 (h h0).2.2
end
/-- the end of a turn of the law's loop -/
theorem law_end {h₀ : Heap} {L I D : Addr} {it o1 o2 o3 : Obj} {x1 x2 x3 : Option Value} {ws : List Value} {J : (Str → Option Value) → List (Addr × Obj) → Prop} {s₁ : Shared} {m' : Str → Option Value} {all : List (Addr × Obj)} {h' : Heap} {tk : Nat}
    (hJ : ∀ m nw, LawJ D ws (L + 1) (L + 1 + 1) (L + 1 + 1 + 1) 0 m nw → J m nw) (hI : ∀ p ∈ [(D, W.listOf ws.toArray 0), (L + 1 + 1 + 1, o3), (L + 1 + 1, o2), (L + 1, o1)], p.1 < I) (d1 : o1.data = .cell x1) (d2 : o2.data = .cell x2) (d3 : o3.data = .cell x3)
    (F : Fr h₀ L h' m') (N : News h₀ L h' all) (hm : m' (PySem.Str.ofString "numbers") = some (.ref D)) (hi : (I, it) ∈ all) (hs : ∀ p ∈ [(D, W.listOf ws.toArray 0), (L + 1 + 1 + 1, o3), (L + 1 + 1, o2), (L + 1, o1)], p ∈ all) :
    UnrEnd h₀ L s₁ I it J { s₁ with heap := h', toks := tk } :=
  UnrEnd.intro F N [(D, W.listOf ws.toArray 0), (L + 1 + 1 + 1, o3), (L + 1 + 1, o2), (L + 1, o1)] (fun p hp => by
    rcases List.mem_cons.mp hp with rfl | hp
    · exact hi
    · exact hs p hp) (fun p hp => Nat.ne_of_lt (hI p hp)) (hJ _ _ (LawJ.intro hm d1 d2 d3))
end Mine
end
section
open PySem PySem.W PyProof.Rows PyProof.V
namespace Mine
section
variable {prog : Program} {w : World} {A : Around} {E : Value → Shared → Prop} {s : Shared} {t u : Tok} {a : Int} {x y : Str} {Q : Value → Shared → Prop}
theorem fld_tz (k : Int) (h : ∀ t' n, Q (.str (PySem.Str.ofString (toString (tz1 k))) t') { s with toks := n }) : wpAny (model prog w) A (formatField (.int (tz1 k) t) Str.empty) Q E s :=
  wpAny_formatField_int (small_log (by have := tz1_range k; omega) (by have := tz1_range k; omega)) (h _ _)
theorem fld_haab (k : Int) (h : ∀ t' n, Q (.str (PySem.Str.ofString (toString (haab1 k))) t') { s with toks := n }) : wpAny (model prog w) A (formatField (.int (haab1 k) t) Str.empty) Q E s :=
  wpAny_formatField_int (small_log (by have := haab1_range k; omega) (by have := haab1_range k; omega)) (h _ _)
theorem fld_str (hx : x.length ≤ 1000) (h : ∀ t' n, Q (.str x t') { s with toks := n }) : wpAny (model prog w) A (formatField (.str x t) Str.empty) Q E s :=
  formatField_str h (Nat.le_trans hx (Nat.le_of_ble_eq_true rfl))
theorem ne_same (e : x = y) (h : Q (.bool false) s) : wpAny (model prog w) A (compareOp .NotEq (.str x t) (.str y u)) Q E s := by
  subst e
  refine PyProof.Rows.ne_str ?_
  simpa using h
end
theorem len_tz (k : Int) : (PySem.Str.ofString (toString (tz1 k))).length ≤ 1000 := small_text (by have := tz1_range k; omega) (by have := tz1_range k; omega)
theorem len_haab (k : Int) : (PySem.Str.ofString (toString (haab1 k))).length ≤ 1000 := small_text (by have := haab1_range k; omega) (by have := haab1_range k; omega)
theorem len_bl : (PySem.Str.ofString " ").length ≤ 1000 := by decide +kernel
theorem len_nil {a : Nat} : Str.empty.length ≤ a := by
  have h : Str.empty.length = 0 := by decide +kernel
  omega
theorem len_app {x y : Str} {a : Nat} (h : x.length ≤ a) (h2 : y.length ≤ 1000) : (x ++ y).length ≤ a + 1000 := by
  rw [PySem.Str.length_append]; omega
theorem len_fin {x : Str} {a : Nat} (h : x.length ≤ a) (h2 : Nat.ble a sizeLine = true) : x.length ≤ sizeLine := Nat.le_trans h (Nat.le_of_ble_eq_true h2)
theorem len_big : Nat.ble 12000 sizeLine = true := rfl
theorem app_nil (x : Str) : x ++ (⟨([] : List Nat).toArray⟩ : Str) = x := by
  cases x with
  | mk c =>
    show (⟨c ++ #[]⟩ : Str) = ⟨c⟩
    rw [Array.append_empty]
theorem bl_is : (⟨[32].toArray⟩ : Str) = PySem.Str.ofString " " := by decide +kernel
theorem words_eq {k : Int} : fourText (tz1 (k / 144000 * 144000 + k % 144000 / 7200 * 7200 + k % 7200 / 360 * 360 + k % 360 / 20 * 20 + k % 20)) (tz2 (k / 144000 * 144000 + k % 144000 / 7200 * 7200 + k % 7200 / 360 * 360 + k % 360 / 20 * 20 + k % 20))
    (haab1 (k / 144000 * 144000 + k % 144000 / 7200 * 7200 + k % 7200 / 360 * 360 + k % 360 / 20 * 20 + k % 20)) (haab2 (k / 144000 * 144000 + k % 144000 / 7200 * 7200 + k % 7200 / 360 * 360 + k % 360 / 20 * 20 + k % 20)) =
    ((((((Str.empty ++ PySem.Str.ofString (toString (tz1 k))) ++ PySem.Str.ofString " ") ++ tz2 k) ++ PySem.Str.ofString " ") ++ PySem.Str.ofString (toString (haab1 k))) ++ PySem.Str.ofString " ") ++ haab2 k := by
  rw [lc_back]
  unfold fourText
  rw [app_nil, bl_is]
end Mine
end
section
open PySem PySem.W PyProof.Rows PyProof.V
set_option maxRecDepth 100000
namespace Mine
theorem sark_due {n : Int} : (sarkR n - 1) / 30 + 1 = sark2 n ∧ (sarkR n - 1) % 30 + 1 = sark3 n := sark_eq
theorem romme_due {n : Int} (hn : 2375940 ≤ n) (hf : movY (copt1 n) (coptR n + 1) 13 - 1508 ≤ 98) : freY (romB' n) (romJ' n) = aheY (movY (copt1 n) (coptR n + 1) 13 - 1508) (movP (copt1 n) (coptR n + 1) 13) 16 ∧
    freM (romJ' n) = (aheP (movY (copt1 n) (coptR n + 1) 13 - 1508) (movP (copt1 n) (coptR n + 1) 13) 16 - 1) / 30 + 1 ∧ freD (romJ' n) = (aheP (movY (copt1 n) (coptR n + 1) 13 - 1508) (movP (copt1 n) (coptR n + 1) 13) 16 - 1) % 30 + 1 := by
  obtain ⟨h1, h2⟩ := romme_core hn hf
  have h3 := fre_of (y := 0) h2
  exact ⟨h1.symm, h3.1.symm, h3.2.symm⟩
theorem madler_due {n : Int} (hn : 2375940 ≤ n) (hf : movY (copt1 n) (coptR n + 1) 13 - 1508 ≤ 126) : freY (madB' n) (madJ' n) = aheY (movY (copt1 n) (coptR n + 1) 13 - 1508) (movP (copt1 n) (coptR n + 1) 13) 20 ∧
    freM (madJ' n) = (aheP (movY (copt1 n) (coptR n + 1) 13 - 1508) (movP (copt1 n) (coptR n + 1) 13) 20 - 1) / 30 + 1 ∧ freD (madJ' n) = (aheP (movY (copt1 n) (coptR n + 1) 13 - 1508) (movP (copt1 n) (coptR n + 1) 13) 20 - 1) % 30 + 1 := by
  obtain ⟨h1, h2⟩ := madler_core hn hf
  have h3 := fre_of (y := 0) h2
  exact ⟨h1.symm, h3.1.symm, h3.2.symm⟩
theorem lc_due {n : Int} : (n - 1922501 + 1338219) / 144000 = (n - 584282) / 144000 ∧ (n - 1922501 + 1338219) / 7200 % 20 = (n - 584282) % 144000 / 7200 ∧ (n - 1922501 + 1338219) / 360 % 20 = (n - 584282) % 7200 / 360 ∧
    (n - 1922501 + 1338219) / 20 % 18 = (n - 584282) % 360 / 20 ∧ (n - 1922501 + 1338219) % 20 = (n - 584282) % 20 := by
  have e : n - 1922501 + 1338219 = n - 584282 := by omega
  rw [e]
  obtain ⟨h1, h2, h3⟩ := @mayan_eq (n - 584282)
  exact ⟨rfl, h1, h2, h3, rfl⟩
theorem fr_eq {h₀ h : Heap} {L : Addr} {m m' : Str → Option Value} (F : Fr h₀ L h m) (e : ∀ y, m' y = m y) : Fr h₀ L h m' := by
  have : m' = m := funext e
  rw [this]; exact F
theorem lt4 {I D x y z : Addr} {a b c d a' b' c' d' : Obj} (h : ∀ p ∈ [(D, a), (x, b), (y, c), (z, d)], p.1 < I) : ∀ p ∈ [(D, a'), (x, b'), (y, c'), (z, d')], p.1 < I := by
  intro p hp
  simp only [List.mem_cons, List.not_mem_nil, or_false] at hp
  rcases hp with rfl | rfl | rfl | rfl
  · exact h (D, a) (by simp)
  · exact h (x, b) (by simp)
  · exact h (y, c) (by simp)
  · exact h (z, d) (by simp)
theorem unr_shift {h₀ : Heap} {L I : Addr} {it : Obj} {J : (Str → Option Value) → List (Addr × Obj) → Prop} {Q : Flow → Shared → Prop} {s s0 s₂ : Shared} {f : Flow} (e : s = { s0 with heap := s.heap, toks := s.toks }) (h : UnrPost h₀ L s I it J Q f s₂) : UnrPost h₀ L s0 I it J Q f s₂ := by
  have go : UnrEnd h₀ L s I it J s₂ → UnrEnd h₀ L s0 I it J s₂ := fun ⟨h', tk, m', news', e2, F, N, o, r⟩ => ⟨h', tk, m', news', by rw [e2, e], F, N, o, r⟩
  cases f with
  | ret v => exact h
  | brk => exact h
  | next => exact go h
  | cont => exact go h
theorem Tail2P_use {w : World} {tb : List Stmt} {sc : Scope} (h : Tail2P w tb sc) {h₀ : Heap} {L fa : Addr} {cdv : Value} {mean : ExcName → Option Value} {mg mb : Str → Option Value} {D I TD T1 T2 T3 T4 T5 T6 T7 UD U1 U2 U3 U4 U5 U6 : Addr} {it oT oU : Obj} {ws : List Value} {o1 o2 o3 : Obj} {x1 x2 x3 : Option Value} {n fr r1 r2 r3 q1 q2 q3 : Int}
    {tc tf tm a1 a2 a3 b1 b2 b3 c1 c2 c3 d1 d2 d3 e1 e2 e3 f1 f2 f3 g1 g2 g3 g4 g5 ua1 ua2 ua3 ub1 ub2 ub3 ud1 ud2 ud3 ue1 ue2 ue3 uf1 uf2 uf3 ug1 ug2 ug3 ug4 ug5 : Tok} {n1 n2 n3 n4 n5 n6 n7 k1 k2 k3 k4 k5 k6 : Nat}
    {J : (Str → Option Value) → List (Addr × Obj) → Prop} {s : Shared} {Q : Flow → Shared → Prop} {E : Value → Shared → Prop} {vU60 vU61 vU62 vU63 vU64 vU30 vU31 vU32 vU20 vU21 vU22 vU10 vU11 vU12 : Int} {s0 : Shared} {m0 : Str → Option Value} {all : List (Addr × Obj)}
    (p0 : Below callerA h₀ [] h₀)
    (p1 : (Mine.hd.heap_39 w.params).In h₀)
    (p2 : Top Mine.hd.view_39 LO mean mg mb h₀)
    (p3 : 2375940 ≤ n)
    (p4 : n ≤ 370000000000)
    (p5 : (fr ≤ 98 → freY (romB' n) (romJ' n) = r1 ∧ freM (romJ' n) = r2 ∧ freD (romJ' n) = r3))
    (p6 : (fr ≤ 126 → freY (madB' n) (madJ' n) = q1 ∧ freM (madJ' n) = q2 ∧ freD (madJ' n) = q3))
    (p7 : it.cls = .type "range_iterator")
    (p8 : (∀ m nw, LawJ D ws (L + 1) (L + 1 + 1) (L + 1 + 1 + 1) 0 m nw → J m nw))
    (p9 : (∀ p ∈ [(D, W.listOf ws.toArray 0), (L + 1 + 1 + 1, o3), (L + 1 + 1, o2), (L + 1, o1)], p.1 < I))
    (p10 : o1.data = .cell x1)
    (p11 : o2.data = .cell x2)
    (p12 : o3.data = .cell x3)
    (p13 : PassesOwn (model Challenge.rw_ad5037_01.row.prog w) (callerA.deeper (envOfC (PySem.Str.ofString "law") sc L fa cdv)) (envOfC (PySem.Str.ofString "law") sc L fa cdv) E)
    (p14 : (UD == sysModules) = false)
    (p15 : oT.IsDictOf (strKind Challenge.rw_ad5037_01.row.prog w) (toldOf T1 T2 T3 T4 T5 T6 T7))
    (p16 : oU.IsDictOf (strKind Challenge.rw_ad5037_01.row.prog w) [(PySem.Str.ofString "loose", Value.ref U1), (PySem.Str.ofString "fixed", Value.ref U2), (PySem.Str.ofString "fourth", Value.ref U3), (PySem.Str.ofString "romme", Value.ref U4), (PySem.Str.ofString "madler", Value.ref U5), (PySem.Str.ofString "long count", Value.ref U6)])
    (eU6 : vU60 = ((n - 584282) / 144000) ∧ vU61 = ((n - 584282) % 144000 / 7200) ∧ vU62 = ((n - 584282) % 7200 / 360) ∧ vU63 = ((n - 584282) % 360 / 20) ∧ vU64 = ((n - 584282) % 20))
    (eU3 : vU30 = (freY (-1) (n - 2375839 + 365)) ∧ vU31 = (freM (n - 2375839 + 365)) ∧ vU32 = (freD (n - 2375839 + 365)))
    (eU2 : vU20 = (sark1 n) ∧ vU21 = (sark2 n) ∧ vU22 = (sark3 n))
    (eU1 : vU10 = (loose1 n) ∧ vU11 = (loose2 n) ∧ vU12 = (loose3 n))
    (F : Fr h₀ L s.heap m0)
    (fm0 : m0 (PySem.Str.ofString "mayan") = some (.int (n - 1922501 + 1338219) tm))
    (fm1 : m0 (PySem.Str.ofString "french") = some (.int fr tf))
    (fm2 : m0 (PySem.Str.ofString "due") = some (.ref UD))
    (fm3 : m0 (PySem.Str.ofString "count") = some (.int (n - 1922501) tc))
    (fm4 : m0 (PySem.Str.ofString "told") = some (.ref TD))
    (fm5 : m0 (PySem.Str.ofString "numbers") = some (.ref D))
    (N : News h₀ L s.heap all)
    (u0 : (UD, oU) ∈ all)
    (u1 : (U6, tupOf [.int vU60 ug1, .int vU61 ug2, .int vU62 ug3, .int vU63 ug4, .int vU64 ug5] k6) ∈ all)
    (u2 : (U5, tupOf [.int q1 uf1, .int q2 uf2, .int q3 uf3] k5) ∈ all)
    (u3 : (U4, tupOf [.int r1 ue1, .int r2 ue2, .int r3 ue3] k4) ∈ all)
    (u4 : (U3, tupOf [.int vU30 ud1, .int vU31 ud2, .int vU32 ud3] k3) ∈ all)
    (u5 : (U2, tupOf [.int vU20 ub1, .int vU21 ub2, .int vU22 ub3] k2) ∈ all)
    (u6 : (U1, tupOf [.int vU10 ua1, .int vU11 ua2, .int vU12 ua3] k1) ∈ all)
    (u7 : (TD, oT) ∈ all)
    (u8 : (T7, tupOf [.int ((n - 584282) / 144000) g1, .int ((n - 584282) % 144000 / 7200) g2, .int ((n - 584282) % 7200 / 360) g3, .int ((n - 584282) % 360 / 20) g4, .int ((n - 584282) % 20) g5] n7) ∈ all)
    (u9 : (T6, tupOf [.int (freY (madB' n) (madJ' n)) f1, .int (freM (madJ' n)) f2, .int (freD (madJ' n)) f3] n6) ∈ all)
    (u10 : (T5, tupOf [.int (freY (romB' n) (romJ' n)) e1, .int (freM (romJ' n)) e2, .int (freD (romJ' n)) e3] n5) ∈ all)
    (u11 : (T4, tupOf [.int (freY (-1) (n - 2375839 + 365)) d1, .int (freM (n - 2375839 + 365)) d2, .int (freD (n - 2375839 + 365)) d3] n4) ∈ all)
    (u12 : (T3, tupOf [.int (copt1 n) c1, .int (copt2 n) c2, .int (copt3 n) c3] n3) ∈ all)
    (u13 : (T2, tupOf [.int (sark1 n) b1, .int (sark2 n) b2, .int (sark3 n) b3] n2) ∈ all)
    (u14 : (T1, tupOf [.int (loose1 n) a1, .int (loose2 n) a2, .int (loose3 n) a3] n1) ∈ all)
    (u15 : (I, it) ∈ all)
    (u16 : (D, W.listOf ws.toArray 0) ∈ all)
    (u17 : (L + 1 + 1 + 1, o3) ∈ all)
    (u18 : (L + 1 + 1, o2) ∈ all)
    (u19 : (L + 1, o1) ∈ all)
    (es : s = { s0 with heap := s.heap, toks := s.toks }) :
    wpAny (model Challenge.rw_ad5037_01.row.prog w) (callerA.deeper (envOfC (PySem.Str.ofString "law") sc L fa cdv)) (execs tb (envOfC (PySem.Str.ofString "law") sc L fa cdv)) (UnrPost h₀ L s0 I it J Q) E s := by
  obtain ⟨rfl, rfl, rfl, rfl, rfl⟩ := eU6
  obtain ⟨rfl, rfl, rfl⟩ := eU3
  obtain ⟨rfl, rfl, rfl⟩ := eU2
  obtain ⟨rfl, rfl, rfl⟩ := eU1
  refine wpAny_mono (h h₀ L fa cdv mean mg mb m0 D I TD T1 T2 T3 T4 T5 T6 T7 UD U1 U2 U3 U4 U5 U6 it oT oU ws o1 o2 o3 x1 x2 x3 n fr r1 r2 r3 q1 q2 q3 tc tf tm a1 a2 a3 b1 b2 b3 c1 c2 c3 d1 d2 d3 e1 e2 e3 f1 f2 f3 g1 g2 g3 g4 g5 ua1 ua2 ua3 ub1 ub2 ub3 ud1 ud2 ud3 ue1 ue2 ue3 uf1 uf2 uf3 ug1 ug2 ug3 ug4 ug5 n1 n2 n3 n4 n5 n6 n7 k1 k2 k3 k4 k5 k6 J s Q E p0 p1 p2 p3 p4 p5 p6 p7 p8 p9 p10 p11 p12 p13 p14 p15 p16 ?F ?N) (fun f s₂ p => unr_shift es p) fun _ _ x => x
  case F =>
    refine fr_eq F fun y => ?_
    by_cases c0 : y = PySem.Str.ofString "mayan"
    · subst c0; rw [fm0]; try rfl
    by_cases c1 : y = PySem.Str.ofString "french"
    · subst c1; rw [fm1]; try rfl
    by_cases c2 : y = PySem.Str.ofString "due"
    · subst c2; rw [fm2]; try rfl
    by_cases c3 : y = PySem.Str.ofString "count"
    · subst c3; rw [fm3]; try rfl
    by_cases c4 : y = PySem.Str.ofString "told"
    · subst c4; rw [fm4]; try rfl
    by_cases c5 : y = PySem.Str.ofString "numbers"
    · subst c5; rw [fm5]; try rfl
    simp only [if_neg c0, if_neg c1, if_neg c2, if_neg c3, if_neg c4, if_neg c5]
  case N =>
    intro p hp
    simp only [List.mem_cons, List.not_mem_nil, or_false] at hp
    rcases hp with rfl | rfl | rfl | rfl | rfl | rfl | rfl | rfl | rfl | rfl | rfl | rfl | rfl | rfl | rfl | rfl | rfl | rfl | rfl | rfl
    · exact N _ u0
    · exact N _ u1
    · exact N _ u2
    · exact N _ u3
    · exact N _ u4
    · exact N _ u5
    · exact N _ u6
    · exact N _ u7
    · exact N _ u8
    · exact N _ u9
    · exact N _ u10
    · exact N _ u11
    · exact N _ u12
    · exact N _ u13
    · exact N _ u14
    · exact N _ u15
    · exact N _ u16
    · exact N _ u17
    · exact N _ u18
    · exact N _ u19
theorem TailP_use {w : World} {tb : List Stmt} {sc : Scope} (h : TailP w tb sc) {h₀ : Heap} {L fa : Addr} {cdv : Value} {mean : ExcName → Option Value} {mg mb : Str → Option Value} {D I TD T1 T2 T3 T4 T5 T6 T7 : Addr} {it oT : Obj} {ws : List Value} {o1 o2 o3 : Obj} {x1 x2 x3 : Option Value} {n : Int}
    {t1 t2 t3 a1 a2 a3 b1 b2 b3 c1 c2 c3 d1 d2 d3 e1 e2 e3 f1 f2 f3 g1 g2 g3 g4 g5 : Tok} {n1 n2 n3 n4 n5 n6 n7 : Nat}
    {J : (Str → Option Value) → List (Addr × Obj) → Prop} {s : Shared} {Q : Flow → Shared → Prop} {E : Value → Shared → Prop} {s0 : Shared} {m0 : Str → Option Value} {all : List (Addr × Obj)}
    (p0 : Below callerA h₀ [] h₀)
    (p1 : (Mine.hd.heap_39 w.params).In h₀)
    (p2 : Top Mine.hd.view_39 LO mean mg mb h₀)
    (p3 : 2375940 ≤ n)
    (p4 : n ≤ 370000000000)
    (p5 : it.cls = .type "range_iterator")
    (p6 : (∀ m nw, LawJ D ws (L + 1) (L + 1 + 1) (L + 1 + 1 + 1) 0 m nw → J m nw))
    (p7 : (∀ p ∈ [(D, W.listOf ws.toArray 0), (L + 1 + 1 + 1, o3), (L + 1 + 1, o2), (L + 1, o1)], p.1 < I))
    (p8 : o1.data = .cell x1)
    (p9 : o2.data = .cell x2)
    (p10 : o3.data = .cell x3)
    (p11 : PassesOwn (model Challenge.rw_ad5037_01.row.prog w) (callerA.deeper (envOfC (PySem.Str.ofString "law") sc L fa cdv)) (envOfC (PySem.Str.ofString "law") sc L fa cdv) E)
    (p12 : oT.IsDictOf (strKind Challenge.rw_ad5037_01.row.prog w) (toldOf T1 T2 T3 T4 T5 T6 T7))
    (F : Fr h₀ L s.heap m0)
    (fm0 : m0 (PySem.Str.ofString "rest") = some (.int (copt3 n) t3))
    (fm1 : m0 (PySem.Str.ofString "unit") = some (.int (copt2 n) t2))
    (fm2 : m0 (PySem.Str.ofString "own") = some (.int (copt1 n) t1))
    (fm3 : m0 (PySem.Str.ofString "told") = some (.ref TD))
    (fm4 : m0 (PySem.Str.ofString "numbers") = some (.ref D))
    (N : News h₀ L s.heap all)
    (u0 : (TD, oT) ∈ all)
    (u1 : (T7, tupOf [.int ((n - 584282) / 144000) g1, .int ((n - 584282) % 144000 / 7200) g2, .int ((n - 584282) % 7200 / 360) g3, .int ((n - 584282) % 360 / 20) g4, .int ((n - 584282) % 20) g5] n7) ∈ all)
    (u2 : (T6, tupOf [.int (freY (madB' n) (madJ' n)) f1, .int (freM (madJ' n)) f2, .int (freD (madJ' n)) f3] n6) ∈ all)
    (u3 : (T5, tupOf [.int (freY (romB' n) (romJ' n)) e1, .int (freM (romJ' n)) e2, .int (freD (romJ' n)) e3] n5) ∈ all)
    (u4 : (T4, tupOf [.int (freY (-1) (n - 2375839 + 365)) d1, .int (freM (n - 2375839 + 365)) d2, .int (freD (n - 2375839 + 365)) d3] n4) ∈ all)
    (u5 : (T3, tupOf [.int (copt1 n) c1, .int (copt2 n) c2, .int (copt3 n) c3] n3) ∈ all)
    (u6 : (T2, tupOf [.int (sark1 n) b1, .int (sark2 n) b2, .int (sark3 n) b3] n2) ∈ all)
    (u7 : (T1, tupOf [.int (loose1 n) a1, .int (loose2 n) a2, .int (loose3 n) a3] n1) ∈ all)
    (u8 : (I, it) ∈ all)
    (u9 : (D, W.listOf ws.toArray 0) ∈ all)
    (u10 : (L + 1 + 1 + 1, o3) ∈ all)
    (u11 : (L + 1 + 1, o2) ∈ all)
    (u12 : (L + 1, o1) ∈ all)
    (es : s = { s0 with heap := s.heap, toks := s.toks }) :
    wpAny (model Challenge.rw_ad5037_01.row.prog w) (callerA.deeper (envOfC (PySem.Str.ofString "law") sc L fa cdv)) (execs tb (envOfC (PySem.Str.ofString "law") sc L fa cdv)) (UnrPost h₀ L s0 I it J Q) E s := by
  refine wpAny_mono (h h₀ L fa cdv mean mg mb m0 D I TD T1 T2 T3 T4 T5 T6 T7 it oT ws o1 o2 o3 x1 x2 x3 n t1 t2 t3 a1 a2 a3 b1 b2 b3 c1 c2 c3 d1 d2 d3 e1 e2 e3 f1 f2 f3 g1 g2 g3 g4 g5 n1 n2 n3 n4 n5 n6 n7 J s Q E p0 p1 p2 p3 p4 p5 p6 p7 p8 p9 p10 p11 p12 ?F ?N) (fun f s₂ p => unr_shift es p) fun _ _ x => x
  case F =>
    refine fr_eq F fun y => ?_
    by_cases c0 : y = PySem.Str.ofString "rest"
    · subst c0; rw [fm0]; try rfl
    by_cases c1 : y = PySem.Str.ofString "unit"
    · subst c1; rw [fm1]; try rfl
    by_cases c2 : y = PySem.Str.ofString "own"
    · subst c2; rw [fm2]; try rfl
    by_cases c3 : y = PySem.Str.ofString "told"
    · subst c3; rw [fm3]; try rfl
    by_cases c4 : y = PySem.Str.ofString "numbers"
    · subst c4; rw [fm4]; try rfl
    simp only [if_neg c0, if_neg c1, if_neg c2, if_neg c3, if_neg c4]
  case N =>
    intro p hp
    simp only [List.mem_cons, List.not_mem_nil, or_false] at hp
    rcases hp with rfl | rfl | rfl | rfl | rfl | rfl | rfl | rfl | rfl | rfl | rfl | rfl | rfl
    · exact N _ u0
    · exact N _ u1
    · exact N _ u2
    · exact N _ u3
    · exact N _ u4
    · exact N _ u5
    · exact N _ u6
    · exact N _ u7
    · exact N _ u8
    · exact N _ u9
    · exact N _ u10
    · exact N _ u11
    · exact N _ u12
end Mine
end
open PySem PySem.W PyProof.Rows
set_option maxRecDepth 100000
set_option maxHeartbeats 8000000
namespace Mine
theorem gen_tok {M : Model} {A : Around} {α : Type} {T : Sem α} {Q : α → Shared → Prop} {E : Value → Shared → Prop} {h : Heap} {g d o} {X : Nat} (k : ∀ tk : Nat, wpAny M A T Q E ⟨h, g, d, tk, o⟩) : wpAny M A T Q E ⟨h, g, d, X + 1, o⟩ := k _
local macro_rules | `(tactic| walk_at "execs cons") => `(tactic| (k_here; with_reducible refine gen_tok ?_; intro tk'))
local macro_rules | `(tactic| walk_at "execs nil") => `(tactic| (k_here; with_reducible refine gen_tok ?_; intro tk'))
local macro_rules | `(tactic| walk_at "binaryOp Add float float") => `(tactic| (k_here; first | (refine' r_add_ff ?hx ?hy ?b1 ?b2 ?_; (case hx => first | with_reducible assumption | exact c_half | exact c_thirty | exact c_days | exact c_cyc | exact c_four | exact c_hund | exact c_fhund | exact c_fthou | exact c_armen | exact c_sark | exact c_copt | exact c_french | exact c_mayan | exact c_greg); (case hy => first | with_reducible assumption | exact c_half | exact c_thirty | exact c_days | exact c_cyc | exact c_four | exact c_hund | exact c_fhund | exact c_fthou | exact c_armen | exact c_sark | exact c_copt | exact c_french | exact c_mayan | exact c_greg); (case b1 => omega); (case b2 => omega); intro z' hz'; (try dsimp only))))
local macro_rules | `(tactic| walk_at "binaryOp Sub float float") => `(tactic| (k_here; first | (refine' r_sub_ff ?hx ?hy ?b1 ?b2 ?_; (case hx => first | with_reducible assumption | exact c_half | exact c_thirty | exact c_days | exact c_cyc | exact c_four | exact c_hund | exact c_fhund | exact c_fthou | exact c_armen | exact c_sark | exact c_copt | exact c_french | exact c_mayan | exact c_greg); (case hy => first | with_reducible assumption | exact c_half | exact c_thirty | exact c_days | exact c_cyc | exact c_four | exact c_hund | exact c_fhund | exact c_fthou | exact c_armen | exact c_sark | exact c_copt | exact c_french | exact c_mayan | exact c_greg); (case b1 => omega); (case b2 => omega); intro z' hz'; (try dsimp only))))
local macro_rules | `(tactic| walk_at "binaryOp Add float int") => `(tactic| (k_here; first | (refine' r_add_fi ?hx ?b1 ?b2 ?b3 ?b4 ?_; (case hx => first | with_reducible assumption | exact c_half | exact c_thirty | exact c_days | exact c_cyc | exact c_four | exact c_hund | exact c_fhund | exact c_fthou | exact c_armen | exact c_sark | exact c_copt | exact c_french | exact c_mayan | exact c_greg); (case b1 => omega); (case b2 => omega); (case b3 => omega); (case b4 => omega); intro z' hz'; (try dsimp only)) | (refine' r_add_md1 ?hx ?b1 ?_; (case hx => with_reducible assumption); (case b1 => omega); intro z' hz'; (try dsimp only)) | (refine' r_add_md2 ?hx ?b1 ?b2 ?_; (case hx => with_reducible assumption); (case b1 => omega); (case b2 => omega); intro z' hz'; (try dsimp only))))
local macro_rules | `(tactic| walk_at "binaryOp Add int float") => `(tactic| (k_here; first | (refine' r_add_if ?hx ?b1 ?b2 ?b3 ?b4 ?_; (case hx => first | with_reducible assumption | exact c_half | exact c_thirty | exact c_days | exact c_cyc | exact c_four | exact c_hund | exact c_fhund | exact c_fthou | exact c_armen | exact c_sark | exact c_copt | exact c_french | exact c_mayan | exact c_greg); (case b1 => omega); (case b2 => omega); (case b3 => omega); (case b4 => omega); intro z' hz'; (try dsimp only))))
local macro_rules | `(tactic| walk_at "binaryOp Sub float int") => `(tactic| (k_here; first | (refine' r_sub_fi ?hx ?b1 ?b2 ?b3 ?b4 ?_; (case hx => first | with_reducible assumption | exact c_half | exact c_thirty | exact c_days | exact c_cyc | exact c_four | exact c_hund | exact c_fhund | exact c_fthou | exact c_armen | exact c_sark | exact c_copt | exact c_french | exact c_mayan | exact c_greg); (case b1 => omega); (case b2 => omega); (case b3 => omega); (case b4 => omega); intro z' hz'; (try dsimp only))))
local macro_rules | `(tactic| walk_at "binaryOp Mult float int") => `(tactic| (k_here; first | (refine' r_mul_fi ?hx ?b1 ?b2 ?b3 ?b4 ?_; (case hx => first | with_reducible assumption | exact c_half | exact c_thirty | exact c_days | exact c_cyc | exact c_four | exact c_hund | exact c_fhund | exact c_fthou | exact c_armen | exact c_sark | exact c_copt | exact c_french | exact c_mayan | exact c_greg); (case b1 => omega); (case b2 => omega); (case b3 => omega); (case b4 => omega); intro z' hz'; (try dsimp only))))
local macro_rules | `(tactic| walk_at "binaryOp Mult int float") => `(tactic| (k_here; first | (refine' r_mul_if ?hx ?b1 ?b2 ?b3 ?b4 ?_; (case hx => first | with_reducible assumption | exact c_half | exact c_thirty | exact c_days | exact c_cyc | exact c_four | exact c_hund | exact c_fhund | exact c_fthou | exact c_armen | exact c_sark | exact c_copt | exact c_french | exact c_mayan | exact c_greg); (case b1 => omega); (case b2 => omega); (case b3 => omega); (case b4 => omega); intro z' hz'; (try dsimp only))))
local macro_rules | `(tactic| walk_at "binaryOp Mod float float") => `(tactic| (k_here; first | (refine' r_mod_ff ?hx ?hy ?b1 ?b2 ?b3 ?_; (case hx => first | with_reducible assumption | exact c_half | exact c_thirty | exact c_days | exact c_cyc | exact c_four | exact c_hund | exact c_fhund | exact c_fthou | exact c_armen | exact c_sark | exact c_copt | exact c_french | exact c_mayan | exact c_greg); (case hy => first | with_reducible assumption | exact c_half | exact c_thirty | exact c_days | exact c_cyc | exact c_four | exact c_hund | exact c_fhund | exact c_fthou | exact c_armen | exact c_sark | exact c_copt | exact c_french | exact c_mayan | exact c_greg); (case b1 => omega); (case b2 => omega); (case b3 => omega); intro z' hz'; (try dsimp only))))
local macro_rules | `(tactic| walk_at "binaryOp Mod float int") => `(tactic| (k_here; first | (refine' r_mod_fi ?hx ?b1 ?b2 ?b3 ?_; (case hx => first | with_reducible assumption | exact c_half | exact c_thirty | exact c_days | exact c_cyc | exact c_four | exact c_hund | exact c_fhund | exact c_fthou | exact c_armen | exact c_sark | exact c_copt | exact c_french | exact c_mayan | exact c_greg); (case b1 => omega); (case b2 => omega); (case b3 => omega); intro z' hz'; (try dsimp only))))
local macro_rules | `(tactic| walk_at "binaryOp Div float float") => `(tactic| (k_here; first | (refine' r_div_1461 ?hx ?b1 ?b2 ?_; (case hx => first | with_reducible assumption | exact c_half | exact c_thirty | exact c_days | exact c_cyc | exact c_four | exact c_hund | exact c_fhund | exact c_fthou | exact c_armen | exact c_sark | exact c_copt | exact c_french | exact c_mayan | exact c_greg); (case b1 => omega); (case b2 => omega); intro z' hz'; (try dsimp only)) | (refine' r_div_ff ?hx ?hy ?b1 ?b2 ?b3 ?_; (case hx => first | with_reducible assumption | exact c_half | exact c_thirty | exact c_days | exact c_cyc | exact c_four | exact c_hund | exact c_fhund | exact c_fthou | exact c_armen | exact c_sark | exact c_copt | exact c_french | exact c_mayan | exact c_greg); (case hy => first | with_reducible assumption | exact c_half | exact c_thirty | exact c_days | exact c_cyc | exact c_four | exact c_hund | exact c_fhund | exact c_fthou | exact c_armen | exact c_sark | exact c_copt | exact c_french | exact c_mayan | exact c_greg); (case b1 => omega); (case b2 => omega); (case b3 => omega); intro z' hz'; (try dsimp only))))
local macro_rules | `(tactic| walk_at "binaryOp Div float int") => `(tactic| (k_here; first | (refine' r_div_fi ?hx ?b1 ?b2 ?b3 ?_; (case hx => first | with_reducible assumption | exact c_half | exact c_thirty | exact c_days | exact c_cyc | exact c_four | exact c_hund | exact c_fhund | exact c_fthou | exact c_armen | exact c_sark | exact c_copt | exact c_french | exact c_mayan | exact c_greg); (case b1 => omega); (case b2 => omega); (case b3 => omega); intro z' hz'; (try dsimp only))))
local macro_rules | `(tactic| walk_at "binaryOp Div int float") => `(tactic| (k_here; first | (refine' r_div_if ?hx ?b1 ?b2 ?b3 ?_; (case hx => first | with_reducible assumption | exact c_half | exact c_thirty | exact c_days | exact c_cyc | exact c_four | exact c_hund | exact c_fhund | exact c_fthou | exact c_armen | exact c_sark | exact c_copt | exact c_french | exact c_mayan | exact c_greg); (case b1 => omega); (case b2 => omega); (case b3 => omega); intro z' hz'; (try dsimp only))))
local macro_rules | `(tactic| walk_at "binaryOp Div int int") => `(tactic| (k_here; first | (refine' r_div_md ?b1 ?b2 ?_; (case b1 => omega); (case b2 => omega); intro z' hz'; (try dsimp only)) | (refine' r_div_ii ?b1 ?b2 ?b3 ?_; (case b1 => omega); (case b2 => omega); (case b3 => omega); intro z' hz'; (try dsimp only))))
local macro_rules | `(tactic| walk_at "compareOp Lt float int") => `(tactic| (k_here; first | (refine' r_lt_fi_t ?hx ?b1 ?_; (case hx => first | with_reducible assumption | exact c_half | exact c_thirty | exact c_days | exact c_cyc | exact c_four | exact c_hund | exact c_fhund | exact c_fthou | exact c_armen | exact c_sark | exact c_copt | exact c_french | exact c_mayan | exact c_greg); (case b1 => omega); (try dsimp only)) | (refine' r_lt_fi_f ?hx ?b1 ?_; (case hx => first | with_reducible assumption | exact c_half | exact c_thirty | exact c_days | exact c_cyc | exact c_four | exact c_hund | exact c_fhund | exact c_fthou | exact c_armen | exact c_sark | exact c_copt | exact c_french | exact c_mayan | exact c_greg); (case b1 => omega); (try dsimp only)) | (refine' r_lt_fi ?hx ?_; (case hx => first | with_reducible assumption | exact c_half | exact c_thirty | exact c_days | exact c_cyc | exact c_four | exact c_hund | exact c_fhund | exact c_fthou | exact c_armen | exact c_sark | exact c_copt | exact c_french | exact c_mayan | exact c_greg); (try dsimp only))))
local macro_rules | `(tactic| walk_at "compareOp Eq float int") => `(tactic| (k_here; first | (refine' r_eq_fi_t ?hx ?b1 ?_; (case hx => first | with_reducible assumption | exact c_half | exact c_thirty | exact c_days | exact c_cyc | exact c_four | exact c_hund | exact c_fhund | exact c_fthou | exact c_armen | exact c_sark | exact c_copt | exact c_french | exact c_mayan | exact c_greg); (case b1 => omega); (try dsimp only)) | (refine' r_eq_fi_f ?hx ?b1 ?_; (case hx => first | with_reducible assumption | exact c_half | exact c_thirty | exact c_days | exact c_cyc | exact c_four | exact c_hund | exact c_fhund | exact c_fthou | exact c_armen | exact c_sark | exact c_copt | exact c_french | exact c_mayan | exact c_greg); (case b1 => omega); (try dsimp only)) | (refine' r_eq_fi ?hx ?_; (case hx => first | with_reducible assumption | exact c_half | exact c_thirty | exact c_days | exact c_cyc | exact c_four | exact c_hund | exact c_fhund | exact c_fthou | exact c_armen | exact c_sark | exact c_copt | exact c_french | exact c_mayan | exact c_greg); (try dsimp only))))
local macro_rules | `(tactic| walk_at "compareOp Eq int float") => `(tactic| (k_here; first | (refine' r_eq_if_t ?hx ?b1 ?_; (case hx => first | with_reducible assumption | exact c_half | exact c_thirty | exact c_days | exact c_cyc | exact c_four | exact c_hund | exact c_fhund | exact c_fthou | exact c_armen | exact c_sark | exact c_copt | exact c_french | exact c_mayan | exact c_greg); (case b1 => omega); (try dsimp only)) | (refine' r_eq_if_f ?hx ?b1 ?_; (case hx => first | with_reducible assumption | exact c_half | exact c_thirty | exact c_days | exact c_cyc | exact c_four | exact c_hund | exact c_fhund | exact c_fthou | exact c_armen | exact c_sark | exact c_copt | exact c_french | exact c_mayan | exact c_greg); (case b1 => omega); (try dsimp only)) | (refine' r_eq_if ?hx ?_; (case hx => first | with_reducible assumption | exact c_half | exact c_thirty | exact c_days | exact c_cyc | exact c_four | exact c_hund | exact c_fhund | exact c_fthou | exact c_armen | exact c_sark | exact c_copt | exact c_french | exact c_mayan | exact c_greg); (try dsimp only))))
local macro_rules | `(tactic| walk_at "compareOp Lt float float") => `(tactic| (k_here; first | (refine' r_lt_ff_t ?hx ?hy ?b1 ?_; (case hx => first | with_reducible assumption | exact c_half | exact c_thirty | exact c_days | exact c_cyc | exact c_four | exact c_hund | exact c_fhund | exact c_fthou | exact c_armen | exact c_sark | exact c_copt | exact c_french | exact c_mayan | exact c_greg); (case hy => first | with_reducible assumption | exact c_half | exact c_thirty | exact c_days | exact c_cyc | exact c_four | exact c_hund | exact c_fhund | exact c_fthou | exact c_armen | exact c_sark | exact c_copt | exact c_french | exact c_mayan | exact c_greg); (case b1 => omega); (try dsimp only)) | (refine' r_lt_ff_f ?hx ?hy ?b1 ?_; (case hx => first | with_reducible assumption | exact c_half | exact c_thirty | exact c_days | exact c_cyc | exact c_four | exact c_hund | exact c_fhund | exact c_fthou | exact c_armen | exact c_sark | exact c_copt | exact c_french | exact c_mayan | exact c_greg); (case hy => first | with_reducible assumption | exact c_half | exact c_thirty | exact c_days | exact c_cyc | exact c_four | exact c_hund | exact c_fhund | exact c_fthou | exact c_armen | exact c_sark | exact c_copt | exact c_french | exact c_mayan | exact c_greg); (case b1 => omega); (try dsimp only)) | (refine' r_lt_ff ?hx ?hy ?_; (case hx => first | with_reducible assumption | exact c_half | exact c_thirty | exact c_days | exact c_cyc | exact c_four | exact c_hund | exact c_fhund | exact c_fthou | exact c_armen | exact c_sark | exact c_copt | exact c_french | exact c_mayan | exact c_greg); (case hy => first | with_reducible assumption | exact c_half | exact c_thirty | exact c_days | exact c_cyc | exact c_four | exact c_hund | exact c_fhund | exact c_fthou | exact c_armen | exact c_sark | exact c_copt | exact c_french | exact c_mayan | exact c_greg); (try dsimp only))))
local macro_rules | `(tactic| walk_at "compareOp Eq float float") => `(tactic| (k_here; first | (refine' r_eq_ff_t ?hx ?hy ?b1 ?_; (case hx => first | with_reducible assumption | exact c_half | exact c_thirty | exact c_days | exact c_cyc | exact c_four | exact c_hund | exact c_fhund | exact c_fthou | exact c_armen | exact c_sark | exact c_copt | exact c_french | exact c_mayan | exact c_greg); (case hy => first | with_reducible assumption | exact c_half | exact c_thirty | exact c_days | exact c_cyc | exact c_four | exact c_hund | exact c_fhund | exact c_fthou | exact c_armen | exact c_sark | exact c_copt | exact c_french | exact c_mayan | exact c_greg); (case b1 => omega); (try dsimp only)) | (refine' r_eq_ff_f ?hx ?hy ?b1 ?_; (case hx => first | with_reducible assumption | exact c_half | exact c_thirty | exact c_days | exact c_cyc | exact c_four | exact c_hund | exact c_fhund | exact c_fthou | exact c_armen | exact c_sark | exact c_copt | exact c_french | exact c_mayan | exact c_greg); (case hy => first | with_reducible assumption | exact c_half | exact c_thirty | exact c_days | exact c_cyc | exact c_four | exact c_hund | exact c_fhund | exact c_fthou | exact c_armen | exact c_sark | exact c_copt | exact c_french | exact c_mayan | exact c_greg); (case b1 => omega); (try dsimp only)) | (refine' r_eq_ff ?hx ?hy ?_; (case hx => first | with_reducible assumption | exact c_half | exact c_thirty | exact c_days | exact c_cyc | exact c_four | exact c_hund | exact c_fhund | exact c_fthou | exact c_armen | exact c_sark | exact c_copt | exact c_french | exact c_mayan | exact c_greg); (case hy => first | with_reducible assumption | exact c_half | exact c_thirty | exact c_days | exact c_cyc | exact c_four | exact c_hund | exact c_fhund | exact c_fthou | exact c_armen | exact c_sark | exact c_copt | exact c_french | exact c_mayan | exact c_greg); (try dsimp only))))
local macro_rules | `(tactic| walk_at "compareOp LtE float float") => `(tactic| (k_here; first | (refine' r_le_ff_t ?hx ?hy ?b1 ?_; (case hx => first | with_reducible assumption | exact c_half | exact c_thirty | exact c_days | exact c_cyc | exact c_four | exact c_hund | exact c_fhund | exact c_fthou | exact c_armen | exact c_sark | exact c_copt | exact c_french | exact c_mayan | exact c_greg); (case hy => first | with_reducible assumption | exact c_half | exact c_thirty | exact c_days | exact c_cyc | exact c_four | exact c_hund | exact c_fhund | exact c_fthou | exact c_armen | exact c_sark | exact c_copt | exact c_french | exact c_mayan | exact c_greg); (case b1 => omega); (try dsimp only)) | (refine' r_le_ff_f ?hx ?hy ?b1 ?_; (case hx => first | with_reducible assumption | exact c_half | exact c_thirty | exact c_days | exact c_cyc | exact c_four | exact c_hund | exact c_fhund | exact c_fthou | exact c_armen | exact c_sark | exact c_copt | exact c_french | exact c_mayan | exact c_greg); (case hy => first | with_reducible assumption | exact c_half | exact c_thirty | exact c_days | exact c_cyc | exact c_four | exact c_hund | exact c_fhund | exact c_fthou | exact c_armen | exact c_sark | exact c_copt | exact c_french | exact c_mayan | exact c_greg); (case b1 => omega); (try dsimp only)) | (refine' r_le_ff ?hx ?hy ?_; (case hx => first | with_reducible assumption | exact c_half | exact c_thirty | exact c_days | exact c_cyc | exact c_four | exact c_hund | exact c_fhund | exact c_fthou | exact c_armen | exact c_sark | exact c_copt | exact c_french | exact c_mayan | exact c_greg); (case hy => first | with_reducible assumption | exact c_half | exact c_thirty | exact c_days | exact c_cyc | exact c_four | exact c_hund | exact c_fhund | exact c_fthou | exact c_armen | exact c_sark | exact c_copt | exact c_french | exact c_mayan | exact c_greg); (try dsimp only))))
local macro_rules | `(tactic| walk_at "call builtin:math.floor") => `(tactic| (k_here; first | (refine' r_floor_md ?hx ?_ ?hA; (case hx => with_reducible assumption); (case hA => with_unfolding_all rfl); (try dsimp only)) | (refine' r_floor_R ?hx ?_ ?hA; (case hx => with_reducible assumption); (case hA => with_unfolding_all rfl); (try dsimp only)) | (refine' r_floor_H ?hx ?_ ?hA; (case hx => first | with_reducible assumption | exact c_half | exact c_thirty | exact c_days | exact c_cyc | exact c_four | exact c_hund | exact c_fhund | exact c_fthou | exact c_armen | exact c_sark | exact c_copt | exact c_french | exact c_mayan | exact c_greg); (case hA => with_unfolding_all rfl); (try dsimp only))))
local macro_rules | `(tactic| walk_at "call builtin:math.trunc") => `(tactic| (k_here; first | (refine' r_trunc_R ?hx ?_ ?hA; (case hx => with_reducible assumption); (case hA => with_unfolding_all rfl); (try dsimp only)) | (refine' r_trunc_H ?hx ?hp ?_ ?hA; (case hx => first | with_reducible assumption | exact c_half | exact c_thirty | exact c_days | exact c_cyc | exact c_four | exact c_hund | exact c_fhund | exact c_fthou | exact c_armen | exact c_sark | exact c_copt | exact c_french | exact c_mayan | exact c_greg); (case hp => omega); (case hA => with_unfolding_all rfl); (try dsimp only))))
local macro_rules | `(tactic| walk_at "call type:int") => `(tactic| (k_here; refine' r_int_H ?hx ?hp ?_; (case hx => first | with_reducible assumption | exact c_half | exact c_thirty | exact c_days | exact c_cyc | exact c_four | exact c_hund | exact c_fhund | exact c_fthou | exact c_armen | exact c_sark | exact c_copt | exact c_french | exact c_mayan | exact c_greg); (case hp => omega); (try dsimp only)))
local macro_rules | `(tactic| walk_at "binaryOp Mod int int") => `(tactic| (k_here; first | (refine' r_mod_ii ?b1 ?_; (case b1 => omega); (try dsimp only))))
local macro_rules | `(tactic| walk_at "binaryOp FloorDiv int int") => `(tactic| (k_here; first | (refine' r_fdiv_ii ?b1 ?b2 ?_; (case b1 => omega); (case b2 => omega); (try dsimp only))))
local macro_rules | `(tactic| walk_at "leaving ref") => `(tactic| (k_here; first | (refine' leave_raiseS ?k1 ?k0 ?k2 ?k3 ?_; (case k0 => first | assumption | exact Heap.MadeExc.of (by assumption)); (case k2 => assumption); (case k1 => assumption); (case k3 => k_asm); k_whole; intro h' t' S' R' U'; (try dsimp only at S' R' U' ⊢)) | (refine' leave_onSN ?k1 ?k2 ?k3 ?k4 ?_; (case k3 => assumption); (case k2 => assumption); (case k1 => assumption); (case k4 => assumption); k_whole; intro h' S' R' U'; (try dsimp only at S' R' U' ⊢))))
local macro_rules | `(tactic| walk_at "call builtin:str.format") => `(tactic| (k_here; (refine' fmt_month ?b1 ?b2 ?b3 ?b4 ?_; (case b1 => omega); (case b2 => omega); (case b3 => omega); (case b4 => omega)); intro x' t' k'))
local macro_rules | `(tactic| walk_at "compareOp In int ref") => `(tactic| (k_here; k_dflt (refine' in_30 ?F ?X ?l ?i ?_; (case F => k_asm); (case X => k_asm); (case l => k_is); (case i => exact .cons _ _ (.cons _ _ (.cons _ _ (.cons _ _ .nil)))))))
local macro_rules | `(tactic| walk_at "compareOp In str ref") => `(tactic| (k_here; first | (refine' in_mix_s (b := false) ?N ?m ?b ?_; (case N => k_asm); (case m => k_mem); (case b => decide +kernel)) | (refine' in_mix_s (b := true) ?N ?m ?b ?_; (case N => k_asm); (case m => k_mem); (case b => decide +kernel))))
local macro_rules | `(tactic| walk_at "compareOp In int ref") => `(tactic| (k_here; first | (refine' in_mix_i (b := false) ?N ?m ?b ?_; (case N => k_asm); (case m => k_mem); (case b => decide +kernel)) | (refine' in_mix_i (b := true) ?N ?m ?b ?_; (case N => k_asm); (case m => k_mem); (case b => decide +kernel))))
local macro_rules | `(tactic| walk_at "call builtin:str.format") => `(tactic| (k_here; (refine' fmt_four ?b1 ?b2 ?b3 ?b4 ?b5 ?b6 ?_; (case b1 => omega); (case b2 => omega); (case b3 => first | assumption | exact tz2_len _); (case b4 => omega); (case b5 => omega); (case b6 => first | assumption | exact haab2_len _)); intro t' k'))
local macro_rules | `(tactic| walk_at "eval Call Attribute") => `(tactic| (k_here; (with_reducible show wpAny _ _ (eval (Expr.Call (Expr.Attribute (Expr.Constant _ _ _) _ _) [Expr.Starred _ _] [] _) _) _ _ _); k_dflt (refine methodCall_KW ?_)))
local macro_rules | `(tactic| walk_at "eval Name") => `(tactic| (k_here; k_dflt (first | ((with_reducible show wpAny _ _ (eval (Expr.Name _ _) (compEnvC _ _ _ _)) _ _ _); first | (refine' lcf_cell ?N ?c ?m ?d ?_ ?a ?b; (case b => rfl); (case a => rfl); (case N => k_asm); (case c => rfl); (case m => k_mem); (case d => k_asm); k_whole) | refine LCgL.ld_own (by k_asm) (by k_mem) (by assumption) (by assumption) ?_ | refine LCgL.ld_global (by k_asm) (by k_asm) (by k_asm) (by k_is) ?_) | (name_kind "local"; refine' nameX_L ?F ?v ?_ ?a ?b ?d; (case b => (simp only [Env.kindOf, List.lookup, str_beq, String.reduceBEq])); (case F => k_asm); (case a => rfl); (case d => decide +kernel); (case v => (simp only [str_inj, ↓reduceIte, String.reduceEq]; exact rfl)); k_whole) | (name_kind "cell"; refine' nameX_C ?N ?c ?m ?d ?_ ?a ?b; (case b => (simp only [Env.kindOf, List.lookup, str_beq, String.reduceBEq])); (case a => rfl); (case N => k_asm); (case c => rfl); (case m => k_mem); (case d => k_asm); k_whole) | (name_kind "globalImplicit"; refine' nameX_K ?F ?X ?T ?e ?_ ?a ?b ?d; (case b => (simp only [Env.kindOf, List.lookup, str_beq, String.reduceBEq])); (case F => k_asm); (case X => k_asm); (case T => k_asm); (case a => rfl); (case d => decide +kernel); (case e => k_is); k_whole))))
local macro_rules | `(tactic| walk_at "exec Raise some none") => `(tactic| (k_here; (with_reducible show wpAny _ _ (exec (Stmt.Raise (some (Expr.Call (Expr.Name (PySem.Str.ofString "ValueError") _) (_ :: _) [] _)) none _) _) _ _ _); k_dflt (refine' Raise_madeB PySem.F.excCall_ValueError PySem.F.excRaise_ValueError rfl ?_; refine' name_B ?kF ?k1 ?k2 ?k3 ?k4 ?k5 ?_; (case kF => k_asm); (case k1 => k_asm); (case k2 => k_asm); (case k3 => k_is); (case k4 => boot_by_name); (case k5 => decide); refine ⟨rfl, ?_⟩)))
local macro_rules | `(tactic| walk_at "callWith ref") => `(tactic| (k_here; first | ((with_reducible show wpAny _ _ (callWith _ (Value.ref _) _ (backTo _ (starEach [] _)) []) _ _ _); k_dflt (refine' callWith_K0 ?k1 ?k2 ?_; (case k1 => exact Frag.In.keeps (by k_asm) (Fr.keep (by k_asm))); (case k2 => k_is); k_whole)) | ((with_reducible show wpAny _ _ (callWith _ (Value.ref _) _ _ []) _ _ _); k_dflt (refine' callWith_K ?k1 ?k2 ?_; (case k1 => k_asm); (case k2 => k_is); k_whole)) | ((with_reducible show wpAny _ _ (callWith _ (Value.ref _) _ _ (backToKw _ (keywordEach (_ :: _) _))) _ _ _); k_dflt (refine' callWith_KW ?k1 ?k2 ?k3 ?_; (case k1 => k_asm); (case k2 => k_is); (case k3 => exact rfl); k_whole))))
local macro_rules | `(tactic| walk_at "ite") => `(tactic| (k_closed; with_reducible (first | refine ite_tt ?_ | refine ite_ff ?_ | refine PySem.W.ite_pos (by decide) ?_ | refine PySem.W.ite_neg (by decide) ?_)))
local macro_rules | `(tactic| walk_at "callWith") => `(tactic| (k_here; (with_reducible show wpAny _ _ (callWith _ (Value.builtin _) _ (backTo _ (starEach [Expr.Starred _ _] _)) []) _ _ _); k_dflt (refine' callWith_SB ?_)))
theorem leap_a {y : Int} (h4 : y % 4 = 0) (h : y % 100 ≠ 0) : (y % 100 != 0) = decide (leapP y) := by simp [leapP, h4, h]
theorem leap_b {y : Int} (h4 : y % 4 = 0) (h : y % 100 = 0) : (y % 400 == 0) = decide (leapP y) := by
  by_cases h5 : y % 400 = 0 <;> simp [leapP, h4, h, h5]
theorem leap_c {y : Int} (h4 : y % 4 ≠ 0) : (y % 4 == 0) = decide (leapP y) := by simp [leapP, h4]
theorem isleap_spec (w : World) (y : Int) (t : Tok) : Spec w 1 57 [.int y t] (fun tl v => tl = [] ∧ v = .bool (decide (leapP y))) := by
  unfold Spec
  k_fill
  intro dp un gd cn cs a ccd cl outer A₀ base h₀ L m₀ mean mg mb news s Q E B F X N T hk hd hu hret
  refine wpAny_call ?_
  k_dflt (refine' code_def ?k1 ?k2 ?k3 ?k4 ?k5 ?kA ?kF ?kK ?k6 ?k7 ?k8 ?k9 ?kB ?_ ?c2 ?c3 ?c4 ?c5; (case kA => exact rfl); (case kF => exact rfl); (case kK => assumption); (case k1 => k_asm); (case k2 => k_asm); (case k3 => k_asm); (case k4 => k_asm); (case k5 => k_asm); (case k6 => k_is); (case k7 => k_is); (case k8 => (try dsimp only [ktrTop]); omega); (case k9 => first | exact BindsTo.of_eq rfl | exact binds_K (by k_in) rfl (by k_is) rfl rfl rfl); (case c5 => decide); (case kB => exact locs rfl); (case c2 => exact rfl); (case c3 => exact rfl); (case c4 => exact rfl); k_whole; intro g' L' h' FG' F' N' B' X' T'; (try dsimp only); (try k_lift B'); (try k_fold))
  k_steps
  all_goals (refine hret _ [] _ _ (by k_asm) (by k_asm) (fun _ _ _ h => nomatch h) ⟨rfl, congrArg Value.bool (by first | exact leap_a (by assumption) (by assumption) | exact leap_b (by assumption) (by assumption) | exact leap_c (by assumption))⟩)

local macro_rules | `(tactic| walk_at "call ref") => `(tactic| (k_here; (show wpAny _ _ (call (Value.ref 57) _) _ _ _); refine' isleap_spec _ _ _ _ _ _ _ _ _ _ _ _ _ _ _ _ _ _ _ _ _ _ _ _ ?B ?F ?X ?N ?T ?hk ?hd ?hu (ret_v ?_); (case B => k_asm); (case F => k_asm); (case X => k_asm); (case N => k_asm); (case T => k_asm); (case hk => first | with_unfolding_all rfl | assumption); (case hd => (try simp only [depth_deeper]); (try dsimp only [ktrTop]); first | (with_unfolding_all decide) | omega); (case hu => (try simp only [units_deeper]); (try dsimp only [ktrTop]); first | (with_unfolding_all decide) | omega); intro h' tk' F' N'; (try dsimp only); (try k_sweep)))
theorem legal_raise (w : World) (y m d : Int) (t u v : Tok) (h1 : 1 ≤ m) (h2 : m ≤ 12) (h3 : -100 < d) (h4 : d < 100) (hb : d < 1 ∨ dim y m < d) : SpecE w 2 64 [.int y t, .int m u, .int d v] "ValueError" := by
  unfold SpecE
  k_fill
  intro dp un gd cn cs a ccd cl outer A₀ base h₀ L m₀ mean mg mb news s Q E B F X N T hk hd hu hret
  refine wpAny_call ?_
  k_dflt (refine' code_def ?k1 ?k2 ?k3 ?k4 ?k5 ?kA ?kF ?kK ?k6 ?k7 ?k8 ?k9 ?kB ?_ ?c2 ?c3 ?c4 ?c5; (case kA => exact rfl); (case kF => exact rfl); (case kK => assumption); (case k1 => k_asm); (case k2 => k_asm); (case k3 => k_asm); (case k4 => k_asm); (case k5 => k_asm); (case k6 => k_is); (case k7 => k_is); (case k8 => (try dsimp only [ktrTop]); omega); (case k9 => first | exact BindsTo.of_eq rfl | exact binds_K (by k_in) rfl (by k_is) rfl rfl rfl); (case c5 => decide); (case kB => exact locs rfl); (case c2 => exact rfl); (case c3 => exact rfl); (case c4 => exact rfl); k_whole; intro g' L' h' FG' F' N' B' X' T'; (try dsimp only); (try k_lift B'); (try k_fold))
  k_steps
  all_goals first | (refine hret _ _ _ _ ?k1 ?k2 (raisedS_N ?k3); (case k3 => assumption); (case k1 => assumption); (case k2 => assumption)) | exact hret _ _ _ _ (by assumption) (by assumption) (raisedS_N (by assumption)) | exact hret _ _ _ _ (by assumption) (by assumption) (by assumption) | (exfalso; unfold dim at hb; (repeat' split at hb) <;> first | omega | (simp_all; done) | (simp_all; omega))
theorem legal_ok (w : World) (y m d : Int) (t u v : Tok) (h1 : 1 ≤ m) (h2 : m ≤ 12) (h3 : -100 < d) (h4 : d < 100) (hb : 1 ≤ d) (hc : d ≤ dim y m) : Spec w 2 64 [.int y t, .int m u, .int d v] (fun tl v => tl = [] ∧ v = .bool true) := by
  unfold Spec
  k_fill
  intro dp un gd cn cs a ccd cl outer A₀ base h₀ L m₀ mean mg mb news s Q E B F X N T hk hd hu hret
  refine wpAny_call ?_
  k_dflt (refine' code_def ?k1 ?k2 ?k3 ?k4 ?k5 ?kA ?kF ?kK ?k6 ?k7 ?k8 ?k9 ?kB ?_ ?c2 ?c3 ?c4 ?c5; (case kA => exact rfl); (case kF => exact rfl); (case kK => assumption); (case k1 => k_asm); (case k2 => k_asm); (case k3 => k_asm); (case k4 => k_asm); (case k5 => k_asm); (case k6 => k_is); (case k7 => k_is); (case k8 => (try dsimp only [ktrTop]); omega); (case k9 => first | exact BindsTo.of_eq rfl | exact binds_K (by k_in) rfl (by k_is) rfl rfl rfl); (case c5 => decide); (case kB => exact locs rfl); (case c2 => exact rfl); (case c3 => exact rfl); (case c4 => exact rfl); k_whole; intro g' L' h' FG' F' N' B' X' T'; (try dsimp only); (try k_lift B'); (try k_fold))
  k_steps
  all_goals first | exact hret _ [] _ _ (by k_asm) (by k_asm) (fun _ _ _ h => nomatch h) ⟨rfl, rfl⟩ | (exfalso; unfold dim at hc; (repeat' split at hc) <;> first | omega | (simp_all; done) | (simp_all; omega))

local macro_rules | `(tactic| walk_at "call ref") => `(tactic| (k_here; (show wpAny _ _ (call (Value.ref 64) _) _ _ _); refine' legal_raise _ _ _ _ _ _ _ ?h1 ?h2 ?h3 ?h4 ?hb _ _ _ _ _ _ _ _ _ _ _ _ _ _ _ _ _ _ _ _ _ ?B ?F ?X ?N ?T ?hk ?hd ?hu ?_; (case B => k_asm); (case F => k_asm); (case X => k_asm); (case N => k_asm); (case T => k_asm); (case hk => first | with_unfolding_all rfl | assumption); (case hd => (try simp only [depth_deeper]); (try dsimp only [ktrTop]); first | (with_unfolding_all decide) | omega); (case hu => (try simp only [units_deeper]); (try dsimp only [ktrTop]); first | (with_unfolding_all decide) | omega); (case h1 => first | assumption | omega); (case h2 => first | assumption | omega); (case h3 => first | assumption | omega); (case h4 => first | assumption | omega); (case hb => first | assumption | omega); intro e' g' h' tk' FG' U' S'; (try dsimp only)))
local macro_rules | `(tactic| walk_at "call ref") => `(tactic| (k_here; (show wpAny _ _ (call (Value.ref 64) _) _ _ _); refine' legal_ok _ _ _ _ _ _ _ ?h1 ?h2 ?h3 ?h4 ?hb ?hc _ _ _ _ _ _ _ _ _ _ _ _ _ _ _ _ _ _ _ _ _ ?B ?F ?X ?N ?T ?hk ?hd ?hu (ret_v ?_); (case B => k_asm); (case F => k_asm); (case X => k_asm); (case N => k_asm); (case T => k_asm); (case hk => first | with_unfolding_all rfl | assumption); (case hd => (try simp only [depth_deeper]); (try dsimp only [ktrTop]); first | (with_unfolding_all decide) | omega); (case hu => (try simp only [units_deeper]); (try dsimp only [ktrTop]); first | (with_unfolding_all decide) | omega); (case h1 => first | assumption | omega); (case h2 => first | assumption | omega); (case h3 => first | assumption | omega); (case h4 => first | assumption | omega); (case hb => first | assumption | omega); (case hc => first | assumption | omega); intro h' tk' F' N'; (try dsimp only); (try k_sweep)))
theorem tojd_raise (w : World) (y m d : Int) (t u v : Tok) (hy : 1 ≤ y) (hy2 : y ≤ 1000002000) (h1 : 1 ≤ m) (h2 : m ≤ 12) (h3 : -100 < d) (h4 : d < 100) (hb : d < 1 ∨ dim y m < d) : SpecE w 3 71 [.int y t, .int m u, .int d v] "ValueError" := by
  unfold SpecE
  k_fill
  intro dp un gd cn cs a ccd cl outer A₀ base h₀ L m₀ mean mg mb news s Q E B F X N T hk hd hu hret
  refine wpAny_call ?_
  k_dflt (refine' code_def ?k1 ?k2 ?k3 ?k4 ?k5 ?kA ?kF ?kK ?k6 ?k7 ?k8 ?k9 ?kB ?_ ?c2 ?c3 ?c4 ?c5; (case kA => exact rfl); (case kF => exact rfl); (case kK => assumption); (case k1 => k_asm); (case k2 => k_asm); (case k3 => k_asm); (case k4 => k_asm); (case k5 => k_asm); (case k6 => k_is); (case k7 => k_is); (case k8 => (try dsimp only [ktrTop]); omega); (case k9 => first | exact BindsTo.of_eq rfl | exact binds_K (by k_in) rfl (by k_is) rfl rfl rfl); (case c5 => decide); (case kB => exact locs rfl); (case c2 => exact rfl); (case c3 => exact rfl); (case c4 => exact rfl); k_whole; intro g' L' h' FG' F' N' B' X' T'; (try dsimp only); (try k_lift B'); (try k_fold))
  k_steps
  all_goals first | (refine hret _ _ _ _ ?k1 ?k2 (raisedS_N ?k3); (case k3 => assumption); (case k1 => assumption); (case k2 => assumption)) | exact hret _ _ _ _ (by assumption) (by assumption) (raisedS_N (by assumption)) | exact hret _ _ _ _ (by assumption) (by assumption) (by assumption)
theorem tojd_ok (w : World) (y m d : Int) (t u v : Tok) (hy : 1 ≤ y) (hy2 : y ≤ 1000002000) (h1 : 1 ≤ m) (h2 : m ≤ 12) (hb : 1 ≤ d) (hc : d ≤ dim y m) : Spec w 3 71 [.int y t, .int m u, .int d v] (fun tl v => ∃ z t, tl = [] ∧ v = .float z t ∧ H z (2 * jdn y m d + 1)) := by
  have hdm := dim_le y m
  unfold Spec
  k_fill
  intro dp un gd cn cs a ccd cl outer A₀ base h₀ L m₀ mean mg mb news s Q E B F X N T hk hd hu hret
  refine wpAny_call ?_
  k_dflt (refine' code_def ?k1 ?k2 ?k3 ?k4 ?k5 ?kA ?kF ?kK ?k6 ?k7 ?k8 ?k9 ?kB ?_ ?c2 ?c3 ?c4 ?c5; (case kA => exact rfl); (case kF => exact rfl); (case kK => assumption); (case k1 => k_asm); (case k2 => k_asm); (case k3 => k_asm); (case k4 => k_asm); (case k5 => k_asm); (case k6 => k_is); (case k7 => k_is); (case k8 => (try dsimp only [ktrTop]); omega); (case k9 => first | exact BindsTo.of_eq rfl | exact binds_K (by k_in) rfl (by k_is) rfl rfl rfl); (case c5 => decide); (case kB => exact locs rfl); (case c2 => exact rfl); (case c3 => exact rfl); (case c4 => exact rfl); k_whole; intro g' L' h' FG' F' N' B' X' T'; (try dsimp only); (try k_lift B'); (try k_fold))
  k_steps
  all_goals (refine hret _ [] _ _ (by k_asm) (by k_asm) (fun _ _ _ h => nomatch h) ⟨_, _, rfl, rfl, ?_⟩; refine' H.cast ?e ?h; (case h => assumption); (case e => unfold jdn; (first | rw [if_pos (by assumption)] | (rw [if_neg (by assumption)]; first | rw [if_pos (by assumption)] | rw [if_neg (by assumption)])); omega))

local macro_rules | `(tactic| walk_at "call ref") => `(tactic| (k_here; (show wpAny _ _ (call (Value.ref 71) _) _ _ _); refine' tojd_raise _ _ _ _ _ _ _ ?hy ?hy2 ?h1 ?h2 ?h3 ?h4 ?hb _ _ _ _ _ _ _ _ _ _ _ _ _ _ _ _ _ _ _ _ _ ?B ?F ?X ?N ?T ?hk ?hd ?hu ?_; (case B => k_asm); (case F => k_asm); (case X => k_asm); (case N => k_asm); (case T => k_asm); (case hk => first | with_unfolding_all rfl | assumption); (case hd => (try simp only [depth_deeper]); (try dsimp only [ktrTop]); first | (with_unfolding_all decide) | omega); (case hu => (try simp only [units_deeper]); (try dsimp only [ktrTop]); first | (with_unfolding_all decide) | omega); (case hy => first | assumption | omega); (case hy2 => first | assumption | omega); (case h1 => first | assumption | omega); (case h2 => first | assumption | omega); (case h3 => first | assumption | omega); (case h4 => first | assumption | omega); (case hb => first | assumption | omega); intro e' g' h' tk' FG' U' S'; (try dsimp only)))
local macro_rules | `(tactic| walk_at "call ref") => `(tactic| (k_here; (show wpAny _ _ (call (Value.ref 71) _) _ _ _); refine' tojd_ok _ _ _ _ _ _ _ ?hy ?hy2 ?h1 ?h2 ?hb ?hc _ _ _ _ _ _ _ _ _ _ _ _ _ _ _ _ _ _ _ _ _ ?B ?F ?X ?N ?T ?hk ?hd ?hu (ret_H ?_); (case B => k_asm); (case F => k_asm); (case X => k_asm); (case N => k_asm); (case T => k_asm); (case hk => first | with_unfolding_all rfl | assumption); (case hd => (try simp only [depth_deeper]); (try dsimp only [ktrTop]); first | (with_unfolding_all decide) | omega); (case hu => (try simp only [units_deeper]); (try dsimp only [ktrTop]); first | (with_unfolding_all decide) | omega); (case hy => first | assumption | omega); (case hy2 => first | assumption | omega); (case h1 => first | assumption | omega); (case h2 => first | assumption | omega); (case hb => first | assumption | omega); (case hc => first | assumption | omega); intro z' t' h' tk' F' N' hz'; (try dsimp only); (try k_sweep)))
theorem loose_spec (w : World) (z : UInt64) (n : Int) (t : Tok) (hz : H z (2 * n + 1)) (hn : 2375000 ≤ n) (hn2 : n ≤ 400000000000) : Spec w 2 79 [.float z t, .none] (fun tl v => ∃ D t1 t2 t3 n', tl = [(D, tupOf [.int (loose1 n) t1, .int (loose2 n) t2, .int (loose3 n) t3] n')] ∧ v = .ref D) := by
  unfold Spec
  k_fill
  intro dp un gd cn cs a ccd cl outer A₀ base h₀ L m₀ mean mg mb news s Q E B F X N T hk hd hu hret
  refine wpAny_call ?_
  k_dflt (refine' code_def ?k1 ?k2 ?k3 ?k4 ?k5 ?kA ?kF ?kK ?k6 ?k7 ?k8 ?k9 ?kB ?_ ?c2 ?c3 ?c4 ?c5; (case kA => exact rfl); (case kF => exact rfl); (case kK => assumption); (case k1 => k_asm); (case k2 => k_asm); (case k3 => k_asm); (case k4 => k_asm); (case k5 => k_asm); (case k6 => k_is); (case k7 => k_is); (case k8 => (try dsimp only [ktrTop]); omega); (case k9 => first | exact BindsTo.of_eq rfl | exact binds_K (by k_in) rfl (by k_is) rfl rfl rfl); (case c5 => decide); (case kB => exact locs rfl); (case c2 => exact rfl); (case c3 => exact rfl); (case c4 => exact rfl); k_whole; intro g' L' h' FG' F' N' B' X' T'; (try dsimp only); (try k_lift B'); (try k_fold))
  k_steps
  all_goals (refine' end_T3 hret ?ea ?eb ?ec ?F ?N ?hm ?hs ?hl; (case F => k_asm); (case N => k_asm); (case hm => k_mem); (case hs => first | exact fun _ h => h | exact fun _ h => List.mem_cons_of_mem _ h | exact fun _ h => List.mem_cons_of_mem _ (List.mem_cons_of_mem _ h) | exact fun _ h => List.mem_cons_of_mem _ (List.mem_cons_of_mem _ (List.mem_cons_of_mem _ h)) | exact fun _ h => List.mem_cons_of_mem _ (List.mem_cons_of_mem _ (List.mem_cons_of_mem _ (List.mem_cons_of_mem _ h))) | exact fun _ h => List.mem_cons_of_mem _ (List.mem_cons_of_mem _ (List.mem_cons_of_mem _ (List.mem_cons_of_mem _ (List.mem_cons_of_mem _ h)))) | exact fun _ h => List.mem_cons_of_mem _ (List.mem_cons_of_mem _ (List.mem_cons_of_mem _ (List.mem_cons_of_mem _ (List.mem_cons_of_mem _ (List.mem_cons_of_mem _ h))))) | exact fun _ h => List.mem_cons_of_mem _ (List.mem_cons_of_mem _ (List.mem_cons_of_mem _ (List.mem_cons_of_mem _ (List.mem_cons_of_mem _ (List.mem_cons_of_mem _ (List.mem_cons_of_mem _ h)))))) | exact fun _ h => List.mem_cons_of_mem _ (List.mem_cons_of_mem _ (List.mem_cons_of_mem _ (List.mem_cons_of_mem _ (List.mem_cons_of_mem _ (List.mem_cons_of_mem _ (List.mem_cons_of_mem _ (List.mem_cons_of_mem _ h))))))) | exact fun _ h => List.mem_cons_of_mem _ (List.mem_cons_of_mem _ (List.mem_cons_of_mem _ (List.mem_cons_of_mem _ (List.mem_cons_of_mem _ (List.mem_cons_of_mem _ (List.mem_cons_of_mem _ (List.mem_cons_of_mem _ (List.mem_cons_of_mem _ h)))))))) | kcj_all); (case hl => first | assumption | exact ktn_ltOf (by assumption) | exact ktn_ltOf (And.right (by assumption)) | exact ktn_ltOf (And.right (And.right (by assumption))) | exact ktn_ltOf (And.right (And.right (And.right (by assumption)))) | exact ktn_ltOf (And.right (And.right (And.right (And.right (by assumption))))) | exact ktn_ltOf (And.right (And.right (And.right (And.right (And.right (by assumption)))))) | exact ktn_ltOf (And.right (And.right (And.right (And.right (And.right (And.right (by assumption)))))))); (case ea => unfold loose1; omega); (case eb => unfold loose2; omega); (case ec => unfold loose3; omega))

local macro_rules | `(tactic| walk_at "call ref") => `(tactic| (k_here; (show wpAny _ _ (call (Value.ref 79) _) _ _ _); refine' loose_spec _ _ _ _ ?hz ?hn ?hn2 _ _ _ _ _ _ _ _ _ _ _ _ _ _ _ _ _ _ _ _ _ ?B ?F ?X ?N ?T ?hk ?hd ?hu (ret_T3 ?_); (case B => k_asm); (case F => k_asm); (case X => k_asm); (case N => k_asm); (case T => k_asm); (case hk => first | with_unfolding_all rfl | assumption); (case hd => (try simp only [depth_deeper]); (try dsimp only [ktrTop]); first | (with_unfolding_all decide) | omega); (case hu => (try simp only [units_deeper]); (try dsimp only [ktrTop]); first | (with_unfolding_all decide) | omega); (case hz => first | with_reducible assumption); (case hn => first | assumption | omega); (case hn2 => first | assumption | omega); intro D' t1' t2' t3' n' h' tk' F' N' l1; (try k_lt l1); (try dsimp only); (try k_sweep)))
theorem sark_spec (w : World) (z : UInt64) (n : Int) (t : Tok) (hz : H z (2 * n + 1)) (hn : 2375000 ≤ n) (hn2 : n ≤ 400000000000) (u : Tok) : Spec w 2 79 [.float z t, .str (PySem.Str.ofString "sarkawag") u] (fun tl v => ∃ D t1 t2 t3 n', tl = [(D, tupOf [.int (sark1 n) t1, .int (sark2 n) t2, .int (sark3 n) t3] n')] ∧ v = .ref D) := by
  have e1 : 2 * (2 * n + 1 - 4234421) / 1461 = sarkY n := by unfold sarkY; rw [show 2 * (2 * n + 1 - 4234421) = 4 * (n - 2117210) by omega]
  have e2 : 2 * n + 1 - 4234421 - 2 * (365 * (2 * (2 * n + 1 - 4234421) / 1461) + 2 * (2 * n + 1 - 4234421) / 1461 / 4) = 2 * sarkD n := by rw [e1]; unfold sarkD; omega
  unfold Spec
  k_fill
  intro dp un gd cn cs a ccd cl outer A₀ base h₀ L m₀ mean mg mb news s Q E B F X N T hk hd hu hret
  refine wpAny_call ?_
  k_dflt (refine' code_def ?k1 ?k2 ?k3 ?k4 ?k5 ?kA ?kF ?kK ?k6 ?k7 ?k8 ?k9 ?kB ?_ ?c2 ?c3 ?c4 ?c5; (case kA => exact rfl); (case kF => exact rfl); (case kK => assumption); (case k1 => k_asm); (case k2 => k_asm); (case k3 => k_asm); (case k4 => k_asm); (case k5 => k_asm); (case k6 => k_is); (case k7 => k_is); (case k8 => (try dsimp only [ktrTop]); omega); (case k9 => first | exact BindsTo.of_eq rfl | exact binds_K (by k_in) rfl (by k_is) rfl rfl rfl); (case c5 => decide); (case kB => exact locs rfl); (case c2 => exact rfl); (case c3 => exact rfl); (case c4 => exact rfl); k_whole; intro g' L' h' FG' F' N' B' X' T'; (try dsimp only); (try k_lift B'); (try k_fold))
  k_steps
  all_goals (refine' end_T3 hret ?ea ?eb ?ec ?F ?N ?hm ?hs ?hl; (case F => k_asm); (case N => k_asm); (case hm => k_mem); (case hs => first | exact fun _ h => h | exact fun _ h => List.mem_cons_of_mem _ h | exact fun _ h => List.mem_cons_of_mem _ (List.mem_cons_of_mem _ h) | exact fun _ h => List.mem_cons_of_mem _ (List.mem_cons_of_mem _ (List.mem_cons_of_mem _ h)) | exact fun _ h => List.mem_cons_of_mem _ (List.mem_cons_of_mem _ (List.mem_cons_of_mem _ (List.mem_cons_of_mem _ h))) | exact fun _ h => List.mem_cons_of_mem _ (List.mem_cons_of_mem _ (List.mem_cons_of_mem _ (List.mem_cons_of_mem _ (List.mem_cons_of_mem _ h)))) | exact fun _ h => List.mem_cons_of_mem _ (List.mem_cons_of_mem _ (List.mem_cons_of_mem _ (List.mem_cons_of_mem _ (List.mem_cons_of_mem _ (List.mem_cons_of_mem _ h))))) | exact fun _ h => List.mem_cons_of_mem _ (List.mem_cons_of_mem _ (List.mem_cons_of_mem _ (List.mem_cons_of_mem _ (List.mem_cons_of_mem _ (List.mem_cons_of_mem _ (List.mem_cons_of_mem _ h)))))) | exact fun _ h => List.mem_cons_of_mem _ (List.mem_cons_of_mem _ (List.mem_cons_of_mem _ (List.mem_cons_of_mem _ (List.mem_cons_of_mem _ (List.mem_cons_of_mem _ (List.mem_cons_of_mem _ (List.mem_cons_of_mem _ h))))))) | exact fun _ h => List.mem_cons_of_mem _ (List.mem_cons_of_mem _ (List.mem_cons_of_mem _ (List.mem_cons_of_mem _ (List.mem_cons_of_mem _ (List.mem_cons_of_mem _ (List.mem_cons_of_mem _ (List.mem_cons_of_mem _ (List.mem_cons_of_mem _ h)))))))) | kcj_all); (case hl => first | assumption | exact ktn_ltOf (by assumption) | exact ktn_ltOf (And.right (by assumption)) | exact ktn_ltOf (And.right (And.right (by assumption))) | exact ktn_ltOf (And.right (And.right (And.right (by assumption)))) | exact ktn_ltOf (And.right (And.right (And.right (And.right (by assumption))))) | exact ktn_ltOf (And.right (And.right (And.right (And.right (And.right (by assumption)))))) | exact ktn_ltOf (And.right (And.right (And.right (And.right (And.right (And.right (by assumption)))))))); (case ea => by_cases h0 : sarkD n = 0 <;> by_cases h4 : sarkY n % 4 = 0 <;> simp only [sark1, h0, h4, if_true, if_false] <;> omega); (case eb => by_cases h0 : sarkD n = 0 <;> by_cases h4 : sarkY n % 4 = 0 <;> simp only [sark2, sarkR, h0, h4, if_true, if_false] <;> omega); (case ec => by_cases h0 : sarkD n = 0 <;> by_cases h4 : sarkY n % 4 = 0 <;> simp only [sark3, sarkR, h0, h4, if_true, if_false] <;> omega))

local macro_rules | `(tactic| walk_at "call ref") => `(tactic| (k_here; (show wpAny _ _ (call (Value.ref 79) _) _ _ _); refine' sark_spec _ _ _ _ ?hz ?hn ?hn2 _ _ _ _ _ _ _ _ _ _ _ _ _ _ _ _ _ _ _ _ _ _ ?B ?F ?X ?N ?T ?hk ?hd ?hu (ret_T3 ?_); (case B => k_asm); (case F => k_asm); (case X => k_asm); (case N => k_asm); (case T => k_asm); (case hk => first | with_unfolding_all rfl | assumption); (case hd => (try simp only [depth_deeper]); (try dsimp only [ktrTop]); first | (with_unfolding_all decide) | omega); (case hu => (try simp only [units_deeper]); (try dsimp only [ktrTop]); first | (with_unfolding_all decide) | omega); (case hz => first | with_reducible assumption); (case hn => first | assumption | omega); (case hn2 => first | assumption | omega); intro D' t1' t2' t3' n' h' tk' F' N' l1; (try k_lt l1); (try dsimp only); (try k_sweep)))
theorem ctojd_spec (w : World) (y m d : Int) (t u v : Tok) (hy : 0 ≤ y) (hy2 : y < 2000000000) (hm : 0 ≤ m) (hm2 : m < 100) (hd1 : -1000 < d) (hd2 : d < 1000) : Spec w 1 94 [.int y t, .int m u, .int d v] (fun tl v => ∃ z t, tl = [] ∧ v = .float z t ∧ H z (2 * (d + (m - 1) * 30 + (y - 1) * 365 + y / 4) + 3650059 - 2)) := by
  unfold Spec
  k_fill
  intro dp un gd cn cs a ccd cl outer A₀ base h₀ L m₀ mean mg mb news s Q E B F X N T hk hd hu hret
  refine wpAny_call ?_
  k_dflt (refine' code_def ?k1 ?k2 ?k3 ?k4 ?k5 ?kA ?kF ?kK ?k6 ?k7 ?k8 ?k9 ?kB ?_ ?c2 ?c3 ?c4 ?c5; (case kA => exact rfl); (case kF => exact rfl); (case kK => assumption); (case k1 => k_asm); (case k2 => k_asm); (case k3 => k_asm); (case k4 => k_asm); (case k5 => k_asm); (case k6 => k_is); (case k7 => k_is); (case k8 => (try dsimp only [ktrTop]); omega); (case k9 => first | exact BindsTo.of_eq rfl | exact binds_K (by k_in) rfl (by k_is) rfl rfl rfl); (case c5 => decide); (case kB => exact locs rfl); (case c2 => exact rfl); (case c3 => exact rfl); (case c4 => exact rfl); k_whole; intro g' L' h' FG' F' N' B' X' T'; (try dsimp only); (try k_lift B'); (try k_fold))
  k_steps
  all_goals (refine hret _ [] _ _ (by k_asm) (by k_asm) (fun _ _ _ h => nomatch h) ⟨_, _, rfl, rfl, ?_⟩; refine' H.cast ?e ?h; (case h => assumption); (case e => omega))

local macro_rules | `(tactic| walk_at "call ref") => `(tactic| (k_here; (show wpAny _ _ (call (Value.ref 94) _) _ _ _); refine' ctojd_spec _ _ _ _ _ _ _ ?hy ?hy2 ?hm ?hm2 ?hd1 ?hd2 _ _ _ _ _ _ _ _ _ _ _ _ _ _ _ _ _ _ _ _ _ ?B ?F ?X ?N ?T ?hk ?hd ?hu (ret_H ?_); (case B => k_asm); (case F => k_asm); (case X => k_asm); (case N => k_asm); (case T => k_asm); (case hk => first | with_unfolding_all rfl | assumption); (case hd => (try simp only [depth_deeper]); (try dsimp only [ktrTop]); first | (with_unfolding_all decide) | omega); (case hu => (try simp only [units_deeper]); (try dsimp only [ktrTop]); first | (with_unfolding_all decide) | omega); (case hy => omega); (case hy2 => omega); (case hm => omega); (case hm2 => omega); (case hd1 => omega); (case hd2 => omega); intro z' t' h' tk' F' N' hz'; (try dsimp only); (try k_sweep)))
theorem copt_spec (w : World) (z : UInt64) (n : Int) (t : Tok) (hz : H z (2 * n + 1)) (hn : 2375000 ≤ n) (hn2 : n ≤ 400000000000) : Spec w 2 101 [.float z t] (fun tl v => ∃ D t1 t2 t3 n', tl = [(D, tupOf [.int (copt1 n) t1, .int (copt2 n) t2, .int (copt3 n) t3] n')] ∧ v = .ref D) := by
  have e1 : (2 * n + 1 - 3650059) / 2 = n - 1825029 := by omega
  have e2 : (4 * ((2 * n + 1 - 3650059) / 2) + 1463) / 1461 = copt1 n := by rw [e1]; rfl
  have e3 : 2 * n + 1 - (2 * (1 + (1 - 1) * 30 + ((4 * ((2 * n + 1 - 3650059) / 2) + 1463) / 1461 - 1) * 365 + (4 * ((2 * n + 1 - 3650059) / 2) + 1463) / 1461 / 4) + 3650059 - 2) = 2 * coptR n := by rw [e2]; unfold coptR; omega
  unfold Spec
  k_fill
  intro dp un gd cn cs a ccd cl outer A₀ base h₀ L m₀ mean mg mb news s Q E B F X N T hk hd hu hret
  refine wpAny_call ?_
  k_dflt (refine' code_def ?k1 ?k2 ?k3 ?k4 ?k5 ?kA ?kF ?kK ?k6 ?k7 ?k8 ?k9 ?kB ?_ ?c2 ?c3 ?c4 ?c5; (case kA => exact rfl); (case kF => exact rfl); (case kK => assumption); (case k1 => k_asm); (case k2 => k_asm); (case k3 => k_asm); (case k4 => k_asm); (case k5 => k_asm); (case k6 => k_is); (case k7 => k_is); (case k8 => (try dsimp only [ktrTop]); omega); (case k9 => first | exact BindsTo.of_eq rfl | exact binds_K (by k_in) rfl (by k_is) rfl rfl rfl); (case c5 => decide); (case kB => exact locs rfl); (case c2 => exact rfl); (case c3 => exact rfl); (case c4 => exact rfl); k_whole; intro g' L' h' FG' F' N' B' X' T'; (try dsimp only); (try k_lift B'); (try k_fold))
  k_steps
  all_goals (refine' end_T3 hret ?ea ?eb ?ec ?F ?N ?hm ?hs ?hl; (case F => k_asm); (case N => k_asm); (case hm => k_mem); (case hs => first | exact fun _ h => h | exact fun _ h => List.mem_cons_of_mem _ h | exact fun _ h => List.mem_cons_of_mem _ (List.mem_cons_of_mem _ h) | exact fun _ h => List.mem_cons_of_mem _ (List.mem_cons_of_mem _ (List.mem_cons_of_mem _ h)) | exact fun _ h => List.mem_cons_of_mem _ (List.mem_cons_of_mem _ (List.mem_cons_of_mem _ (List.mem_cons_of_mem _ h))) | exact fun _ h => List.mem_cons_of_mem _ (List.mem_cons_of_mem _ (List.mem_cons_of_mem _ (List.mem_cons_of_mem _ (List.mem_cons_of_mem _ h)))) | exact fun _ h => List.mem_cons_of_mem _ (List.mem_cons_of_mem _ (List.mem_cons_of_mem _ (List.mem_cons_of_mem _ (List.mem_cons_of_mem _ (List.mem_cons_of_mem _ h))))) | exact fun _ h => List.mem_cons_of_mem _ (List.mem_cons_of_mem _ (List.mem_cons_of_mem _ (List.mem_cons_of_mem _ (List.mem_cons_of_mem _ (List.mem_cons_of_mem _ (List.mem_cons_of_mem _ h)))))) | exact fun _ h => List.mem_cons_of_mem _ (List.mem_cons_of_mem _ (List.mem_cons_of_mem _ (List.mem_cons_of_mem _ (List.mem_cons_of_mem _ (List.mem_cons_of_mem _ (List.mem_cons_of_mem _ (List.mem_cons_of_mem _ h))))))) | exact fun _ h => List.mem_cons_of_mem _ (List.mem_cons_of_mem _ (List.mem_cons_of_mem _ (List.mem_cons_of_mem _ (List.mem_cons_of_mem _ (List.mem_cons_of_mem _ (List.mem_cons_of_mem _ (List.mem_cons_of_mem _ (List.mem_cons_of_mem _ h)))))))) | kcj_all); (case hl => first | assumption | exact ktn_ltOf (by assumption) | exact ktn_ltOf (And.right (by assumption)) | exact ktn_ltOf (And.right (And.right (by assumption))) | exact ktn_ltOf (And.right (And.right (And.right (by assumption)))) | exact ktn_ltOf (And.right (And.right (And.right (And.right (by assumption))))) | exact ktn_ltOf (And.right (And.right (And.right (And.right (And.right (by assumption)))))) | exact ktn_ltOf (And.right (And.right (And.right (And.right (And.right (And.right (by assumption)))))))); (case ea => omega); (case eb => unfold copt2; omega); (case ec => unfold copt3; omega))

local macro_rules | `(tactic| walk_at "call ref") => `(tactic| (k_here; (show wpAny _ _ (call (Value.ref 101) _) _ _ _); refine' copt_spec _ _ _ _ ?hz ?hn ?hn2 _ _ _ _ _ _ _ _ _ _ _ _ _ _ _ _ _ _ _ _ _ ?B ?F ?X ?N ?T ?hk ?hd ?hu (ret_T3 ?_); (case B => k_asm); (case F => k_asm); (case X => k_asm); (case N => k_asm); (case T => k_asm); (case hk => first | with_unfolding_all rfl | assumption); (case hd => (try simp only [depth_deeper]); (try dsimp only [ktrTop]); first | (with_unfolding_all decide) | omega); (case hu => (try simp only [units_deeper]); (try dsimp only [ktrTop]); first | (with_unfolding_all decide) | omega); (case hz => first | with_reducible assumption); (case hn => first | assumption | omega); (case hn2 => first | assumption | omega); intro D' t1' t2' t3' n' h' tk' F' N' l1; (try k_lt l1); (try dsimp only); (try k_sweep)))
theorem mayan_spec (w : World) (z : UInt64) (n : Int) (t : Tok) (hz : H z (2 * n + 1)) (hn : 2375000 ≤ n) (hn2 : n ≤ 400000000000) : Spec w 2 217 [.float z t] (fun tl v => ∃ D t1 t2 t3 t4 t5 n', tl = [(D, tupOf [.int ((n - 584282) / 144000) t1, .int ((n - 584282) % 144000 / 7200) t2, .int ((n - 584282) % 7200 / 360) t3, .int ((n - 584282) % 360 / 20) t4, .int ((n - 584282) % 20) t5] n')] ∧ v = .ref D) := by
  unfold Spec
  k_fill
  intro dp un gd cn cs a ccd cl outer A₀ base h₀ L m₀ mean mg mb news s Q E B F X N T hk hd hu hret
  refine wpAny_call ?_
  k_dflt (refine' code_def ?k1 ?k2 ?k3 ?k4 ?k5 ?kA ?kF ?kK ?k6 ?k7 ?k8 ?k9 ?kB ?_ ?c2 ?c3 ?c4 ?c5; (case kA => exact rfl); (case kF => exact rfl); (case kK => assumption); (case k1 => k_asm); (case k2 => k_asm); (case k3 => k_asm); (case k4 => k_asm); (case k5 => k_asm); (case k6 => k_is); (case k7 => k_is); (case k8 => (try dsimp only [ktrTop]); omega); (case k9 => first | exact BindsTo.of_eq rfl | exact binds_K (by k_in) rfl (by k_is) rfl rfl rfl); (case c5 => decide); (case kB => exact locs rfl); (case c2 => exact rfl); (case c3 => exact rfl); (case c4 => exact rfl); k_whole; intro g' L' h' FG' F' N' B' X' T'; (try dsimp only); (try k_lift B'); (try k_fold))
  k_steps
  all_goals (refine' end_T5 hret ?ea ?eb ?ec ?ed ?ee ?F ?N ?hm ?hs ?hl; (case F => k_asm); (case N => k_asm); (case hm => k_mem); (case hs => first | exact fun _ h => h | exact fun _ h => List.mem_cons_of_mem _ h | exact fun _ h => List.mem_cons_of_mem _ (List.mem_cons_of_mem _ h) | exact fun _ h => List.mem_cons_of_mem _ (List.mem_cons_of_mem _ (List.mem_cons_of_mem _ h)) | exact fun _ h => List.mem_cons_of_mem _ (List.mem_cons_of_mem _ (List.mem_cons_of_mem _ (List.mem_cons_of_mem _ h))) | exact fun _ h => List.mem_cons_of_mem _ (List.mem_cons_of_mem _ (List.mem_cons_of_mem _ (List.mem_cons_of_mem _ (List.mem_cons_of_mem _ h)))) | exact fun _ h => List.mem_cons_of_mem _ (List.mem_cons_of_mem _ (List.mem_cons_of_mem _ (List.mem_cons_of_mem _ (List.mem_cons_of_mem _ (List.mem_cons_of_mem _ h))))) | exact fun _ h => List.mem_cons_of_mem _ (List.mem_cons_of_mem _ (List.mem_cons_of_mem _ (List.mem_cons_of_mem _ (List.mem_cons_of_mem _ (List.mem_cons_of_mem _ (List.mem_cons_of_mem _ h)))))) | exact fun _ h => List.mem_cons_of_mem _ (List.mem_cons_of_mem _ (List.mem_cons_of_mem _ (List.mem_cons_of_mem _ (List.mem_cons_of_mem _ (List.mem_cons_of_mem _ (List.mem_cons_of_mem _ (List.mem_cons_of_mem _ h))))))) | exact fun _ h => List.mem_cons_of_mem _ (List.mem_cons_of_mem _ (List.mem_cons_of_mem _ (List.mem_cons_of_mem _ (List.mem_cons_of_mem _ (List.mem_cons_of_mem _ (List.mem_cons_of_mem _ (List.mem_cons_of_mem _ (List.mem_cons_of_mem _ h)))))))) | kcj_all); (case hl => first | assumption | exact ktn_ltOf (by assumption) | exact ktn_ltOf (And.right (by assumption)) | exact ktn_ltOf (And.right (And.right (by assumption))) | exact ktn_ltOf (And.right (And.right (And.right (by assumption)))) | exact ktn_ltOf (And.right (And.right (And.right (And.right (by assumption))))) | exact ktn_ltOf (And.right (And.right (And.right (And.right (And.right (by assumption)))))) | exact ktn_ltOf (And.right (And.right (And.right (And.right (And.right (And.right (by assumption)))))))); (case ea => omega); (case eb => omega); (case ec => omega); (case ed => omega); (case ee => omega))

local macro_rules | `(tactic| walk_at "call ref") => `(tactic| (k_here; (show wpAny _ _ (call (Value.ref 217) _) _ _ _); refine' mayan_spec _ _ _ _ ?hz ?hn ?hn2 _ _ _ _ _ _ _ _ _ _ _ _ _ _ _ _ _ _ _ _ _ ?B ?F ?X ?N ?T ?hk ?hd ?hu (ret_T5 ?_); (case B => k_asm); (case F => k_asm); (case X => k_asm); (case N => k_asm); (case T => k_asm); (case hk => first | with_unfolding_all rfl | assumption); (case hd => (try simp only [depth_deeper]); (try dsimp only [ktrTop]); first | (with_unfolding_all decide) | omega); (case hu => (try simp only [units_deeper]); (try dsimp only [ktrTop]); first | (with_unfolding_all decide) | omega); (case hz => first | with_reducible assumption); (case hn => first | assumption | omega); (case hn2 => first | assumption | omega); intro D' t1' t2' t3' t4' t5' n' h' tk' F' N' l1; (try k_lt l1); (try dsimp only); (try k_sweep)))
local macro_rules | `(tactic| walk_at "isTrue BoolOp") => `(tactic| (k_here; (with_reducible show wpAny _ _ (PySem.isTrue (Expr.BoolOp BoolOp.Or [Expr.BoolOp _ _ _, Expr.BoolOp _ _ _] _) _ _) _ _ _); k_dflt (refine' join_test false ?F ?N ?inner ?_; (case F => k_asm); (case N => k_asm)); (case inner => k_dflt (intro Q' hQ'; (with_reducible refine isTrue_or ?_); (repeat' (first | (k_unfold; (try dsimp only)) | walk1 | (dsimp only; walk1) | (leave1; try dsimp only) | fail "no step")); all_goals exact hQ' _ _ (by k_asm) (by first | k_asm | exact nsub1 (by k_asm) | exact nsub2 (by k_asm)))); intro h' tk' F' N'; (try dsimp only)))
theorem fre_spec (w : World) (z : UInt64) (n : Int) (t : Tok) (hz : H z (2 * n + 1)) (hn : 2375839 ≤ n) (hn2 : n ≤ 400000000000) (u : Tok) : Spec w 2 123 [.float z t, .str (PySem.Str.ofString "continuous") u] (fun tl v => ∃ D t1 t2 t3 n', tl = [(D, tupOf [.int (freY (-1) (n - 2375839 + 365)) t1, .int (freM (n - 2375839 + 365)) t2, .int (freD (n - 2375839 + 365)) t3] n')] ∧ v = .ref D) := by
  have e0 : (2 * n + 1) / 2 = n := by omega
  have e1 : 2 * ((2 * n + 1) / 2) + 1 - 4751679 = 2 * (n - 2375839) := by omega
  have e2 : (2 * ((2 * n + 1) / 2) + 1 - 4751679 + 2 * 365) / 2922 = (n - 2375839 + 365) / 1461 := by omega
  have e3 : (2 * ((2 * n + 1) / 2) + 1 - 4751679 + 2 * 365) % 2922 = 2 * ((n - 2375839 + 365) % 1461) := by omega
  unfold Spec
  k_fill
  intro dp un gd cn cs a ccd cl outer A₀ base h₀ L m₀ mean mg mb news s Q E B F X N T hk hd hu hret
  refine wpAny_call ?_
  k_dflt (refine' code_def ?k1 ?k2 ?k3 ?k4 ?k5 ?kA ?kF ?kK ?k6 ?k7 ?k8 ?k9 ?kB ?_ ?c2 ?c3 ?c4 ?c5; (case kA => exact rfl); (case kF => exact rfl); (case kK => assumption); (case k1 => k_asm); (case k2 => k_asm); (case k3 => k_asm); (case k4 => k_asm); (case k5 => k_asm); (case k6 => k_is); (case k7 => k_is); (case k8 => (try dsimp only [ktrTop]); omega); (case k9 => first | exact BindsTo.of_eq rfl | exact binds_K (by k_in) rfl (by k_is) rfl rfl rfl); (case c5 => decide); (case kB => exact locs rfl); (case c2 => exact rfl); (case c3 => exact rfl); (case c4 => exact rfl); k_whole; intro g' L' h' FG' F' N' B' X' T'; (try dsimp only); (try k_lift B'); (try k_fold))
  k_steps
  all_goals (refine' end_T3 hret ?ea ?eb ?ec ?F ?N ?hm ?hs ?hl; (case F => k_asm); (case N => k_asm); (case hm => k_mem); (case hs => first | exact fun _ h => h | exact fun _ h => List.mem_cons_of_mem _ h | exact fun _ h => List.mem_cons_of_mem _ (List.mem_cons_of_mem _ h) | exact fun _ h => List.mem_cons_of_mem _ (List.mem_cons_of_mem _ (List.mem_cons_of_mem _ h)) | exact fun _ h => List.mem_cons_of_mem _ (List.mem_cons_of_mem _ (List.mem_cons_of_mem _ (List.mem_cons_of_mem _ h))) | exact fun _ h => List.mem_cons_of_mem _ (List.mem_cons_of_mem _ (List.mem_cons_of_mem _ (List.mem_cons_of_mem _ (List.mem_cons_of_mem _ h)))) | exact fun _ h => List.mem_cons_of_mem _ (List.mem_cons_of_mem _ (List.mem_cons_of_mem _ (List.mem_cons_of_mem _ (List.mem_cons_of_mem _ (List.mem_cons_of_mem _ h))))) | exact fun _ h => List.mem_cons_of_mem _ (List.mem_cons_of_mem _ (List.mem_cons_of_mem _ (List.mem_cons_of_mem _ (List.mem_cons_of_mem _ (List.mem_cons_of_mem _ (List.mem_cons_of_mem _ h)))))) | exact fun _ h => List.mem_cons_of_mem _ (List.mem_cons_of_mem _ (List.mem_cons_of_mem _ (List.mem_cons_of_mem _ (List.mem_cons_of_mem _ (List.mem_cons_of_mem _ (List.mem_cons_of_mem _ (List.mem_cons_of_mem _ h))))))) | exact fun _ h => List.mem_cons_of_mem _ (List.mem_cons_of_mem _ (List.mem_cons_of_mem _ (List.mem_cons_of_mem _ (List.mem_cons_of_mem _ (List.mem_cons_of_mem _ (List.mem_cons_of_mem _ (List.mem_cons_of_mem _ (List.mem_cons_of_mem _ h)))))))) | kcj_all); (case hl => first | assumption | exact ktn_ltOf (by assumption) | exact ktn_ltOf (And.right (by assumption)) | exact ktn_ltOf (And.right (And.right (by assumption))) | exact ktn_ltOf (And.right (And.right (And.right (by assumption)))) | exact ktn_ltOf (And.right (And.right (And.right (And.right (by assumption))))) | exact ktn_ltOf (And.right (And.right (And.right (And.right (And.right (by assumption)))))) | exact ktn_ltOf (And.right (And.right (And.right (And.right (And.right (And.right (by assumption)))))))); (case ea => by_cases h0 : (n - 2375839 + 365) % 1461 = 1460 <;> simp only [freY, h0, if_true, if_false] <;> omega); (case eb => by_cases h0 : (n - 2375839 + 365) % 1461 = 1460 <;> simp only [freM, freR, h0, if_true, if_false] <;> omega); (case ec => by_cases h0 : (n - 2375839 + 365) % 1461 = 1460 <;> simp only [freD, freR, h0, if_true, if_false] <;> omega))

local macro_rules | `(tactic| walk_at "call ref") => `(tactic| (k_here; (show wpAny _ _ (call (Value.ref 123) _) _ _ _); refine' fre_spec _ _ _ _ ?hz ?hn ?hn2 _ _ _ _ _ _ _ _ _ _ _ _ _ _ _ _ _ _ _ _ _ _ ?B ?F ?X ?N ?T ?hk ?hd ?hu (ret_T3 ?_); (case B => k_asm); (case F => k_asm); (case X => k_asm); (case N => k_asm); (case T => k_asm); (case hk => first | with_unfolding_all rfl | assumption); (case hd => (try simp only [depth_deeper]); (try dsimp only [ktrTop]); first | (with_unfolding_all decide) | omega); (case hu => (try simp only [units_deeper]); (try dsimp only [ktrTop]); first | (with_unfolding_all decide) | omega); (case hz => first | with_reducible assumption); (case hn => first | assumption | omega); (case hn2 => first | assumption | omega); intro D' t1' t2' t3' n' h' tk' F' N' l1; (try k_lt l1); (try dsimp only); (try k_sweep)))
theorem romlo_spec (w : World) (z : UInt64) (n : Int) (t : Tok) (hz : H z (2 * n + 1)) (hn : 2375839 ≤ n) (hn2 : n ≤ 400000000000) (u : Tok) (hlo : n ≤ 2380222) : Spec w 2 123 [.float z t, .str (PySem.Str.ofString "romme") u] (fun tl v => ∃ D t1 t2 t3 n', tl = [(D, tupOf [.int (freY (-1) (n - 2375839 + 365)) t1, .int (freM (n - 2375839 + 365)) t2, .int (freD (n - 2375839 + 365)) t3] n')] ∧ v = .ref D) := by
  have e0 : (2 * n + 1) / 2 = n := by omega
  have e1 : 2 * ((2 * n + 1) / 2) + 1 - 4751679 = 2 * (n - 2375839) := by omega
  have e2 : (2 * ((2 * n + 1) / 2) + 1 - 4751679 + 2 * 365) / 2922 = (n - 2375839 + 365) / 1461 := by omega
  have e3 : (2 * ((2 * n + 1) / 2) + 1 - 4751679 + 2 * 365) % 2922 = 2 * ((n - 2375839 + 365) % 1461) := by omega
  unfold Spec
  k_fill
  intro dp un gd cn cs a ccd cl outer A₀ base h₀ L m₀ mean mg mb news s Q E B F X N T hk hd hu hret
  refine wpAny_call ?_
  k_dflt (refine' code_def ?k1 ?k2 ?k3 ?k4 ?k5 ?kA ?kF ?kK ?k6 ?k7 ?k8 ?k9 ?kB ?_ ?c2 ?c3 ?c4 ?c5; (case kA => exact rfl); (case kF => exact rfl); (case kK => assumption); (case k1 => k_asm); (case k2 => k_asm); (case k3 => k_asm); (case k4 => k_asm); (case k5 => k_asm); (case k6 => k_is); (case k7 => k_is); (case k8 => (try dsimp only [ktrTop]); omega); (case k9 => first | exact BindsTo.of_eq rfl | exact binds_K (by k_in) rfl (by k_is) rfl rfl rfl); (case c5 => decide); (case kB => exact locs rfl); (case c2 => exact rfl); (case c3 => exact rfl); (case c4 => exact rfl); k_whole; intro g' L' h' FG' F' N' B' X' T'; (try dsimp only); (try k_lift B'); (try k_fold))
  k_steps
  all_goals (refine' end_T3 hret ?ea ?eb ?ec ?F ?N ?hm ?hs ?hl; (case F => k_asm); (case N => k_asm); (case hm => k_mem); (case hs => first | exact fun _ h => h | exact fun _ h => List.mem_cons_of_mem _ h | exact fun _ h => List.mem_cons_of_mem _ (List.mem_cons_of_mem _ h) | exact fun _ h => List.mem_cons_of_mem _ (List.mem_cons_of_mem _ (List.mem_cons_of_mem _ h)) | exact fun _ h => List.mem_cons_of_mem _ (List.mem_cons_of_mem _ (List.mem_cons_of_mem _ (List.mem_cons_of_mem _ h))) | exact fun _ h => List.mem_cons_of_mem _ (List.mem_cons_of_mem _ (List.mem_cons_of_mem _ (List.mem_cons_of_mem _ (List.mem_cons_of_mem _ h)))) | exact fun _ h => List.mem_cons_of_mem _ (List.mem_cons_of_mem _ (List.mem_cons_of_mem _ (List.mem_cons_of_mem _ (List.mem_cons_of_mem _ (List.mem_cons_of_mem _ h))))) | exact fun _ h => List.mem_cons_of_mem _ (List.mem_cons_of_mem _ (List.mem_cons_of_mem _ (List.mem_cons_of_mem _ (List.mem_cons_of_mem _ (List.mem_cons_of_mem _ (List.mem_cons_of_mem _ h)))))) | exact fun _ h => List.mem_cons_of_mem _ (List.mem_cons_of_mem _ (List.mem_cons_of_mem _ (List.mem_cons_of_mem _ (List.mem_cons_of_mem _ (List.mem_cons_of_mem _ (List.mem_cons_of_mem _ (List.mem_cons_of_mem _ h))))))) | exact fun _ h => List.mem_cons_of_mem _ (List.mem_cons_of_mem _ (List.mem_cons_of_mem _ (List.mem_cons_of_mem _ (List.mem_cons_of_mem _ (List.mem_cons_of_mem _ (List.mem_cons_of_mem _ (List.mem_cons_of_mem _ (List.mem_cons_of_mem _ h)))))))) | kcj_all); (case hl => first | assumption | exact ktn_ltOf (by assumption) | exact ktn_ltOf (And.right (by assumption)) | exact ktn_ltOf (And.right (And.right (by assumption))) | exact ktn_ltOf (And.right (And.right (And.right (by assumption)))) | exact ktn_ltOf (And.right (And.right (And.right (And.right (by assumption))))) | exact ktn_ltOf (And.right (And.right (And.right (And.right (And.right (by assumption)))))) | exact ktn_ltOf (And.right (And.right (And.right (And.right (And.right (And.right (by assumption)))))))); (case ea => by_cases h0 : (n - 2375839 + 365) % 1461 = 1460 <;> simp only [freY, h0, if_true, if_false] <;> omega); (case eb => by_cases h0 : (n - 2375839 + 365) % 1461 = 1460 <;> simp only [freM, freR, h0, if_true, if_false] <;> omega); (case ec => by_cases h0 : (n - 2375839 + 365) % 1461 = 1460 <;> simp only [freD, freR, h0, if_true, if_false] <;> omega))
local macro_rules | `(tactic| walk_at "isTrue BoolOp") => `(tactic| (k_here; (with_reducible show wpAny _ _ (PySem.isTrue (Expr.BoolOp BoolOp.Or [Expr.BoolOp _ _ _, Expr.BoolOp _ _ _] _) _ _) _ _ _); k_dflt (refine' join_test true ?F ?N ?inner ?_; (case F => k_asm); (case N => k_asm)); (case inner => k_dflt (intro Q' hQ'; (with_reducible refine isTrue_or ?_); (repeat' (first | (k_unfold; (try dsimp only)) | walk1 | (dsimp only; walk1) | (leave1; try dsimp only) | fail "no step")); all_goals exact hQ' _ _ (by k_asm) (by first | k_asm | exact nsub1 (by k_asm) | exact nsub2 (by k_asm)))); intro h' tk' F' N'; (try dsimp only)))
theorem madlo_spec (w : World) (z : UInt64) (n : Int) (t : Tok) (hz : H z (2 * n + 1)) (hn : 2375839 ≤ n) (hn2 : n ≤ 400000000000) (u : Tok) (hlo : n ≤ 2382048) : Spec w 2 123 [.float z t, .str (PySem.Str.ofString "madler") u] (fun tl v => ∃ D t1 t2 t3 n', tl = [(D, tupOf [.int (freY (-1) (n - 2375839 + 365)) t1, .int (freM (n - 2375839 + 365)) t2, .int (freD (n - 2375839 + 365)) t3] n')] ∧ v = .ref D) := by
  have e0 : (2 * n + 1) / 2 = n := by omega
  have e1 : 2 * ((2 * n + 1) / 2) + 1 - 4751679 = 2 * (n - 2375839) := by omega
  have e2 : (2 * ((2 * n + 1) / 2) + 1 - 4751679 + 2 * 365) / 2922 = (n - 2375839 + 365) / 1461 := by omega
  have e3 : (2 * ((2 * n + 1) / 2) + 1 - 4751679 + 2 * 365) % 2922 = 2 * ((n - 2375839 + 365) % 1461) := by omega
  unfold Spec
  k_fill
  intro dp un gd cn cs a ccd cl outer A₀ base h₀ L m₀ mean mg mb news s Q E B F X N T hk hd hu hret
  refine wpAny_call ?_
  k_dflt (refine' code_def ?k1 ?k2 ?k3 ?k4 ?k5 ?kA ?kF ?kK ?k6 ?k7 ?k8 ?k9 ?kB ?_ ?c2 ?c3 ?c4 ?c5; (case kA => exact rfl); (case kF => exact rfl); (case kK => assumption); (case k1 => k_asm); (case k2 => k_asm); (case k3 => k_asm); (case k4 => k_asm); (case k5 => k_asm); (case k6 => k_is); (case k7 => k_is); (case k8 => (try dsimp only [ktrTop]); omega); (case k9 => first | exact BindsTo.of_eq rfl | exact binds_K (by k_in) rfl (by k_is) rfl rfl rfl); (case c5 => decide); (case kB => exact locs rfl); (case c2 => exact rfl); (case c3 => exact rfl); (case c4 => exact rfl); k_whole; intro g' L' h' FG' F' N' B' X' T'; (try dsimp only); (try k_lift B'); (try k_fold))
  k_steps
  all_goals (refine' end_T3 hret ?ea ?eb ?ec ?F ?N ?hm ?hs ?hl; (case F => k_asm); (case N => k_asm); (case hm => k_mem); (case hs => first | exact fun _ h => h | exact fun _ h => List.mem_cons_of_mem _ h | exact fun _ h => List.mem_cons_of_mem _ (List.mem_cons_of_mem _ h) | exact fun _ h => List.mem_cons_of_mem _ (List.mem_cons_of_mem _ (List.mem_cons_of_mem _ h)) | exact fun _ h => List.mem_cons_of_mem _ (List.mem_cons_of_mem _ (List.mem_cons_of_mem _ (List.mem_cons_of_mem _ h))) | exact fun _ h => List.mem_cons_of_mem _ (List.mem_cons_of_mem _ (List.mem_cons_of_mem _ (List.mem_cons_of_mem _ (List.mem_cons_of_mem _ h)))) | exact fun _ h => List.mem_cons_of_mem _ (List.mem_cons_of_mem _ (List.mem_cons_of_mem _ (List.mem_cons_of_mem _ (List.mem_cons_of_mem _ (List.mem_cons_of_mem _ h))))) | exact fun _ h => List.mem_cons_of_mem _ (List.mem_cons_of_mem _ (List.mem_cons_of_mem _ (List.mem_cons_of_mem _ (List.mem_cons_of_mem _ (List.mem_cons_of_mem _ (List.mem_cons_of_mem _ h)))))) | exact fun _ h => List.mem_cons_of_mem _ (List.mem_cons_of_mem _ (List.mem_cons_of_mem _ (List.mem_cons_of_mem _ (List.mem_cons_of_mem _ (List.mem_cons_of_mem _ (List.mem_cons_of_mem _ (List.mem_cons_of_mem _ h))))))) | exact fun _ h => List.mem_cons_of_mem _ (List.mem_cons_of_mem _ (List.mem_cons_of_mem _ (List.mem_cons_of_mem _ (List.mem_cons_of_mem _ (List.mem_cons_of_mem _ (List.mem_cons_of_mem _ (List.mem_cons_of_mem _ (List.mem_cons_of_mem _ h)))))))) | kcj_all); (case hl => first | assumption | exact ktn_ltOf (by assumption) | exact ktn_ltOf (And.right (by assumption)) | exact ktn_ltOf (And.right (And.right (by assumption))) | exact ktn_ltOf (And.right (And.right (And.right (by assumption)))) | exact ktn_ltOf (And.right (And.right (And.right (And.right (by assumption))))) | exact ktn_ltOf (And.right (And.right (And.right (And.right (And.right (by assumption)))))) | exact ktn_ltOf (And.right (And.right (And.right (And.right (And.right (And.right (by assumption)))))))); (case ea => by_cases h0 : (n - 2375839 + 365) % 1461 = 1460 <;> simp only [freY, h0, if_true, if_false] <;> omega); (case eb => by_cases h0 : (n - 2375839 + 365) % 1461 = 1460 <;> simp only [freM, freR, h0, if_true, if_false] <;> omega); (case ec => by_cases h0 : (n - 2375839 + 365) % 1461 = 1460 <;> simp only [freD, freR, h0, if_true, if_false] <;> omega))
local macro_rules | `(tactic| walk_at "isTrue BoolOp") => `(tactic| (k_here; (with_reducible show wpAny _ _ (PySem.isTrue (Expr.BoolOp BoolOp.Or [Expr.BoolOp _ _ _, Expr.BoolOp _ _ _] _) _ _) _ _ _); k_dflt (refine' join_test false ?F ?N ?inner ?_; (case F => k_asm); (case N => k_asm)); (case inner => k_dflt (intro Q' hQ'; (with_reducible refine isTrue_or ?_); (repeat' (first | (k_unfold; (try dsimp only)) | walk1 | (dsimp only; walk1) | (leave1; try dsimp only) | fail "no step")); all_goals exact hQ' _ _ (by k_asm) (by first | k_asm | exact nsub1 (by k_asm) | exact nsub2 (by k_asm)))); intro h' tk' F' N'; (try dsimp only)))
theorem romhi_spec (w : World) (z : UInt64) (n : Int) (t : Tok) (hz : H z (2 * n + 1)) (hn : 2375839 ≤ n) (hn2 : n ≤ 400000000000) (u : Tok) (hhi : 2380222 < n) : Spec w 2 123 [.float z t, .str (PySem.Str.ofString "romme") u] (fun tl v => ∃ D t1 t2 t3 n', tl = [(D, tupOf [.int (freY (romB n) (romJ n)) t1, .int (freM (romJ n)) t2, .int (freD (romJ n)) t3] n')] ∧ v = .ref D) := by
  have e0 : (2 * n + 1) / 2 = n := by omega
  have e1 : 2 * ((2 * n + 1) / 2) + 1 - 4751679 - 730 * 12 - 2 * 3 = 2 * (n - 2380222) := by omega
  have e2 : (2 * ((2 * n + 1) / 2) + 1 - 4751679 - 730 * 12 - 2 * 3) / (2 * 1460969) = (n - 2380222) / 1460969 := by omega
  have e3 : (2 * ((2 * n + 1) / 2) + 1 - 4751679 - 730 * 12 - 2 * 3) % (2 * 1460969) = 2 * ((n - 2380222) % 1460969) := by omega
  have e4 : (2 * ((2 * n + 1) / 2) + 1 - 4751679 - 730 * 12 - 2 * 3) % (2 * 1460969) / (2 * 146097) = (n - 2380222) % 1460969 / 146097 := by rw [e3]; omega
  have e5 : (2 * ((2 * n + 1) / 2) + 1 - 4751679 - 730 * 12 - 2 * 3) % (2 * 1460969) % (2 * 146097) = 2 * ((n - 2380222) % 1460969 % 146097) := by rw [e3]; omega
  have e6 : (2 * ((2 * n + 1) / 2) + 1 - 4751679 - 730 * 12 - 2 * 3) % (2 * 1460969) % (2 * 146097) / (2 * 36524) = (n - 2380222) % 1460969 % 146097 / 36524 := by rw [e5]; omega
  have e7 : (2 * ((2 * n + 1) / 2) + 1 - 4751679 - 730 * 12 - 2 * 3) % (2 * 1460969) % (2 * 146097) % (2 * 36524) = 2 * romJ n := by rw [e5]; unfold romJ; omega
  have e8 : (2 * ((2 * n + 1) / 2) + 1 - 4751679 - 730 * 12 - 2 * 3) % (2 * 1460969) % (2 * 146097) % (2 * 36524) / 2922 = romJ n / 1461 := by rw [e7]; omega
  have e9 : (2 * ((2 * n + 1) / 2) + 1 - 4751679 - 730 * 12 - 2 * 3) % (2 * 1460969) % (2 * 146097) % (2 * 36524) % 2922 = 2 * (romJ n % 1461) := by rw [e7]; omega
  have eB : romB n = 4000 * ((n - 2380222) / 1460969) + 400 * ((n - 2380222) % 1460969 / 146097) + 100 * ((n - 2380222) % 1460969 % 146097 / 36524) + 12 := rfl
  unfold Spec
  k_fill
  intro dp un gd cn cs a ccd cl outer A₀ base h₀ L m₀ mean mg mb news s Q E B F X N T hk hd hu hret
  refine wpAny_call ?_
  k_dflt (refine' code_def ?k1 ?k2 ?k3 ?k4 ?k5 ?kA ?kF ?kK ?k6 ?k7 ?k8 ?k9 ?kB ?_ ?c2 ?c3 ?c4 ?c5; (case kA => exact rfl); (case kF => exact rfl); (case kK => assumption); (case k1 => k_asm); (case k2 => k_asm); (case k3 => k_asm); (case k4 => k_asm); (case k5 => k_asm); (case k6 => k_is); (case k7 => k_is); (case k8 => (try dsimp only [ktrTop]); omega); (case k9 => first | exact BindsTo.of_eq rfl | exact binds_K (by k_in) rfl (by k_is) rfl rfl rfl); (case c5 => decide); (case kB => exact locs rfl); (case c2 => exact rfl); (case c3 => exact rfl); (case c4 => exact rfl); k_whole; intro g' L' h' FG' F' N' B' X' T'; (try dsimp only); (try k_lift B'); (try k_fold))
  k_steps
  all_goals (refine' end_T3 hret ?ea ?eb ?ec ?F ?N ?hm ?hs ?hl; (case F => k_asm); (case N => k_asm); (case hm => k_mem); (case hs => first | exact fun _ h => h | exact fun _ h => List.mem_cons_of_mem _ h | exact fun _ h => List.mem_cons_of_mem _ (List.mem_cons_of_mem _ h) | exact fun _ h => List.mem_cons_of_mem _ (List.mem_cons_of_mem _ (List.mem_cons_of_mem _ h)) | exact fun _ h => List.mem_cons_of_mem _ (List.mem_cons_of_mem _ (List.mem_cons_of_mem _ (List.mem_cons_of_mem _ h))) | exact fun _ h => List.mem_cons_of_mem _ (List.mem_cons_of_mem _ (List.mem_cons_of_mem _ (List.mem_cons_of_mem _ (List.mem_cons_of_mem _ h)))) | exact fun _ h => List.mem_cons_of_mem _ (List.mem_cons_of_mem _ (List.mem_cons_of_mem _ (List.mem_cons_of_mem _ (List.mem_cons_of_mem _ (List.mem_cons_of_mem _ h))))) | exact fun _ h => List.mem_cons_of_mem _ (List.mem_cons_of_mem _ (List.mem_cons_of_mem _ (List.mem_cons_of_mem _ (List.mem_cons_of_mem _ (List.mem_cons_of_mem _ (List.mem_cons_of_mem _ h)))))) | exact fun _ h => List.mem_cons_of_mem _ (List.mem_cons_of_mem _ (List.mem_cons_of_mem _ (List.mem_cons_of_mem _ (List.mem_cons_of_mem _ (List.mem_cons_of_mem _ (List.mem_cons_of_mem _ (List.mem_cons_of_mem _ h))))))) | exact fun _ h => List.mem_cons_of_mem _ (List.mem_cons_of_mem _ (List.mem_cons_of_mem _ (List.mem_cons_of_mem _ (List.mem_cons_of_mem _ (List.mem_cons_of_mem _ (List.mem_cons_of_mem _ (List.mem_cons_of_mem _ (List.mem_cons_of_mem _ h)))))))) | kcj_all); (case hl => first | assumption | exact ktn_ltOf (by assumption) | exact ktn_ltOf (And.right (by assumption)) | exact ktn_ltOf (And.right (And.right (by assumption))) | exact ktn_ltOf (And.right (And.right (And.right (by assumption)))) | exact ktn_ltOf (And.right (And.right (And.right (And.right (by assumption))))) | exact ktn_ltOf (And.right (And.right (And.right (And.right (And.right (by assumption)))))) | exact ktn_ltOf (And.right (And.right (And.right (And.right (And.right (And.right (by assumption)))))))); (case ea => by_cases h0 : romJ n % 1461 = 1460 <;> simp only [freY, h0, if_true, if_false] <;> omega); (case eb => by_cases h0 : romJ n % 1461 = 1460 <;> simp only [freM, freR, h0, if_true, if_false] <;> omega); (case ec => by_cases h0 : romJ n % 1461 = 1460 <;> simp only [freD, freR, h0, if_true, if_false] <;> omega))
theorem madhi_spec (w : World) (z : UInt64) (n : Int) (t : Tok) (hz : H z (2 * n + 1)) (hn : 2375839 ≤ n) (hn2 : n ≤ 400000000000) (u : Tok) (hhi : 2382048 < n) : Spec w 2 123 [.float z t, .str (PySem.Str.ofString "madler") u] (fun tl v => ∃ D t1 t2 t3 n', tl = [(D, tupOf [.int (freY (madB n) (madJ n)) t1, .int (freM (madJ n)) t2, .int (freD (madJ n)) t3] n')] ∧ v = .ref D) := by
  have e0 : (2 * n + 1) / 2 = n := by omega
  have e1 : 2 * ((2 * n + 1) / 2) + 1 - 4751679 - 730 * 16 - 2 * 4 = 2 * (n - 2381683) := by omega
  have e2 : (2 * ((2 * n + 1) / 2) + 1 - 4751679 - 730 * 16 - 2 * 4) / (2 * 46751) = (n - 2381683) / 46751 := by omega
  have e7 : (2 * ((2 * n + 1) / 2) + 1 - 4751679 - 730 * 16 - 2 * 4) % (2 * 46751) = 2 * madJ n := by unfold madJ; omega
  have e8 : (2 * ((2 * n + 1) / 2) + 1 - 4751679 - 730 * 16 - 2 * 4) % (2 * 46751) / 2922 = madJ n / 1461 := by rw [e7]; omega
  have e9 : (2 * ((2 * n + 1) / 2) + 1 - 4751679 - 730 * 16 - 2 * 4) % (2 * 46751) % 2922 = 2 * (madJ n % 1461) := by rw [e7]; omega
  have eB : madB n = 128 * ((n - 2381683) / 46751) + 16 := rfl
  unfold Spec
  k_fill
  intro dp un gd cn cs a ccd cl outer A₀ base h₀ L m₀ mean mg mb news s Q E B F X N T hk hd hu hret
  refine wpAny_call ?_
  k_dflt (refine' code_def ?k1 ?k2 ?k3 ?k4 ?k5 ?kA ?kF ?kK ?k6 ?k7 ?k8 ?k9 ?kB ?_ ?c2 ?c3 ?c4 ?c5; (case kA => exact rfl); (case kF => exact rfl); (case kK => assumption); (case k1 => k_asm); (case k2 => k_asm); (case k3 => k_asm); (case k4 => k_asm); (case k5 => k_asm); (case k6 => k_is); (case k7 => k_is); (case k8 => (try dsimp only [ktrTop]); omega); (case k9 => first | exact BindsTo.of_eq rfl | exact binds_K (by k_in) rfl (by k_is) rfl rfl rfl); (case c5 => decide); (case kB => exact locs rfl); (case c2 => exact rfl); (case c3 => exact rfl); (case c4 => exact rfl); k_whole; intro g' L' h' FG' F' N' B' X' T'; (try dsimp only); (try k_lift B'); (try k_fold))
  k_steps
  all_goals (refine' end_T3 hret ?ea ?eb ?ec ?F ?N ?hm ?hs ?hl; (case F => k_asm); (case N => k_asm); (case hm => k_mem); (case hs => first | exact fun _ h => h | exact fun _ h => List.mem_cons_of_mem _ h | exact fun _ h => List.mem_cons_of_mem _ (List.mem_cons_of_mem _ h) | exact fun _ h => List.mem_cons_of_mem _ (List.mem_cons_of_mem _ (List.mem_cons_of_mem _ h)) | exact fun _ h => List.mem_cons_of_mem _ (List.mem_cons_of_mem _ (List.mem_cons_of_mem _ (List.mem_cons_of_mem _ h))) | exact fun _ h => List.mem_cons_of_mem _ (List.mem_cons_of_mem _ (List.mem_cons_of_mem _ (List.mem_cons_of_mem _ (List.mem_cons_of_mem _ h)))) | exact fun _ h => List.mem_cons_of_mem _ (List.mem_cons_of_mem _ (List.mem_cons_of_mem _ (List.mem_cons_of_mem _ (List.mem_cons_of_mem _ (List.mem_cons_of_mem _ h))))) | exact fun _ h => List.mem_cons_of_mem _ (List.mem_cons_of_mem _ (List.mem_cons_of_mem _ (List.mem_cons_of_mem _ (List.mem_cons_of_mem _ (List.mem_cons_of_mem _ (List.mem_cons_of_mem _ h)))))) | exact fun _ h => List.mem_cons_of_mem _ (List.mem_cons_of_mem _ (List.mem_cons_of_mem _ (List.mem_cons_of_mem _ (List.mem_cons_of_mem _ (List.mem_cons_of_mem _ (List.mem_cons_of_mem _ (List.mem_cons_of_mem _ h))))))) | exact fun _ h => List.mem_cons_of_mem _ (List.mem_cons_of_mem _ (List.mem_cons_of_mem _ (List.mem_cons_of_mem _ (List.mem_cons_of_mem _ (List.mem_cons_of_mem _ (List.mem_cons_of_mem _ (List.mem_cons_of_mem _ (List.mem_cons_of_mem _ h)))))))) | kcj_all); (case hl => first | assumption | exact ktn_ltOf (by assumption) | exact ktn_ltOf (And.right (by assumption)) | exact ktn_ltOf (And.right (And.right (by assumption))) | exact ktn_ltOf (And.right (And.right (And.right (by assumption)))) | exact ktn_ltOf (And.right (And.right (And.right (And.right (by assumption))))) | exact ktn_ltOf (And.right (And.right (And.right (And.right (And.right (by assumption)))))) | exact ktn_ltOf (And.right (And.right (And.right (And.right (And.right (And.right (by assumption)))))))); (case ea => by_cases h0 : madJ n % 1461 = 1460 <;> simp only [freY, h0, if_true, if_false] <;> omega); (case eb => by_cases h0 : madJ n % 1461 = 1460 <;> simp only [freM, freR, h0, if_true, if_false] <;> omega); (case ec => by_cases h0 : madJ n % 1461 = 1460 <;> simp only [freD, freR, h0, if_true, if_false] <;> omega))
theorem rom_spec (w : World) (z : UInt64) (n : Int) (t : Tok) (hz : H z (2 * n + 1)) (hn : 2375839 ≤ n) (hn2 : n ≤ 400000000000) (u : Tok) : Spec w 2 123 [.float z t, .str (PySem.Str.ofString "romme") u] (fun tl v => ∃ D t1 t2 t3 n', tl = [(D, tupOf [.int (freY (romB' n) (romJ' n)) t1, .int (freM (romJ' n)) t2, .int (freD (romJ' n)) t3] n')] ∧ v = .ref D) := by
  by_cases h : n ≤ 2380222
  · have e1 : romB' n = -1 := by unfold romB'; rw [if_pos h]
    have e2 : romJ' n = n - 2375839 + 365 := by unfold romJ'; rw [if_pos h]
    rw [e1, e2]
    exact romlo_spec w z n t hz hn hn2 u h
  · have e1 : romB' n = romB n := by unfold romB'; rw [if_neg h]
    have e2 : romJ' n = romJ n := by unfold romJ'; rw [if_neg h]
    rw [e1, e2]
    exact romhi_spec w z n t hz hn hn2 u (by omega)
theorem mad_spec (w : World) (z : UInt64) (n : Int) (t : Tok) (hz : H z (2 * n + 1)) (hn : 2375839 ≤ n) (hn2 : n ≤ 400000000000) (u : Tok) : Spec w 2 123 [.float z t, .str (PySem.Str.ofString "madler") u] (fun tl v => ∃ D t1 t2 t3 n', tl = [(D, tupOf [.int (freY (madB' n) (madJ' n)) t1, .int (freM (madJ' n)) t2, .int (freD (madJ' n)) t3] n')] ∧ v = .ref D) := by
  by_cases h : n ≤ 2382048
  · have e1 : madB' n = -1 := by unfold madB'; rw [if_pos h]
    have e2 : madJ' n = n - 2375839 + 365 := by unfold madJ'; rw [if_pos h]
    rw [e1, e2]
    exact madlo_spec w z n t hz hn hn2 u h
  · have e1 : madB' n = madB n := by unfold madB'; rw [if_neg h]
    have e2 : madJ' n = madJ n := by unfold madJ'; rw [if_neg h]
    rw [e1, e2]
    exact madhi_spec w z n t hz hn hn2 u (by omega)

local macro_rules | `(tactic| walk_at "call ref") => `(tactic| (k_here; (show wpAny _ _ (call (Value.ref 123) _) _ _ _); refine' rom_spec _ _ _ _ ?hz ?hn ?hn2 _ _ _ _ _ _ _ _ _ _ _ _ _ _ _ _ _ _ _ _ _ _ ?B ?F ?X ?N ?T ?hk ?hd ?hu (ret_T3 ?_); (case B => k_asm); (case F => k_asm); (case X => k_asm); (case N => k_asm); (case T => k_asm); (case hk => first | with_unfolding_all rfl | assumption); (case hd => (try simp only [depth_deeper]); (try dsimp only [ktrTop]); first | (with_unfolding_all decide) | omega); (case hu => (try simp only [units_deeper]); (try dsimp only [ktrTop]); first | (with_unfolding_all decide) | omega); (case hz => first | with_reducible assumption); (case hn => first | assumption | omega); (case hn2 => first | assumption | omega); intro D' t1' t2' t3' n' h' tk' F' N' l1; (try k_lt l1); (try dsimp only); (try k_sweep)))
local macro_rules | `(tactic| walk_at "call ref") => `(tactic| (k_here; (show wpAny _ _ (call (Value.ref 123) _) _ _ _); refine' mad_spec _ _ _ _ ?hz ?hn ?hn2 _ _ _ _ _ _ _ _ _ _ _ _ _ _ _ _ _ _ _ _ _ _ ?B ?F ?X ?N ?T ?hk ?hd ?hu (ret_T3 ?_); (case B => k_asm); (case F => k_asm); (case X => k_asm); (case N => k_asm); (case T => k_asm); (case hk => first | with_unfolding_all rfl | assumption); (case hd => (try simp only [depth_deeper]); (try dsimp only [ktrTop]); first | (with_unfolding_all decide) | omega); (case hu => (try simp only [units_deeper]); (try dsimp only [ktrTop]); first | (with_unfolding_all decide) | omega); (case hz => first | with_reducible assumption); (case hn => first | assumption | omega); (case hn2 => first | assumption | omega); intro D' t1' t2' t3' n' h' tk' F' N' l1; (try k_lt l1); (try dsimp only); (try k_sweep)))
local macro_rules | `(tactic| walk_at "call ref") => `(tactic| (k_here; (show wpAny _ _ (call (Value.ref 116) _ _) _ _ _); refine wpAny_call ?_; k_dflt (refine' code_def ?k1 ?k2 ?k3 ?k4 ?k5 ?kA ?kF ?kK ?k6 ?k7 ?k8 ?k9 ?kB ?_ ?c2 ?c3 ?c4 ?c5; (case kA => exact rfl); (case kF => exact rfl); (case kK => first | exact rfl | assumption); (case k1 => k_asm); (case k2 => k_asm); (case k3 => k_asm); (case k4 => k_asm); (case k5 => k_asm); (case k6 => k_is); (case k7 => k_is); (case k8 => (try simp only [depth_deeper]); (try dsimp only [ktrTop]); omega); (case k9 => first | exact BindsTo.of_eq rfl | exact binds_K (by k_in) rfl (by k_is) rfl rfl rfl); (case c5 => decide); (case kB => exact locs rfl); (case c2 => exact rfl); (case c3 => exact rfl); (case c4 => exact rfl); k_whole; intro g' L' h' FG' F' N' B' X' T'; (try dsimp only); (try k_lift B'); (try k_fold))))
theorem g_loose (w : World) (y m d : Int) (t u v : Tok) (hy : 1 ≤ y) (hy2 : y ≤ 1000002000) (h1 : 1 ≤ m) (h2 : m ≤ 12) (hb : 1 ≤ d) (hc : d ≤ dim y m) (hn : 2375839 ≤ jdn y m d) (hn2 : jdn y m d ≤ 400000000000) : Spec w 6 87 [.int y t, .int m u, .int d v] (fun tl v => ∃ D t1 t2 t3 n', tl = [(D, tupOf [.int (loose1 (jdn y m d)) t1, .int (loose2 (jdn y m d)) t2, .int (loose3 (jdn y m d)) t3] n')] ∧ v = .ref D) := by
  unfold Spec
  k_fill
  intro dp un gd cn cs a ccd cl outer A₀ base h₀ L m₀ mean mg mb news s Q E B F X N T hk hd hu hret
  refine wpAny_call ?_
  k_dflt (refine' code_def ?k1 ?k2 ?k3 ?k4 ?k5 ?kA ?kF ?kK ?k6 ?k7 ?k8 ?k9 ?kB ?_ ?c2 ?c3 ?c4 ?c5; (case kA => exact rfl); (case kF => exact rfl); (case kK => assumption); (case k1 => k_asm); (case k2 => k_asm); (case k3 => k_asm); (case k4 => k_asm); (case k5 => k_asm); (case k6 => k_is); (case k7 => k_is); (case k8 => (try dsimp only [ktrTop]); omega); (case k9 => first | exact BindsTo.of_eq rfl | exact binds_K (by k_in) rfl (by k_is) rfl rfl rfl); (case c5 => decide); (case kB => exact locs rfl); (case c2 => exact rfl); (case c3 => exact rfl); (case c4 => exact rfl); k_whole; intro g' L' h' FG' F' N' B' X' T'; (try dsimp only); (try k_lift B'); (try k_fold))
  k_steps
  all_goals (refine' end_T3 hret ?ea ?eb ?ec ?F ?N ?hm ?hs ?hl; (case F => k_asm); (case N => k_asm); (case hm => k_mem); (case hs => first | exact fun _ h => h | exact fun _ h => List.mem_cons_of_mem _ h | exact fun _ h => List.mem_cons_of_mem _ (List.mem_cons_of_mem _ h) | exact fun _ h => List.mem_cons_of_mem _ (List.mem_cons_of_mem _ (List.mem_cons_of_mem _ h)) | exact fun _ h => List.mem_cons_of_mem _ (List.mem_cons_of_mem _ (List.mem_cons_of_mem _ (List.mem_cons_of_mem _ h))) | exact fun _ h => List.mem_cons_of_mem _ (List.mem_cons_of_mem _ (List.mem_cons_of_mem _ (List.mem_cons_of_mem _ (List.mem_cons_of_mem _ h)))) | exact fun _ h => List.mem_cons_of_mem _ (List.mem_cons_of_mem _ (List.mem_cons_of_mem _ (List.mem_cons_of_mem _ (List.mem_cons_of_mem _ (List.mem_cons_of_mem _ h))))) | exact fun _ h => List.mem_cons_of_mem _ (List.mem_cons_of_mem _ (List.mem_cons_of_mem _ (List.mem_cons_of_mem _ (List.mem_cons_of_mem _ (List.mem_cons_of_mem _ (List.mem_cons_of_mem _ h)))))) | exact fun _ h => List.mem_cons_of_mem _ (List.mem_cons_of_mem _ (List.mem_cons_of_mem _ (List.mem_cons_of_mem _ (List.mem_cons_of_mem _ (List.mem_cons_of_mem _ (List.mem_cons_of_mem _ (List.mem_cons_of_mem _ h))))))) | exact fun _ h => List.mem_cons_of_mem _ (List.mem_cons_of_mem _ (List.mem_cons_of_mem _ (List.mem_cons_of_mem _ (List.mem_cons_of_mem _ (List.mem_cons_of_mem _ (List.mem_cons_of_mem _ (List.mem_cons_of_mem _ (List.mem_cons_of_mem _ h)))))))) | kcj_all); (case hl => first | assumption | exact ktn_ltOf (by assumption) | exact ktn_ltOf (And.right (by assumption)) | exact ktn_ltOf (And.right (And.right (by assumption))) | exact ktn_ltOf (And.right (And.right (And.right (by assumption)))) | exact ktn_ltOf (And.right (And.right (And.right (And.right (by assumption))))) | exact ktn_ltOf (And.right (And.right (And.right (And.right (And.right (by assumption)))))) | exact ktn_ltOf (And.right (And.right (And.right (And.right (And.right (And.right (by assumption)))))))); (case ea => rfl); (case eb => rfl); (case ec => rfl))
theorem g_sark (w : World) (y m d : Int) (t u v : Tok) (hy : 1 ≤ y) (hy2 : y ≤ 1000002000) (h1 : 1 ≤ m) (h2 : m ≤ 12) (hb : 1 ≤ d) (hc : d ≤ dim y m) (hn : 2375839 ≤ jdn y m d) (hn2 : jdn y m d ≤ 400000000000) (q : Tok) : Spec w 6 87 [.int y t, .int m u, .int d v, .str (PySem.Str.ofString "sarkawag") q] (fun tl v => ∃ D t1 t2 t3 n', tl = [(D, tupOf [.int (sark1 (jdn y m d)) t1, .int (sark2 (jdn y m d)) t2, .int (sark3 (jdn y m d)) t3] n')] ∧ v = .ref D) := by
  unfold Spec
  k_fill
  intro dp un gd cn cs a ccd cl outer A₀ base h₀ L m₀ mean mg mb news s Q E B F X N T hk hd hu hret
  refine wpAny_call ?_
  k_dflt (refine' code_def ?k1 ?k2 ?k3 ?k4 ?k5 ?kA ?kF ?kK ?k6 ?k7 ?k8 ?k9 ?kB ?_ ?c2 ?c3 ?c4 ?c5; (case kA => exact rfl); (case kF => exact rfl); (case kK => assumption); (case k1 => k_asm); (case k2 => k_asm); (case k3 => k_asm); (case k4 => k_asm); (case k5 => k_asm); (case k6 => k_is); (case k7 => k_is); (case k8 => (try dsimp only [ktrTop]); omega); (case k9 => first | exact BindsTo.of_eq rfl | exact binds_K (by k_in) rfl (by k_is) rfl rfl rfl); (case c5 => decide); (case kB => exact locs rfl); (case c2 => exact rfl); (case c3 => exact rfl); (case c4 => exact rfl); k_whole; intro g' L' h' FG' F' N' B' X' T'; (try dsimp only); (try k_lift B'); (try k_fold))
  k_steps
  all_goals (refine' end_T3 hret ?ea ?eb ?ec ?F ?N ?hm ?hs ?hl; (case F => k_asm); (case N => k_asm); (case hm => k_mem); (case hs => first | exact fun _ h => h | exact fun _ h => List.mem_cons_of_mem _ h | exact fun _ h => List.mem_cons_of_mem _ (List.mem_cons_of_mem _ h) | exact fun _ h => List.mem_cons_of_mem _ (List.mem_cons_of_mem _ (List.mem_cons_of_mem _ h)) | exact fun _ h => List.mem_cons_of_mem _ (List.mem_cons_of_mem _ (List.mem_cons_of_mem _ (List.mem_cons_of_mem _ h))) | exact fun _ h => List.mem_cons_of_mem _ (List.mem_cons_of_mem _ (List.mem_cons_of_mem _ (List.mem_cons_of_mem _ (List.mem_cons_of_mem _ h)))) | exact fun _ h => List.mem_cons_of_mem _ (List.mem_cons_of_mem _ (List.mem_cons_of_mem _ (List.mem_cons_of_mem _ (List.mem_cons_of_mem _ (List.mem_cons_of_mem _ h))))) | exact fun _ h => List.mem_cons_of_mem _ (List.mem_cons_of_mem _ (List.mem_cons_of_mem _ (List.mem_cons_of_mem _ (List.mem_cons_of_mem _ (List.mem_cons_of_mem _ (List.mem_cons_of_mem _ h)))))) | exact fun _ h => List.mem_cons_of_mem _ (List.mem_cons_of_mem _ (List.mem_cons_of_mem _ (List.mem_cons_of_mem _ (List.mem_cons_of_mem _ (List.mem_cons_of_mem _ (List.mem_cons_of_mem _ (List.mem_cons_of_mem _ h))))))) | exact fun _ h => List.mem_cons_of_mem _ (List.mem_cons_of_mem _ (List.mem_cons_of_mem _ (List.mem_cons_of_mem _ (List.mem_cons_of_mem _ (List.mem_cons_of_mem _ (List.mem_cons_of_mem _ (List.mem_cons_of_mem _ (List.mem_cons_of_mem _ h)))))))) | kcj_all); (case hl => first | assumption | exact ktn_ltOf (by assumption) | exact ktn_ltOf (And.right (by assumption)) | exact ktn_ltOf (And.right (And.right (by assumption))) | exact ktn_ltOf (And.right (And.right (And.right (by assumption)))) | exact ktn_ltOf (And.right (And.right (And.right (And.right (by assumption))))) | exact ktn_ltOf (And.right (And.right (And.right (And.right (And.right (by assumption)))))) | exact ktn_ltOf (And.right (And.right (And.right (And.right (And.right (And.right (by assumption)))))))); (case ea => rfl); (case eb => rfl); (case ec => rfl))
theorem g_copt (w : World) (y m d : Int) (t u v : Tok) (hy : 1 ≤ y) (hy2 : y ≤ 1000002000) (h1 : 1 ≤ m) (h2 : m ≤ 12) (hb : 1 ≤ d) (hc : d ≤ dim y m) (hn : 2375839 ≤ jdn y m d) (hn2 : jdn y m d ≤ 400000000000) : Spec w 6 108 [.int y t, .int m u, .int d v] (fun tl v => ∃ D t1 t2 t3 n', tl = [(D, tupOf [.int (copt1 (jdn y m d)) t1, .int (copt2 (jdn y m d)) t2, .int (copt3 (jdn y m d)) t3] n')] ∧ v = .ref D) := by
  unfold Spec
  k_fill
  intro dp un gd cn cs a ccd cl outer A₀ base h₀ L m₀ mean mg mb news s Q E B F X N T hk hd hu hret
  refine wpAny_call ?_
  k_dflt (refine' code_def ?k1 ?k2 ?k3 ?k4 ?k5 ?kA ?kF ?kK ?k6 ?k7 ?k8 ?k9 ?kB ?_ ?c2 ?c3 ?c4 ?c5; (case kA => exact rfl); (case kF => exact rfl); (case kK => assumption); (case k1 => k_asm); (case k2 => k_asm); (case k3 => k_asm); (case k4 => k_asm); (case k5 => k_asm); (case k6 => k_is); (case k7 => k_is); (case k8 => (try dsimp only [ktrTop]); omega); (case k9 => first | exact BindsTo.of_eq rfl | exact binds_K (by k_in) rfl (by k_is) rfl rfl rfl); (case c5 => decide); (case kB => exact locs rfl); (case c2 => exact rfl); (case c3 => exact rfl); (case c4 => exact rfl); k_whole; intro g' L' h' FG' F' N' B' X' T'; (try dsimp only); (try k_lift B'); (try k_fold))
  k_steps
  all_goals (refine' end_T3 hret ?ea ?eb ?ec ?F ?N ?hm ?hs ?hl; (case F => k_asm); (case N => k_asm); (case hm => k_mem); (case hs => first | exact fun _ h => h | exact fun _ h => List.mem_cons_of_mem _ h | exact fun _ h => List.mem_cons_of_mem _ (List.mem_cons_of_mem _ h) | exact fun _ h => List.mem_cons_of_mem _ (List.mem_cons_of_mem _ (List.mem_cons_of_mem _ h)) | exact fun _ h => List.mem_cons_of_mem _ (List.mem_cons_of_mem _ (List.mem_cons_of_mem _ (List.mem_cons_of_mem _ h))) | exact fun _ h => List.mem_cons_of_mem _ (List.mem_cons_of_mem _ (List.mem_cons_of_mem _ (List.mem_cons_of_mem _ (List.mem_cons_of_mem _ h)))) | exact fun _ h => List.mem_cons_of_mem _ (List.mem_cons_of_mem _ (List.mem_cons_of_mem _ (List.mem_cons_of_mem _ (List.mem_cons_of_mem _ (List.mem_cons_of_mem _ h))))) | exact fun _ h => List.mem_cons_of_mem _ (List.mem_cons_of_mem _ (List.mem_cons_of_mem _ (List.mem_cons_of_mem _ (List.mem_cons_of_mem _ (List.mem_cons_of_mem _ (List.mem_cons_of_mem _ h)))))) | exact fun _ h => List.mem_cons_of_mem _ (List.mem_cons_of_mem _ (List.mem_cons_of_mem _ (List.mem_cons_of_mem _ (List.mem_cons_of_mem _ (List.mem_cons_of_mem _ (List.mem_cons_of_mem _ (List.mem_cons_of_mem _ h))))))) | exact fun _ h => List.mem_cons_of_mem _ (List.mem_cons_of_mem _ (List.mem_cons_of_mem _ (List.mem_cons_of_mem _ (List.mem_cons_of_mem _ (List.mem_cons_of_mem _ (List.mem_cons_of_mem _ (List.mem_cons_of_mem _ (List.mem_cons_of_mem _ h)))))))) | kcj_all); (case hl => first | assumption | exact ktn_ltOf (by assumption) | exact ktn_ltOf (And.right (by assumption)) | exact ktn_ltOf (And.right (And.right (by assumption))) | exact ktn_ltOf (And.right (And.right (And.right (by assumption)))) | exact ktn_ltOf (And.right (And.right (And.right (And.right (by assumption))))) | exact ktn_ltOf (And.right (And.right (And.right (And.right (And.right (by assumption)))))) | exact ktn_ltOf (And.right (And.right (And.right (And.right (And.right (And.right (by assumption)))))))); (case ea => rfl); (case eb => rfl); (case ec => rfl))
theorem e_arm (w : World) (y m d : Int) (t u v : Tok) (hy : 1 ≤ y) (hy2 : y ≤ 1000002000) (h1 : 1 ≤ m) (h2 : m ≤ 12) (h3 : -100 < d) (h4 : d < 100) (hb : d < 1 ∨ dim y m < d) : SpecE w 6 87 [.int y t, .int m u, .int d v] "ValueError" := by
  unfold SpecE
  k_fill
  intro dp un gd cn cs a ccd cl outer A₀ base h₀ L m₀ mean mg mb news s Q E B F X N T hk hd hu hret
  refine wpAny_call ?_
  k_dflt (refine' code_def ?k1 ?k2 ?k3 ?k4 ?k5 ?kA ?kF ?kK ?k6 ?k7 ?k8 ?k9 ?kB ?_ ?c2 ?c3 ?c4 ?c5; (case kA => exact rfl); (case kF => exact rfl); (case kK => assumption); (case k1 => k_asm); (case k2 => k_asm); (case k3 => k_asm); (case k4 => k_asm); (case k5 => k_asm); (case k6 => k_is); (case k7 => k_is); (case k8 => (try dsimp only [ktrTop]); omega); (case k9 => first | exact BindsTo.of_eq rfl | exact binds_K (by k_in) rfl (by k_is) rfl rfl rfl); (case c5 => decide); (case kB => exact locs rfl); (case c2 => exact rfl); (case c3 => exact rfl); (case c4 => exact rfl); k_whole; intro g' L' h' FG' F' N' B' X' T'; (try dsimp only); (try k_lift B'); (try k_fold))
  k_steps
  all_goals first | (refine hret _ _ _ _ ?k1 ?k2 (raisedS_N ?k3); (case k3 => assumption); (case k1 => assumption); (case k2 => assumption)) | exact hret _ _ _ _ (by assumption) (by assumption) (raisedS_N (by assumption)) | exact hret _ _ _ _ (by assumption) (by assumption) (by assumption)
theorem e_sark (w : World) (y m d : Int) (t u v : Tok) (hy : 1 ≤ y) (hy2 : y ≤ 1000002000) (h1 : 1 ≤ m) (h2 : m ≤ 12) (h3 : -100 < d) (h4 : d < 100) (hb : d < 1 ∨ dim y m < d) (x : Str) (q : Tok) : SpecE w 6 87 [.int y t, .int m u, .int d v, .str x q] "ValueError" := by
  unfold SpecE
  k_fill
  intro dp un gd cn cs a ccd cl outer A₀ base h₀ L m₀ mean mg mb news s Q E B F X N T hk hd hu hret
  refine wpAny_call ?_
  k_dflt (refine' code_def ?k1 ?k2 ?k3 ?k4 ?k5 ?kA ?kF ?kK ?k6 ?k7 ?k8 ?k9 ?kB ?_ ?c2 ?c3 ?c4 ?c5; (case kA => exact rfl); (case kF => exact rfl); (case kK => assumption); (case k1 => k_asm); (case k2 => k_asm); (case k3 => k_asm); (case k4 => k_asm); (case k5 => k_asm); (case k6 => k_is); (case k7 => k_is); (case k8 => (try dsimp only [ktrTop]); omega); (case k9 => first | exact BindsTo.of_eq rfl | exact binds_K (by k_in) rfl (by k_is) rfl rfl rfl); (case c5 => decide); (case kB => exact locs rfl); (case c2 => exact rfl); (case c3 => exact rfl); (case c4 => exact rfl); k_whole; intro g' L' h' FG' F' N' B' X' T'; (try dsimp only); (try k_lift B'); (try k_fold))
  k_steps
  all_goals first | (refine hret _ _ _ _ ?k1 ?k2 (raisedS_N ?k3); (case k3 => assumption); (case k1 => assumption); (case k2 => assumption)) | exact hret _ _ _ _ (by assumption) (by assumption) (raisedS_N (by assumption)) | exact hret _ _ _ _ (by assumption) (by assumption) (by assumption)
theorem e_copt (w : World) (y m d : Int) (t u v : Tok) (hy : 1 ≤ y) (hy2 : y ≤ 1000002000) (h1 : 1 ≤ m) (h2 : m ≤ 12) (h3 : -100 < d) (h4 : d < 100) (hb : d < 1 ∨ dim y m < d) : SpecE w 6 108 [.int y t, .int m u, .int d v] "ValueError" := by
  unfold SpecE
  k_fill
  intro dp un gd cn cs a ccd cl outer A₀ base h₀ L m₀ mean mg mb news s Q E B F X N T hk hd hu hret
  refine wpAny_call ?_
  k_dflt (refine' code_def ?k1 ?k2 ?k3 ?k4 ?k5 ?kA ?kF ?kK ?k6 ?k7 ?k8 ?k9 ?kB ?_ ?c2 ?c3 ?c4 ?c5; (case kA => exact rfl); (case kF => exact rfl); (case kK => assumption); (case k1 => k_asm); (case k2 => k_asm); (case k3 => k_asm); (case k4 => k_asm); (case k5 => k_asm); (case k6 => k_is); (case k7 => k_is); (case k8 => (try dsimp only [ktrTop]); omega); (case k9 => first | exact BindsTo.of_eq rfl | exact binds_K (by k_in) rfl (by k_is) rfl rfl rfl); (case c5 => decide); (case kB => exact locs rfl); (case c2 => exact rfl); (case c3 => exact rfl); (case c4 => exact rfl); k_whole; intro g' L' h' FG' F' N' B' X' T'; (try dsimp only); (try k_lift B'); (try k_fold))
  k_steps
  all_goals first | (refine hret _ _ _ _ ?k1 ?k2 (raisedS_N ?k3); (case k3 => assumption); (case k1 => assumption); (case k2 => assumption)) | exact hret _ _ _ _ (by assumption) (by assumption) (raisedS_N (by assumption)) | exact hret _ _ _ _ (by assumption) (by assumption) (by assumption)

local macro_rules | `(tactic| walk_at "call ref") => `(tactic| (k_here; (show wpAny _ _ (call (Value.ref 87) _) _ _ _); refine' g_loose _ _ _ _ _ _ _ ?hy ?hy2 ?h1 ?h2 ?hb ?hc ?hn ?hn2 _ _ _ _ _ _ _ _ _ _ _ _ _ _ _ _ _ _ _ _ _ ?B ?F ?X ?N ?T ?hk ?hd ?hu (ret_T3 ?_); (case B => k_asm); (case F => k_asm); (case X => k_asm); (case N => k_asm); (case T => k_asm); (case hk => first | with_unfolding_all rfl | assumption); (case hd => (try simp only [depth_deeper]); (try dsimp only [ktrTop]); first | (with_unfolding_all decide) | omega); (case hu => (try simp only [units_deeper]); (try dsimp only [ktrTop]); first | (with_unfolding_all decide) | omega); (case hy => first | assumption | omega); (case hy2 => first | assumption | omega); (case h1 => first | assumption | omega); (case h2 => first | assumption | omega); (case hb => first | assumption | omega); (case hc => first | assumption | omega); (case hn => first | assumption | omega); (case hn2 => first | assumption | omega); intro D' t1' t2' t3' n' h' tk' F' N' l1; (try k_lt l1); (try dsimp only); (try k_sweep)))
local macro_rules | `(tactic| walk_at "call ref") => `(tactic| (k_here; (show wpAny _ _ (call (Value.ref 87) _) _ _ _); refine' g_sark _ _ _ _ _ _ _ ?hy ?hy2 ?h1 ?h2 ?hb ?hc ?hn ?hn2 _ _ _ _ _ _ _ _ _ _ _ _ _ _ _ _ _ _ _ _ _ _ ?B ?F ?X ?N ?T ?hk ?hd ?hu (ret_T3 ?_); (case B => k_asm); (case F => k_asm); (case X => k_asm); (case N => k_asm); (case T => k_asm); (case hk => first | with_unfolding_all rfl | assumption); (case hd => (try simp only [depth_deeper]); (try dsimp only [ktrTop]); first | (with_unfolding_all decide) | omega); (case hu => (try simp only [units_deeper]); (try dsimp only [ktrTop]); first | (with_unfolding_all decide) | omega); (case hy => first | assumption | omega); (case hy2 => first | assumption | omega); (case h1 => first | assumption | omega); (case h2 => first | assumption | omega); (case hb => first | assumption | omega); (case hc => first | assumption | omega); (case hn => first | assumption | omega); (case hn2 => first | assumption | omega); intro D' t1' t2' t3' n' h' tk' F' N' l1; (try k_lt l1); (try dsimp only); (try k_sweep)))
local macro_rules | `(tactic| walk_at "call ref") => `(tactic| (k_here; (show wpAny _ _ (call (Value.ref 108) _) _ _ _); refine' g_copt _ _ _ _ _ _ _ ?hy ?hy2 ?h1 ?h2 ?hb ?hc ?hn ?hn2 _ _ _ _ _ _ _ _ _ _ _ _ _ _ _ _ _ _ _ _ _ ?B ?F ?X ?N ?T ?hk ?hd ?hu (ret_T3 ?_); (case B => k_asm); (case F => k_asm); (case X => k_asm); (case N => k_asm); (case T => k_asm); (case hk => first | with_unfolding_all rfl | assumption); (case hd => (try simp only [depth_deeper]); (try dsimp only [ktrTop]); first | (with_unfolding_all decide) | omega); (case hu => (try simp only [units_deeper]); (try dsimp only [ktrTop]); first | (with_unfolding_all decide) | omega); (case hy => first | assumption | omega); (case hy2 => first | assumption | omega); (case h1 => first | assumption | omega); (case h2 => first | assumption | omega); (case hb => first | assumption | omega); (case hc => first | assumption | omega); (case hn => first | assumption | omega); (case hn2 => first | assumption | omega); intro D' t1' t2' t3' n' h' tk' F' N' l1; (try k_lt l1); (try dsimp only); (try k_sweep)))
local macro_rules | `(tactic| walk_at "call ref") => `(tactic| (k_here; (show wpAny _ _ (call (Value.ref 87) _) _ _ _); refine' e_arm _ _ _ _ _ _ _ ?hy ?hy2 ?h1 ?h2 ?h3 ?h4 ?hb _ _ _ _ _ _ _ _ _ _ _ _ _ _ _ _ _ _ _ _ _ ?B ?F ?X ?N ?T ?hk ?hd ?hu ?_; (case B => k_asm); (case F => k_asm); (case X => k_asm); (case N => k_asm); (case T => k_asm); (case hk => first | with_unfolding_all rfl | assumption); (case hd => (try simp only [depth_deeper]); (try dsimp only [ktrTop]); first | (with_unfolding_all decide) | omega); (case hu => (try simp only [units_deeper]); (try dsimp only [ktrTop]); first | (with_unfolding_all decide) | omega); (case hy => first | assumption | omega); (case hy2 => first | assumption | omega); (case h1 => first | assumption | omega); (case h2 => first | assumption | omega); (case h3 => first | assumption | omega); (case h4 => first | assumption | omega); (case hb => first | assumption | omega); intro e' g' h' tk' FG' U' S'; (try dsimp only)))
local macro_rules | `(tactic| walk_at "call ref") => `(tactic| (k_here; (show wpAny _ _ (call (Value.ref 87) _) _ _ _); refine' e_sark _ _ _ _ _ _ _ ?hy ?hy2 ?h1 ?h2 ?h3 ?h4 ?hb _ _ _ _ _ _ _ _ _ _ _ _ _ _ _ _ _ _ _ _ _ _ _ ?B ?F ?X ?N ?T ?hk ?hd ?hu ?_; (case B => k_asm); (case F => k_asm); (case X => k_asm); (case N => k_asm); (case T => k_asm); (case hk => first | with_unfolding_all rfl | assumption); (case hd => (try simp only [depth_deeper]); (try dsimp only [ktrTop]); first | (with_unfolding_all decide) | omega); (case hu => (try simp only [units_deeper]); (try dsimp only [ktrTop]); first | (with_unfolding_all decide) | omega); (case hy => first | assumption | omega); (case hy2 => first | assumption | omega); (case h1 => first | assumption | omega); (case h2 => first | assumption | omega); (case h3 => first | assumption | omega); (case h4 => first | assumption | omega); (case hb => first | assumption | omega); intro e' g' h' tk' FG' U' S'; (try dsimp only)))
local macro_rules | `(tactic| walk_at "call ref") => `(tactic| (k_here; (show wpAny _ _ (call (Value.ref 108) _) _ _ _); refine' e_copt _ _ _ _ _ _ _ ?hy ?hy2 ?h1 ?h2 ?h3 ?h4 ?hb _ _ _ _ _ _ _ _ _ _ _ _ _ _ _ _ _ _ _ _ _ ?B ?F ?X ?N ?T ?hk ?hd ?hu ?_; (case B => k_asm); (case F => k_asm); (case X => k_asm); (case N => k_asm); (case T => k_asm); (case hk => first | with_unfolding_all rfl | assumption); (case hd => (try simp only [depth_deeper]); (try dsimp only [ktrTop]); first | (with_unfolding_all decide) | omega); (case hu => (try simp only [units_deeper]); (try dsimp only [ktrTop]); first | (with_unfolding_all decide) | omega); (case hy => first | assumption | omega); (case hy2 => first | assumption | omega); (case h1 => first | assumption | omega); (case h2 => first | assumption | omega); (case h3 => first | assumption | omega); (case h4 => first | assumption | omega); (case hb => first | assumption | omega); intro e' g' h' tk' FG' U' S'; (try dsimp only)))
theorem g_fre (w : World) (y m d : Int) (t u v : Tok) (hy : 1 ≤ y) (hy2 : y ≤ 1000002000) (h1 : 1 ≤ m) (h2 : m ≤ 12) (hb : 1 ≤ d) (hc : d ≤ dim y m) (hn : 2375839 ≤ jdn y m d) (hn2 : jdn y m d ≤ 400000000000) (q : Tok) : Spec w 6 131 [.int y t, .int m u, .int d v, .str (PySem.Str.ofString "continuous") q] (fun tl v => ∃ D t1 t2 t3 n', tl = [(D, tupOf [.int (freY (-1) (jdn y m d - 2375839 + 365)) t1, .int (freM (jdn y m d - 2375839 + 365)) t2, .int (freD (jdn y m d - 2375839 + 365)) t3] n')] ∧ v = .ref D) := by
  unfold Spec
  k_fill
  intro dp un gd cn cs a ccd cl outer A₀ base h₀ L m₀ mean mg mb news s Q E B F X N T hk hd hu hret
  refine wpAny_call ?_
  k_dflt (refine' code_def ?k1 ?k2 ?k3 ?k4 ?k5 ?kA ?kF ?kK ?k6 ?k7 ?k8 ?k9 ?kB ?_ ?c2 ?c3 ?c4 ?c5; (case kA => exact rfl); (case kF => exact rfl); (case kK => assumption); (case k1 => k_asm); (case k2 => k_asm); (case k3 => k_asm); (case k4 => k_asm); (case k5 => k_asm); (case k6 => k_is); (case k7 => k_is); (case k8 => (try dsimp only [ktrTop]); omega); (case k9 => first | exact BindsTo.of_eq rfl | exact binds_K (by k_in) rfl (by k_is) rfl rfl rfl); (case c5 => decide); (case kB => exact locs rfl); (case c2 => exact rfl); (case c3 => exact rfl); (case c4 => exact rfl); k_whole; intro g' L' h' FG' F' N' B' X' T'; (try dsimp only); (try k_lift B'); (try k_fold))
  k_steps
  all_goals (refine' end_T3 hret ?ea ?eb ?ec ?F ?N ?hm ?hs ?hl; (case F => k_asm); (case N => k_asm); (case hm => k_mem); (case hs => first | exact fun _ h => h | exact fun _ h => List.mem_cons_of_mem _ h | exact fun _ h => List.mem_cons_of_mem _ (List.mem_cons_of_mem _ h) | exact fun _ h => List.mem_cons_of_mem _ (List.mem_cons_of_mem _ (List.mem_cons_of_mem _ h)) | exact fun _ h => List.mem_cons_of_mem _ (List.mem_cons_of_mem _ (List.mem_cons_of_mem _ (List.mem_cons_of_mem _ h))) | exact fun _ h => List.mem_cons_of_mem _ (List.mem_cons_of_mem _ (List.mem_cons_of_mem _ (List.mem_cons_of_mem _ (List.mem_cons_of_mem _ h)))) | exact fun _ h => List.mem_cons_of_mem _ (List.mem_cons_of_mem _ (List.mem_cons_of_mem _ (List.mem_cons_of_mem _ (List.mem_cons_of_mem _ (List.mem_cons_of_mem _ h))))) | exact fun _ h => List.mem_cons_of_mem _ (List.mem_cons_of_mem _ (List.mem_cons_of_mem _ (List.mem_cons_of_mem _ (List.mem_cons_of_mem _ (List.mem_cons_of_mem _ (List.mem_cons_of_mem _ h)))))) | exact fun _ h => List.mem_cons_of_mem _ (List.mem_cons_of_mem _ (List.mem_cons_of_mem _ (List.mem_cons_of_mem _ (List.mem_cons_of_mem _ (List.mem_cons_of_mem _ (List.mem_cons_of_mem _ (List.mem_cons_of_mem _ h))))))) | exact fun _ h => List.mem_cons_of_mem _ (List.mem_cons_of_mem _ (List.mem_cons_of_mem _ (List.mem_cons_of_mem _ (List.mem_cons_of_mem _ (List.mem_cons_of_mem _ (List.mem_cons_of_mem _ (List.mem_cons_of_mem _ (List.mem_cons_of_mem _ h)))))))) | kcj_all); (case hl => first | assumption | exact ktn_ltOf (by assumption) | exact ktn_ltOf (And.right (by assumption)) | exact ktn_ltOf (And.right (And.right (by assumption))) | exact ktn_ltOf (And.right (And.right (And.right (by assumption)))) | exact ktn_ltOf (And.right (And.right (And.right (And.right (by assumption))))) | exact ktn_ltOf (And.right (And.right (And.right (And.right (And.right (by assumption)))))) | exact ktn_ltOf (And.right (And.right (And.right (And.right (And.right (And.right (by assumption)))))))); (case ea => rfl); (case eb => rfl); (case ec => rfl))
theorem g_rom (w : World) (y m d : Int) (t u v : Tok) (hy : 1 ≤ y) (hy2 : y ≤ 1000002000) (h1 : 1 ≤ m) (h2 : m ≤ 12) (hb : 1 ≤ d) (hc : d ≤ dim y m) (hn : 2375839 ≤ jdn y m d) (hn2 : jdn y m d ≤ 400000000000) (q : Tok) : Spec w 6 131 [.int y t, .int m u, .int d v, .str (PySem.Str.ofString "romme") q] (fun tl v => ∃ D t1 t2 t3 n', tl = [(D, tupOf [.int (freY (romB' (jdn y m d)) (romJ' (jdn y m d))) t1, .int (freM (romJ' (jdn y m d))) t2, .int (freD (romJ' (jdn y m d))) t3] n')] ∧ v = .ref D) := by
  unfold Spec
  k_fill
  intro dp un gd cn cs a ccd cl outer A₀ base h₀ L m₀ mean mg mb news s Q E B F X N T hk hd hu hret
  refine wpAny_call ?_
  k_dflt (refine' code_def ?k1 ?k2 ?k3 ?k4 ?k5 ?kA ?kF ?kK ?k6 ?k7 ?k8 ?k9 ?kB ?_ ?c2 ?c3 ?c4 ?c5; (case kA => exact rfl); (case kF => exact rfl); (case kK => assumption); (case k1 => k_asm); (case k2 => k_asm); (case k3 => k_asm); (case k4 => k_asm); (case k5 => k_asm); (case k6 => k_is); (case k7 => k_is); (case k8 => (try dsimp only [ktrTop]); omega); (case k9 => first | exact BindsTo.of_eq rfl | exact binds_K (by k_in) rfl (by k_is) rfl rfl rfl); (case c5 => decide); (case kB => exact locs rfl); (case c2 => exact rfl); (case c3 => exact rfl); (case c4 => exact rfl); k_whole; intro g' L' h' FG' F' N' B' X' T'; (try dsimp only); (try k_lift B'); (try k_fold))
  k_steps
  all_goals (refine' end_T3 hret ?ea ?eb ?ec ?F ?N ?hm ?hs ?hl; (case F => k_asm); (case N => k_asm); (case hm => k_mem); (case hs => first | exact fun _ h => h | exact fun _ h => List.mem_cons_of_mem _ h | exact fun _ h => List.mem_cons_of_mem _ (List.mem_cons_of_mem _ h) | exact fun _ h => List.mem_cons_of_mem _ (List.mem_cons_of_mem _ (List.mem_cons_of_mem _ h)) | exact fun _ h => List.mem_cons_of_mem _ (List.mem_cons_of_mem _ (List.mem_cons_of_mem _ (List.mem_cons_of_mem _ h))) | exact fun _ h => List.mem_cons_of_mem _ (List.mem_cons_of_mem _ (List.mem_cons_of_mem _ (List.mem_cons_of_mem _ (List.mem_cons_of_mem _ h)))) | exact fun _ h => List.mem_cons_of_mem _ (List.mem_cons_of_mem _ (List.mem_cons_of_mem _ (List.mem_cons_of_mem _ (List.mem_cons_of_mem _ (List.mem_cons_of_mem _ h))))) | exact fun _ h => List.mem_cons_of_mem _ (List.mem_cons_of_mem _ (List.mem_cons_of_mem _ (List.mem_cons_of_mem _ (List.mem_cons_of_mem _ (List.mem_cons_of_mem _ (List.mem_cons_of_mem _ h)))))) | exact fun _ h => List.mem_cons_of_mem _ (List.mem_cons_of_mem _ (List.mem_cons_of_mem _ (List.mem_cons_of_mem _ (List.mem_cons_of_mem _ (List.mem_cons_of_mem _ (List.mem_cons_of_mem _ (List.mem_cons_of_mem _ h))))))) | exact fun _ h => List.mem_cons_of_mem _ (List.mem_cons_of_mem _ (List.mem_cons_of_mem _ (List.mem_cons_of_mem _ (List.mem_cons_of_mem _ (List.mem_cons_of_mem _ (List.mem_cons_of_mem _ (List.mem_cons_of_mem _ (List.mem_cons_of_mem _ h)))))))) | kcj_all); (case hl => first | assumption | exact ktn_ltOf (by assumption) | exact ktn_ltOf (And.right (by assumption)) | exact ktn_ltOf (And.right (And.right (by assumption))) | exact ktn_ltOf (And.right (And.right (And.right (by assumption)))) | exact ktn_ltOf (And.right (And.right (And.right (And.right (by assumption))))) | exact ktn_ltOf (And.right (And.right (And.right (And.right (And.right (by assumption)))))) | exact ktn_ltOf (And.right (And.right (And.right (And.right (And.right (And.right (by assumption)))))))); (case ea => rfl); (case eb => rfl); (case ec => rfl))
theorem g_mad (w : World) (y m d : Int) (t u v : Tok) (hy : 1 ≤ y) (hy2 : y ≤ 1000002000) (h1 : 1 ≤ m) (h2 : m ≤ 12) (hb : 1 ≤ d) (hc : d ≤ dim y m) (hn : 2375839 ≤ jdn y m d) (hn2 : jdn y m d ≤ 400000000000) (q : Tok) : Spec w 6 131 [.int y t, .int m u, .int d v, .str (PySem.Str.ofString "madler") q] (fun tl v => ∃ D t1 t2 t3 n', tl = [(D, tupOf [.int (freY (madB' (jdn y m d)) (madJ' (jdn y m d))) t1, .int (freM (madJ' (jdn y m d))) t2, .int (freD (madJ' (jdn y m d))) t3] n')] ∧ v = .ref D) := by
  unfold Spec
  k_fill
  intro dp un gd cn cs a ccd cl outer A₀ base h₀ L m₀ mean mg mb news s Q E B F X N T hk hd hu hret
  refine wpAny_call ?_
  k_dflt (refine' code_def ?k1 ?k2 ?k3 ?k4 ?k5 ?kA ?kF ?kK ?k6 ?k7 ?k8 ?k9 ?kB ?_ ?c2 ?c3 ?c4 ?c5; (case kA => exact rfl); (case kF => exact rfl); (case kK => assumption); (case k1 => k_asm); (case k2 => k_asm); (case k3 => k_asm); (case k4 => k_asm); (case k5 => k_asm); (case k6 => k_is); (case k7 => k_is); (case k8 => (try dsimp only [ktrTop]); omega); (case k9 => first | exact BindsTo.of_eq rfl | exact binds_K (by k_in) rfl (by k_is) rfl rfl rfl); (case c5 => decide); (case kB => exact locs rfl); (case c2 => exact rfl); (case c3 => exact rfl); (case c4 => exact rfl); k_whole; intro g' L' h' FG' F' N' B' X' T'; (try dsimp only); (try k_lift B'); (try k_fold))
  k_steps
  all_goals (refine' end_T3 hret ?ea ?eb ?ec ?F ?N ?hm ?hs ?hl; (case F => k_asm); (case N => k_asm); (case hm => k_mem); (case hs => first | exact fun _ h => h | exact fun _ h => List.mem_cons_of_mem _ h | exact fun _ h => List.mem_cons_of_mem _ (List.mem_cons_of_mem _ h) | exact fun _ h => List.mem_cons_of_mem _ (List.mem_cons_of_mem _ (List.mem_cons_of_mem _ h)) | exact fun _ h => List.mem_cons_of_mem _ (List.mem_cons_of_mem _ (List.mem_cons_of_mem _ (List.mem_cons_of_mem _ h))) | exact fun _ h => List.mem_cons_of_mem _ (List.mem_cons_of_mem _ (List.mem_cons_of_mem _ (List.mem_cons_of_mem _ (List.mem_cons_of_mem _ h)))) | exact fun _ h => List.mem_cons_of_mem _ (List.mem_cons_of_mem _ (List.mem_cons_of_mem _ (List.mem_cons_of_mem _ (List.mem_cons_of_mem _ (List.mem_cons_of_mem _ h))))) | exact fun _ h => List.mem_cons_of_mem _ (List.mem_cons_of_mem _ (List.mem_cons_of_mem _ (List.mem_cons_of_mem _ (List.mem_cons_of_mem _ (List.mem_cons_of_mem _ (List.mem_cons_of_mem _ h)))))) | exact fun _ h => List.mem_cons_of_mem _ (List.mem_cons_of_mem _ (List.mem_cons_of_mem _ (List.mem_cons_of_mem _ (List.mem_cons_of_mem _ (List.mem_cons_of_mem _ (List.mem_cons_of_mem _ (List.mem_cons_of_mem _ h))))))) | exact fun _ h => List.mem_cons_of_mem _ (List.mem_cons_of_mem _ (List.mem_cons_of_mem _ (List.mem_cons_of_mem _ (List.mem_cons_of_mem _ (List.mem_cons_of_mem _ (List.mem_cons_of_mem _ (List.mem_cons_of_mem _ (List.mem_cons_of_mem _ h)))))))) | kcj_all); (case hl => first | assumption | exact ktn_ltOf (by assumption) | exact ktn_ltOf (And.right (by assumption)) | exact ktn_ltOf (And.right (And.right (by assumption))) | exact ktn_ltOf (And.right (And.right (And.right (by assumption)))) | exact ktn_ltOf (And.right (And.right (And.right (And.right (by assumption))))) | exact ktn_ltOf (And.right (And.right (And.right (And.right (And.right (by assumption)))))) | exact ktn_ltOf (And.right (And.right (And.right (And.right (And.right (And.right (by assumption)))))))); (case ea => rfl); (case eb => rfl); (case ec => rfl))
theorem e_fre (w : World) (y m d : Int) (t u v : Tok) (hy : 1 ≤ y) (hy2 : y ≤ 1000002000) (h1 : 1 ≤ m) (h2 : m ≤ 12) (h3 : -100 < d) (h4 : d < 100) (hb : d < 1 ∨ dim y m < d) (x : Str) (q : Tok) : SpecE w 6 131 [.int y t, .int m u, .int d v, .str x q] "ValueError" := by
  unfold SpecE
  k_fill
  intro dp un gd cn cs a ccd cl outer A₀ base h₀ L m₀ mean mg mb news s Q E B F X N T hk hd hu hret
  refine wpAny_call ?_
  k_dflt (refine' code_def ?k1 ?k2 ?k3 ?k4 ?k5 ?kA ?kF ?kK ?k6 ?k7 ?k8 ?k9 ?kB ?_ ?c2 ?c3 ?c4 ?c5; (case kA => exact rfl); (case kF => exact rfl); (case kK => assumption); (case k1 => k_asm); (case k2 => k_asm); (case k3 => k_asm); (case k4 => k_asm); (case k5 => k_asm); (case k6 => k_is); (case k7 => k_is); (case k8 => (try dsimp only [ktrTop]); omega); (case k9 => first | exact BindsTo.of_eq rfl | exact binds_K (by k_in) rfl (by k_is) rfl rfl rfl); (case c5 => decide); (case kB => exact locs rfl); (case c2 => exact rfl); (case c3 => exact rfl); (case c4 => exact rfl); k_whole; intro g' L' h' FG' F' N' B' X' T'; (try dsimp only); (try k_lift B'); (try k_fold))
  k_steps
  all_goals first | (refine hret _ _ _ _ ?k1 ?k2 (raisedS_N ?k3); (case k3 => assumption); (case k1 => assumption); (case k2 => assumption)) | exact hret _ _ _ _ (by assumption) (by assumption) (raisedS_N (by assumption)) | exact hret _ _ _ _ (by assumption) (by assumption) (by assumption)

local macro_rules | `(tactic| walk_at "call ref") => `(tactic| (k_here; (show wpAny _ _ (call (Value.ref 131) _) _ _ _); refine' g_fre _ _ _ _ _ _ _ ?hy ?hy2 ?h1 ?h2 ?hb ?hc ?hn ?hn2 _ _ _ _ _ _ _ _ _ _ _ _ _ _ _ _ _ _ _ _ _ _ ?B ?F ?X ?N ?T ?hk ?hd ?hu (ret_T3 ?_); (case B => k_asm); (case F => k_asm); (case X => k_asm); (case N => k_asm); (case T => k_asm); (case hk => first | with_unfolding_all rfl | assumption); (case hd => (try simp only [depth_deeper]); (try dsimp only [ktrTop]); first | (with_unfolding_all decide) | omega); (case hu => (try simp only [units_deeper]); (try dsimp only [ktrTop]); first | (with_unfolding_all decide) | omega); (case hy => first | assumption | omega); (case hy2 => first | assumption | omega); (case h1 => first | assumption | omega); (case h2 => first | assumption | omega); (case hb => first | assumption | omega); (case hc => first | assumption | omega); (case hn => first | assumption | omega); (case hn2 => first | assumption | omega); intro D' t1' t2' t3' n' h' tk' F' N' l1; (try k_lt l1); (try dsimp only); (try k_sweep)))
local macro_rules | `(tactic| walk_at "call ref") => `(tactic| (k_here; (show wpAny _ _ (call (Value.ref 131) _) _ _ _); refine' g_rom _ _ _ _ _ _ _ ?hy ?hy2 ?h1 ?h2 ?hb ?hc ?hn ?hn2 _ _ _ _ _ _ _ _ _ _ _ _ _ _ _ _ _ _ _ _ _ _ ?B ?F ?X ?N ?T ?hk ?hd ?hu (ret_T3 ?_); (case B => k_asm); (case F => k_asm); (case X => k_asm); (case N => k_asm); (case T => k_asm); (case hk => first | with_unfolding_all rfl | assumption); (case hd => (try simp only [depth_deeper]); (try dsimp only [ktrTop]); first | (with_unfolding_all decide) | omega); (case hu => (try simp only [units_deeper]); (try dsimp only [ktrTop]); first | (with_unfolding_all decide) | omega); (case hy => first | assumption | omega); (case hy2 => first | assumption | omega); (case h1 => first | assumption | omega); (case h2 => first | assumption | omega); (case hb => first | assumption | omega); (case hc => first | assumption | omega); (case hn => first | assumption | omega); (case hn2 => first | assumption | omega); intro D' t1' t2' t3' n' h' tk' F' N' l1; (try k_lt l1); (try dsimp only); (try k_sweep)))
local macro_rules | `(tactic| walk_at "call ref") => `(tactic| (k_here; (show wpAny _ _ (call (Value.ref 131) _) _ _ _); refine' g_mad _ _ _ _ _ _ _ ?hy ?hy2 ?h1 ?h2 ?hb ?hc ?hn ?hn2 _ _ _ _ _ _ _ _ _ _ _ _ _ _ _ _ _ _ _ _ _ _ ?B ?F ?X ?N ?T ?hk ?hd ?hu (ret_T3 ?_); (case B => k_asm); (case F => k_asm); (case X => k_asm); (case N => k_asm); (case T => k_asm); (case hk => first | with_unfolding_all rfl | assumption); (case hd => (try simp only [depth_deeper]); (try dsimp only [ktrTop]); first | (with_unfolding_all decide) | omega); (case hu => (try simp only [units_deeper]); (try dsimp only [ktrTop]); first | (with_unfolding_all decide) | omega); (case hy => first | assumption | omega); (case hy2 => first | assumption | omega); (case h1 => first | assumption | omega); (case h2 => first | assumption | omega); (case hb => first | assumption | omega); (case hc => first | assumption | omega); (case hn => first | assumption | omega); (case hn2 => first | assumption | omega); intro D' t1' t2' t3' n' h' tk' F' N' l1; (try k_lt l1); (try dsimp only); (try k_sweep)))
local macro_rules | `(tactic| walk_at "call ref") => `(tactic| (k_here; (show wpAny _ _ (call (Value.ref 131) _) _ _ _); refine' e_fre _ _ _ _ _ _ _ ?hy ?hy2 ?h1 ?h2 ?h3 ?h4 ?hb _ _ _ _ _ _ _ _ _ _ _ _ _ _ _ _ _ _ _ _ _ _ _ ?B ?F ?X ?N ?T ?hk ?hd ?hu ?_; (case B => k_asm); (case F => k_asm); (case X => k_asm); (case N => k_asm); (case T => k_asm); (case hk => first | with_unfolding_all rfl | assumption); (case hd => (try simp only [depth_deeper]); (try dsimp only [ktrTop]); first | (with_unfolding_all decide) | omega); (case hu => (try simp only [units_deeper]); (try dsimp only [ktrTop]); first | (with_unfolding_all decide) | omega); (case hy => first | assumption | omega); (case hy2 => first | assumption | omega); (case h1 => first | assumption | omega); (case h2 => first | assumption | omega); (case h3 => first | assumption | omega); (case h4 => first | assumption | omega); (case hb => first | assumption | omega); intro e' g' h' tk' FG' U' S'; (try dsimp only)))
theorem g_may (w : World) (y m d : Int) (t u v : Tok) (hy : 1 ≤ y) (hy2 : y ≤ 1000002000) (h1 : 1 ≤ m) (h2 : m ≤ 12) (hb : 1 ≤ d) (hc : d ≤ dim y m) (hn : 2375839 ≤ jdn y m d) (hn2 : jdn y m d ≤ 400000000000) : Spec w 6 224 [.int y t, .int m u, .int d v] (fun tl v => ∃ D t1 t2 t3 t4 t5 n', tl = [(D, tupOf [.int ((jdn y m d - 584282) / 144000) t1, .int ((jdn y m d - 584282) % 144000 / 7200) t2, .int ((jdn y m d - 584282) % 7200 / 360) t3, .int ((jdn y m d - 584282) % 360 / 20) t4, .int ((jdn y m d - 584282) % 20) t5] n')] ∧ v = .ref D) := by
  unfold Spec
  k_fill
  intro dp un gd cn cs a ccd cl outer A₀ base h₀ L m₀ mean mg mb news s Q E B F X N T hk hd hu hret
  refine wpAny_call ?_
  k_dflt (refine' code_def ?k1 ?k2 ?k3 ?k4 ?k5 ?kA ?kF ?kK ?k6 ?k7 ?k8 ?k9 ?kB ?_ ?c2 ?c3 ?c4 ?c5; (case kA => exact rfl); (case kF => exact rfl); (case kK => assumption); (case k1 => k_asm); (case k2 => k_asm); (case k3 => k_asm); (case k4 => k_asm); (case k5 => k_asm); (case k6 => k_is); (case k7 => k_is); (case k8 => (try dsimp only [ktrTop]); omega); (case k9 => first | exact BindsTo.of_eq rfl | exact binds_K (by k_in) rfl (by k_is) rfl rfl rfl); (case c5 => decide); (case kB => exact locs rfl); (case c2 => exact rfl); (case c3 => exact rfl); (case c4 => exact rfl); k_whole; intro g' L' h' FG' F' N' B' X' T'; (try dsimp only); (try k_lift B'); (try k_fold))
  k_steps
  all_goals (refine' end_T5 hret ?ea ?eb ?ec ?ed ?ee ?F ?N ?hm ?hs ?hl; (case F => k_asm); (case N => k_asm); (case hm => k_mem); (case hs => first | exact fun _ h => h | exact fun _ h => List.mem_cons_of_mem _ h | exact fun _ h => List.mem_cons_of_mem _ (List.mem_cons_of_mem _ h) | exact fun _ h => List.mem_cons_of_mem _ (List.mem_cons_of_mem _ (List.mem_cons_of_mem _ h)) | exact fun _ h => List.mem_cons_of_mem _ (List.mem_cons_of_mem _ (List.mem_cons_of_mem _ (List.mem_cons_of_mem _ h))) | exact fun _ h => List.mem_cons_of_mem _ (List.mem_cons_of_mem _ (List.mem_cons_of_mem _ (List.mem_cons_of_mem _ (List.mem_cons_of_mem _ h)))) | exact fun _ h => List.mem_cons_of_mem _ (List.mem_cons_of_mem _ (List.mem_cons_of_mem _ (List.mem_cons_of_mem _ (List.mem_cons_of_mem _ (List.mem_cons_of_mem _ h))))) | exact fun _ h => List.mem_cons_of_mem _ (List.mem_cons_of_mem _ (List.mem_cons_of_mem _ (List.mem_cons_of_mem _ (List.mem_cons_of_mem _ (List.mem_cons_of_mem _ (List.mem_cons_of_mem _ h)))))) | exact fun _ h => List.mem_cons_of_mem _ (List.mem_cons_of_mem _ (List.mem_cons_of_mem _ (List.mem_cons_of_mem _ (List.mem_cons_of_mem _ (List.mem_cons_of_mem _ (List.mem_cons_of_mem _ (List.mem_cons_of_mem _ h))))))) | exact fun _ h => List.mem_cons_of_mem _ (List.mem_cons_of_mem _ (List.mem_cons_of_mem _ (List.mem_cons_of_mem _ (List.mem_cons_of_mem _ (List.mem_cons_of_mem _ (List.mem_cons_of_mem _ (List.mem_cons_of_mem _ (List.mem_cons_of_mem _ h)))))))) | kcj_all); (case hl => first | assumption | exact ktn_ltOf (by assumption) | exact ktn_ltOf (And.right (by assumption)) | exact ktn_ltOf (And.right (And.right (by assumption))) | exact ktn_ltOf (And.right (And.right (And.right (by assumption)))) | exact ktn_ltOf (And.right (And.right (And.right (And.right (by assumption))))) | exact ktn_ltOf (And.right (And.right (And.right (And.right (And.right (by assumption)))))) | exact ktn_ltOf (And.right (And.right (And.right (And.right (And.right (And.right (by assumption)))))))); (case ea => rfl); (case eb => rfl); (case ec => rfl); (case ed => rfl); (case ee => rfl))
theorem e_may (w : World) (y m d : Int) (t u v : Tok) (hy : 1 ≤ y) (hy2 : y ≤ 1000002000) (h1 : 1 ≤ m) (h2 : m ≤ 12) (h3 : -100 < d) (h4 : d < 100) (hb : d < 1 ∨ dim y m < d) : SpecE w 6 224 [.int y t, .int m u, .int d v] "ValueError" := by
  unfold SpecE
  k_fill
  intro dp un gd cn cs a ccd cl outer A₀ base h₀ L m₀ mean mg mb news s Q E B F X N T hk hd hu hret
  refine wpAny_call ?_
  k_dflt (refine' code_def ?k1 ?k2 ?k3 ?k4 ?k5 ?kA ?kF ?kK ?k6 ?k7 ?k8 ?k9 ?kB ?_ ?c2 ?c3 ?c4 ?c5; (case kA => exact rfl); (case kF => exact rfl); (case kK => assumption); (case k1 => k_asm); (case k2 => k_asm); (case k3 => k_asm); (case k4 => k_asm); (case k5 => k_asm); (case k6 => k_is); (case k7 => k_is); (case k8 => (try dsimp only [ktrTop]); omega); (case k9 => first | exact BindsTo.of_eq rfl | exact binds_K (by k_in) rfl (by k_is) rfl rfl rfl); (case c5 => decide); (case kB => exact locs rfl); (case c2 => exact rfl); (case c3 => exact rfl); (case c4 => exact rfl); k_whole; intro g' L' h' FG' F' N' B' X' T'; (try dsimp only); (try k_lift B'); (try k_fold))
  k_steps
  all_goals first | (refine hret _ _ _ _ ?k1 ?k2 (raisedS_N ?k3); (case k3 => assumption); (case k1 => assumption); (case k2 => assumption)) | exact hret _ _ _ _ (by assumption) (by assumption) (raisedS_N (by assumption)) | exact hret _ _ _ _ (by assumption) (by assumption) (by assumption)
theorem e_heb (w : World) (y m d : Int) (t u v : Tok) (hy : 1 ≤ y) (hy2 : y ≤ 1000002000) (h1 : 1 ≤ m) (h2 : m ≤ 12) (h3 : -100 < d) (h4 : d < 100) (hb : d < 1 ∨ dim y m < d) : SpecE w 6 201 [.int y t, .int m u, .int d v] "ValueError" := by
  unfold SpecE
  k_fill
  intro dp un gd cn cs a ccd cl outer A₀ base h₀ L m₀ mean mg mb news s Q E B F X N T hk hd hu hret
  refine wpAny_call ?_
  k_dflt (refine' code_def ?k1 ?k2 ?k3 ?k4 ?k5 ?kA ?kF ?kK ?k6 ?k7 ?k8 ?k9 ?kB ?_ ?c2 ?c3 ?c4 ?c5; (case kA => exact rfl); (case kF => exact rfl); (case kK => assumption); (case k1 => k_asm); (case k2 => k_asm); (case k3 => k_asm); (case k4 => k_asm); (case k5 => k_asm); (case k6 => k_is); (case k7 => k_is); (case k8 => (try dsimp only [ktrTop]); omega); (case k9 => first | exact BindsTo.of_eq rfl | exact binds_K (by k_in) rfl (by k_is) rfl rfl rfl); (case c5 => decide); (case kB => exact locs rfl); (case c2 => exact rfl); (case c3 => exact rfl); (case c4 => exact rfl); k_whole; intro g' L' h' FG' F' N' B' X' T'; (try dsimp only); (try k_lift B'); (try k_fold))
  k_steps
  all_goals first | (refine hret _ _ _ _ ?k1 ?k2 (raisedS_N ?k3); (case k3 => assumption); (case k1 => assumption); (case k2 => assumption)) | exact hret _ _ _ _ (by assumption) (by assumption) (raisedS_N (by assumption)) | exact hret _ _ _ _ (by assumption) (by assumption) (by assumption)
theorem e_pos (w : World) (y m d : Int) (t u v : Tok) (hy : 1 ≤ y) (hy2 : y ≤ 1000002000) (h1 : 1 ≤ m) (h2 : m ≤ 12) (h3 : -100 < d) (h4 : d < 100) (hb : d < 1 ∨ dim y m < d) : SpecE w 6 273 [.int y t, .int m u, .int d v] "ValueError" := by
  unfold SpecE
  k_fill
  intro dp un gd cn cs a ccd cl outer A₀ base h₀ L m₀ mean mg mb news s Q E B F X N T hk hd hu hret
  refine wpAny_call ?_
  k_dflt (refine' code_def ?k1 ?k2 ?k3 ?k4 ?k5 ?kA ?kF ?kK ?k6 ?k7 ?k8 ?k9 ?kB ?_ ?c2 ?c3 ?c4 ?c5; (case kA => exact rfl); (case kF => exact rfl); (case kK => assumption); (case k1 => k_asm); (case k2 => k_asm); (case k3 => k_asm); (case k4 => k_asm); (case k5 => k_asm); (case k6 => k_is); (case k7 => k_is); (case k8 => (try dsimp only [ktrTop]); omega); (case k9 => first | exact BindsTo.of_eq rfl | exact binds_K (by k_in) rfl (by k_is) rfl rfl rfl); (case c5 => decide); (case kB => exact locs rfl); (case c2 => exact rfl); (case c3 => exact rfl); (case c4 => exact rfl); k_whole; intro g' L' h' FG' F' N' B' X' T'; (try dsimp only); (try k_lift B'); (try k_fold))
  k_steps
  all_goals first | (refine hret _ _ _ _ ?k1 ?k2 (raisedS_N ?k3); (case k3 => assumption); (case k1 => assumption); (case k2 => assumption)) | exact hret _ _ _ _ (by assumption) (by assumption) (raisedS_N (by assumption)) | exact hret _ _ _ _ (by assumption) (by assumption) (by assumption)

local macro_rules | `(tactic| walk_at "call ref") => `(tactic| (k_here; (show wpAny _ _ (call (Value.ref 224) _) _ _ _); refine' g_may _ _ _ _ _ _ _ ?hy ?hy2 ?h1 ?h2 ?hb ?hc ?hn ?hn2 _ _ _ _ _ _ _ _ _ _ _ _ _ _ _ _ _ _ _ _ _ ?B ?F ?X ?N ?T ?hk ?hd ?hu (ret_T5 ?_); (case B => k_asm); (case F => k_asm); (case X => k_asm); (case N => k_asm); (case T => k_asm); (case hk => first | with_unfolding_all rfl | assumption); (case hd => (try simp only [depth_deeper]); (try dsimp only [ktrTop]); first | (with_unfolding_all decide) | omega); (case hu => (try simp only [units_deeper]); (try dsimp only [ktrTop]); first | (with_unfolding_all decide) | omega); (case hy => first | assumption | omega); (case hy2 => first | assumption | omega); (case h1 => first | assumption | omega); (case h2 => first | assumption | omega); (case hb => first | assumption | omega); (case hc => first | assumption | omega); (case hn => first | assumption | omega); (case hn2 => first | assumption | omega); intro D' t1' t2' t3' t4' t5' n' h' tk' F' N' l1; (try k_lt l1); (try dsimp only); (try k_sweep)))
local macro_rules | `(tactic| walk_at "call ref") => `(tactic| (k_here; (show wpAny _ _ (call (Value.ref 224) _) _ _ _); refine' e_may _ _ _ _ _ _ _ ?hy ?hy2 ?h1 ?h2 ?h3 ?h4 ?hb _ _ _ _ _ _ _ _ _ _ _ _ _ _ _ _ _ _ _ _ _ ?B ?F ?X ?N ?T ?hk ?hd ?hu ?_; (case B => k_asm); (case F => k_asm); (case X => k_asm); (case N => k_asm); (case T => k_asm); (case hk => first | with_unfolding_all rfl | assumption); (case hd => (try simp only [depth_deeper]); (try dsimp only [ktrTop]); first | (with_unfolding_all decide) | omega); (case hu => (try simp only [units_deeper]); (try dsimp only [ktrTop]); first | (with_unfolding_all decide) | omega); (case hy => first | assumption | omega); (case hy2 => first | assumption | omega); (case h1 => first | assumption | omega); (case h2 => first | assumption | omega); (case h3 => first | assumption | omega); (case h4 => first | assumption | omega); (case hb => first | assumption | omega); intro e' g' h' tk' FG' U' S'; (try dsimp only)))
local macro_rules | `(tactic| walk_at "call ref") => `(tactic| (k_here; (show wpAny _ _ (call (Value.ref 201) _) _ _ _); refine' e_heb _ _ _ _ _ _ _ ?hy ?hy2 ?h1 ?h2 ?h3 ?h4 ?hb _ _ _ _ _ _ _ _ _ _ _ _ _ _ _ _ _ _ _ _ _ ?B ?F ?X ?N ?T ?hk ?hd ?hu ?_; (case B => k_asm); (case F => k_asm); (case X => k_asm); (case N => k_asm); (case T => k_asm); (case hk => first | with_unfolding_all rfl | assumption); (case hd => (try simp only [depth_deeper]); (try dsimp only [ktrTop]); first | (with_unfolding_all decide) | omega); (case hu => (try simp only [units_deeper]); (try dsimp only [ktrTop]); first | (with_unfolding_all decide) | omega); (case hy => first | assumption | omega); (case hy2 => first | assumption | omega); (case h1 => first | assumption | omega); (case h2 => first | assumption | omega); (case h3 => first | assumption | omega); (case h4 => first | assumption | omega); (case hb => first | assumption | omega); intro e' g' h' tk' FG' U' S'; (try dsimp only)))
local macro_rules | `(tactic| walk_at "call ref") => `(tactic| (k_here; (show wpAny _ _ (call (Value.ref 273) _) _ _ _); refine' e_pos _ _ _ _ _ _ _ ?hy ?hy2 ?h1 ?h2 ?h3 ?h4 ?hb _ _ _ _ _ _ _ _ _ _ _ _ _ _ _ _ _ _ _ _ _ ?B ?F ?X ?N ?T ?hk ?hd ?hu ?_; (case B => k_asm); (case F => k_asm); (case X => k_asm); (case N => k_asm); (case T => k_asm); (case hk => first | with_unfolding_all rfl | assumption); (case hd => (try simp only [depth_deeper]); (try dsimp only [ktrTop]); first | (with_unfolding_all decide) | omega); (case hu => (try simp only [units_deeper]); (try dsimp only [ktrTop]); first | (with_unfolding_all decide) | omega); (case hy => first | assumption | omega); (case hy2 => first | assumption | omega); (case h1 => first | assumption | omega); (case h2 => first | assumption | omega); (case h3 => first | assumption | omega); (case h4 => first | assumption | omega); (case hb => first | assumption | omega); intro e' g' h' tk' FG' U' S'; (try dsimp only)))
theorem amod13_spec (w : World) (z : UInt64) (p : Int) (t u : Tok) (hz : H z p) (hp : p % 2 = 0) (hk0 : 0 ≤ p) (hk2 : p < 1000000000000) : Spec w 2 49 [.float z t, .int 13 u] (fun tl v => ∃ t, tl = [] ∧ v = .int (amodI (p / 2) 13) t) := by
  unfold Spec
  k_fill
  intro dp un gd cn cs a ccd cl outer A₀ base h₀ L m₀ mean mg mb news s Q E B F X N T hk hd hu hret
  refine wpAny_call ?_
  k_dflt (refine' code_def ?k1 ?k2 ?k3 ?k4 ?k5 ?kA ?kF ?kK ?k6 ?k7 ?k8 ?k9 ?kB ?_ ?c2 ?c3 ?c4 ?c5; (case kA => exact rfl); (case kF => exact rfl); (case kK => assumption); (case k1 => k_asm); (case k2 => k_asm); (case k3 => k_asm); (case k4 => k_asm); (case k5 => k_asm); (case k6 => k_is); (case k7 => k_is); (case k8 => (try dsimp only [ktrTop]); omega); (case k9 => first | exact BindsTo.of_eq rfl | exact binds_K (by k_in) rfl (by k_is) rfl rfl rfl); (case c5 => decide); (case kB => exact locs rfl); (case c2 => exact rfl); (case c3 => exact rfl); (case c4 => exact rfl); k_whole; intro g' L' h' FG' F' N' B' X' T'; (try dsimp only); (try k_lift B'); (try k_fold))
  k_steps
  all_goals (refine' end_I hret ?e ?F ?N ?hs; (case F => k_asm); (case N => k_asm); (case hs => first | exact fun _ h => h | exact fun _ h => List.mem_cons_of_mem _ h | exact fun _ h => List.mem_cons_of_mem _ (List.mem_cons_of_mem _ h) | exact fun _ h => List.mem_cons_of_mem _ (List.mem_cons_of_mem _ (List.mem_cons_of_mem _ h)) | exact fun _ h => List.mem_cons_of_mem _ (List.mem_cons_of_mem _ (List.mem_cons_of_mem _ (List.mem_cons_of_mem _ h))) | exact fun _ h => List.mem_cons_of_mem _ (List.mem_cons_of_mem _ (List.mem_cons_of_mem _ (List.mem_cons_of_mem _ (List.mem_cons_of_mem _ h)))) | exact fun _ h => List.mem_cons_of_mem _ (List.mem_cons_of_mem _ (List.mem_cons_of_mem _ (List.mem_cons_of_mem _ (List.mem_cons_of_mem _ (List.mem_cons_of_mem _ h))))) | exact fun _ h => List.mem_cons_of_mem _ (List.mem_cons_of_mem _ (List.mem_cons_of_mem _ (List.mem_cons_of_mem _ (List.mem_cons_of_mem _ (List.mem_cons_of_mem _ (List.mem_cons_of_mem _ h)))))) | exact fun _ h => List.mem_cons_of_mem _ (List.mem_cons_of_mem _ (List.mem_cons_of_mem _ (List.mem_cons_of_mem _ (List.mem_cons_of_mem _ (List.mem_cons_of_mem _ (List.mem_cons_of_mem _ (List.mem_cons_of_mem _ h))))))) | exact fun _ h => List.mem_cons_of_mem _ (List.mem_cons_of_mem _ (List.mem_cons_of_mem _ (List.mem_cons_of_mem _ (List.mem_cons_of_mem _ (List.mem_cons_of_mem _ (List.mem_cons_of_mem _ (List.mem_cons_of_mem _ (List.mem_cons_of_mem _ h)))))))) | kcj_all); (case e => unfold amodI; by_cases h0 : p / 2 % 13 = 0 <;> simp only [h0, if_true, if_false] <;> omega))
theorem amod20_spec (w : World) (z : UInt64) (p : Int) (t u : Tok) (hz : H z p) (hp : p % 2 = 0) (hk0 : 0 ≤ p) (hk2 : p < 1000000000000) : Spec w 2 49 [.float z t, .int 20 u] (fun tl v => ∃ t, tl = [] ∧ v = .int (amodI (p / 2) 20) t) := by
  unfold Spec
  k_fill
  intro dp un gd cn cs a ccd cl outer A₀ base h₀ L m₀ mean mg mb news s Q E B F X N T hk hd hu hret
  refine wpAny_call ?_
  k_dflt (refine' code_def ?k1 ?k2 ?k3 ?k4 ?k5 ?kA ?kF ?kK ?k6 ?k7 ?k8 ?k9 ?kB ?_ ?c2 ?c3 ?c4 ?c5; (case kA => exact rfl); (case kF => exact rfl); (case kK => assumption); (case k1 => k_asm); (case k2 => k_asm); (case k3 => k_asm); (case k4 => k_asm); (case k5 => k_asm); (case k6 => k_is); (case k7 => k_is); (case k8 => (try dsimp only [ktrTop]); omega); (case k9 => first | exact BindsTo.of_eq rfl | exact binds_K (by k_in) rfl (by k_is) rfl rfl rfl); (case c5 => decide); (case kB => exact locs rfl); (case c2 => exact rfl); (case c3 => exact rfl); (case c4 => exact rfl); k_whole; intro g' L' h' FG' F' N' B' X' T'; (try dsimp only); (try k_lift B'); (try k_fold))
  k_steps
  all_goals (refine' end_I hret ?e ?F ?N ?hs; (case F => k_asm); (case N => k_asm); (case hs => first | exact fun _ h => h | exact fun _ h => List.mem_cons_of_mem _ h | exact fun _ h => List.mem_cons_of_mem _ (List.mem_cons_of_mem _ h) | exact fun _ h => List.mem_cons_of_mem _ (List.mem_cons_of_mem _ (List.mem_cons_of_mem _ h)) | exact fun _ h => List.mem_cons_of_mem _ (List.mem_cons_of_mem _ (List.mem_cons_of_mem _ (List.mem_cons_of_mem _ h))) | exact fun _ h => List.mem_cons_of_mem _ (List.mem_cons_of_mem _ (List.mem_cons_of_mem _ (List.mem_cons_of_mem _ (List.mem_cons_of_mem _ h)))) | exact fun _ h => List.mem_cons_of_mem _ (List.mem_cons_of_mem _ (List.mem_cons_of_mem _ (List.mem_cons_of_mem _ (List.mem_cons_of_mem _ (List.mem_cons_of_mem _ h))))) | exact fun _ h => List.mem_cons_of_mem _ (List.mem_cons_of_mem _ (List.mem_cons_of_mem _ (List.mem_cons_of_mem _ (List.mem_cons_of_mem _ (List.mem_cons_of_mem _ (List.mem_cons_of_mem _ h)))))) | exact fun _ h => List.mem_cons_of_mem _ (List.mem_cons_of_mem _ (List.mem_cons_of_mem _ (List.mem_cons_of_mem _ (List.mem_cons_of_mem _ (List.mem_cons_of_mem _ (List.mem_cons_of_mem _ (List.mem_cons_of_mem _ h))))))) | exact fun _ h => List.mem_cons_of_mem _ (List.mem_cons_of_mem _ (List.mem_cons_of_mem _ (List.mem_cons_of_mem _ (List.mem_cons_of_mem _ (List.mem_cons_of_mem _ (List.mem_cons_of_mem _ (List.mem_cons_of_mem _ (List.mem_cons_of_mem _ h)))))))) | kcj_all); (case e => unfold amodI; by_cases h0 : p / 2 % 20 = 0 <;> simp only [h0, if_true, if_false] <;> omega))

local macro_rules | `(tactic| walk_at "call ref") => `(tactic| (k_here; (show wpAny _ _ (call (Value.ref 49) _) _ _ _); refine' amod13_spec _ _ _ _ _ ?hz ?hp ?hk0 ?hk2 _ _ _ _ _ _ _ _ _ _ _ _ _ _ _ _ _ _ _ _ _ ?B ?F ?X ?N ?T ?hk ?hd ?hu (ret_I ?_); (case B => k_asm); (case F => k_asm); (case X => k_asm); (case N => k_asm); (case T => k_asm); (case hk => first | with_unfolding_all rfl | assumption); (case hd => (try simp only [depth_deeper]); (try dsimp only [ktrTop]); first | (with_unfolding_all decide) | omega); (case hu => (try simp only [units_deeper]); (try dsimp only [ktrTop]); first | (with_unfolding_all decide) | omega); (case hz => with_reducible assumption); (case hp => omega); (case hk0 => omega); (case hk2 => omega); intro t' h' tk' F' N'; (try dsimp only); (try k_sweep)))
local macro_rules | `(tactic| walk_at "call ref") => `(tactic| (k_here; (show wpAny _ _ (call (Value.ref 49) _) _ _ _); refine' amod20_spec _ _ _ _ _ ?hz ?hp ?hk0 ?hk2 _ _ _ _ _ _ _ _ _ _ _ _ _ _ _ _ _ _ _ _ _ ?B ?F ?X ?N ?T ?hk ?hd ?hu (ret_I ?_); (case B => k_asm); (case F => k_asm); (case X => k_asm); (case N => k_asm); (case T => k_asm); (case hk => first | with_unfolding_all rfl | assumption); (case hd => (try simp only [depth_deeper]); (try dsimp only [ktrTop]); first | (with_unfolding_all decide) | omega); (case hu => (try simp only [units_deeper]); (try dsimp only [ktrTop]); first | (with_unfolding_all decide) | omega); (case hz => with_reducible assumption); (case hp => omega); (case hk0 => omega); (case hk2 => omega); intro t' h' tk' F' N'; (try dsimp only); (try k_sweep)))
theorem haab_spec (w : World) (z : UInt64) (n : Int) (t : Tok) (hz : H z (2 * n + 1)) (hn : 2375000 ≤ n) (hn2 : n ≤ 400000000000) : Spec w 2 231 [.float z t] (fun tl v => ∃ D t1 t2 n', tl = [(D, tupOf [.int (haab1 (n - 584282)) t1, .str (haab2 (n - 584282)) t2] n')] ∧ v = .ref D) := by
  have e0 : (2 * n + 1) / 2 = n := by omega
  have e1 : (2 * ((2 * n + 1) / 2) + 1 - 1168565 + 2 * 348) % (2 * 365) / (2 * 20) = (n - 584282 + 348) % 365 / 20 := by omega
  unfold Spec
  k_fill
  intro dp un gd cn cs a ccd cl outer A₀ base h₀ L m₀ mean mg mb news s Q E B F X N T hk hd hu hret
  refine wpAny_call ?_
  k_dflt (refine' code_def ?k1 ?k2 ?k3 ?k4 ?k5 ?kA ?kF ?kK ?k6 ?k7 ?k8 ?k9 ?kB ?_ ?c2 ?c3 ?c4 ?c5; (case kA => exact rfl); (case kF => exact rfl); (case kK => assumption); (case k1 => k_asm); (case k2 => k_asm); (case k3 => k_asm); (case k4 => k_asm); (case k5 => k_asm); (case k6 => k_is); (case k7 => k_is); (case k8 => (try dsimp only [ktrTop]); omega); (case k9 => first | exact BindsTo.of_eq rfl | exact binds_K (by k_in) rfl (by k_is) rfl rfl rfl); (case c5 => decide); (case kB => exact locs rfl); (case c2 => exact rfl); (case c3 => exact rfl); (case c4 => exact rfl); k_whole; intro g' L' h' FG' F' N' B' X' T'; (try dsimp only); (try k_lift B'); (try k_fold))
  k_steps
  all_goals (refine' end_TIS hret ?ea ?eb ?F ?N ?hm ?hs ?hl; (case F => k_asm); (case N => k_asm); (case hm => k_mem); (case hs => first | exact fun _ h => h | exact fun _ h => List.mem_cons_of_mem _ h | exact fun _ h => List.mem_cons_of_mem _ (List.mem_cons_of_mem _ h) | exact fun _ h => List.mem_cons_of_mem _ (List.mem_cons_of_mem _ (List.mem_cons_of_mem _ h)) | exact fun _ h => List.mem_cons_of_mem _ (List.mem_cons_of_mem _ (List.mem_cons_of_mem _ (List.mem_cons_of_mem _ h))) | exact fun _ h => List.mem_cons_of_mem _ (List.mem_cons_of_mem _ (List.mem_cons_of_mem _ (List.mem_cons_of_mem _ (List.mem_cons_of_mem _ h)))) | exact fun _ h => List.mem_cons_of_mem _ (List.mem_cons_of_mem _ (List.mem_cons_of_mem _ (List.mem_cons_of_mem _ (List.mem_cons_of_mem _ (List.mem_cons_of_mem _ h))))) | exact fun _ h => List.mem_cons_of_mem _ (List.mem_cons_of_mem _ (List.mem_cons_of_mem _ (List.mem_cons_of_mem _ (List.mem_cons_of_mem _ (List.mem_cons_of_mem _ (List.mem_cons_of_mem _ h)))))) | exact fun _ h => List.mem_cons_of_mem _ (List.mem_cons_of_mem _ (List.mem_cons_of_mem _ (List.mem_cons_of_mem _ (List.mem_cons_of_mem _ (List.mem_cons_of_mem _ (List.mem_cons_of_mem _ (List.mem_cons_of_mem _ h))))))) | exact fun _ h => List.mem_cons_of_mem _ (List.mem_cons_of_mem _ (List.mem_cons_of_mem _ (List.mem_cons_of_mem _ (List.mem_cons_of_mem _ (List.mem_cons_of_mem _ (List.mem_cons_of_mem _ (List.mem_cons_of_mem _ (List.mem_cons_of_mem _ h)))))))) | kcj_all); (case hl => first | assumption | exact ktn_ltOf (by assumption) | exact ktn_ltOf (And.right (by assumption)) | exact ktn_ltOf (And.right (And.right (by assumption))) | exact ktn_ltOf (And.right (And.right (And.right (by assumption)))) | exact ktn_ltOf (And.right (And.right (And.right (And.right (by assumption))))) | exact ktn_ltOf (And.right (And.right (And.right (And.right (And.right (by assumption)))))) | exact ktn_ltOf (And.right (And.right (And.right (And.right (And.right (And.right (by assumption)))))))); (case ea => unfold haab1; omega); (case eb => rw [e1]; rfl))

local macro_rules | `(tactic| walk_at "call ref") => `(tactic| (k_here; (show wpAny _ _ (call (Value.ref 231) _) _ _ _); refine' haab_spec _ _ _ _ ?hz ?hn ?hn2 _ _ _ _ _ _ _ _ _ _ _ _ _ _ _ _ _ _ _ _ _ ?B ?F ?X ?N ?T ?hk ?hd ?hu (ret_TIS ?_); (case B => k_asm); (case F => k_asm); (case X => k_asm); (case N => k_asm); (case T => k_asm); (case hk => first | with_unfolding_all rfl | assumption); (case hd => (try simp only [depth_deeper]); (try dsimp only [ktrTop]); first | (with_unfolding_all decide) | omega); (case hu => (try simp only [units_deeper]); (try dsimp only [ktrTop]); first | (with_unfolding_all decide) | omega); (case hz => first | with_reducible assumption); (case hn => first | assumption | omega); (case hn2 => first | assumption | omega); intro D' t1' t2' n' h' tk' F' N' l1; (try k_lt l1); (try dsimp only); (try k_sweep)))
theorem mtojd_spec (w : World) (a b c d e : Int) (t1 t2 t3 t4 t5 : Tok) (ga : 0 ≤ a) (ga2 : a < 10000000) (gb : 0 ≤ b) (gb2 : b < 1000) (gc : 0 ≤ c) (gc2 : c < 1000) (gd : 0 ≤ d) (gd2 : d < 1000) (ge : 0 ≤ e) (ge2 : e < 1000) : Spec w 2 210 [.int a t1, .int b t2, .int c t3, .int d t4, .int e t5] (fun tl v => ∃ z t, tl = [] ∧ v = .float z t ∧ H z (2 * (584282 + (a * 144000 + b * 7200 + c * 360 + d * 20 + e)) + 1)) := by
  unfold Spec
  k_fill
  intro dp un gd cn cs aa ccd cl outer A₀ base h₀ L m₀ mean mg mb news s Q E B F X N T hk hd hu hret
  refine wpAny_call ?_
  k_dflt (refine' code_def ?k1 ?k2 ?k3 ?k4 ?k5 ?kA ?kF ?kK ?k6 ?k7 ?k8 ?k9 ?kB ?_ ?c2 ?c3 ?c4 ?c5; (case kA => exact rfl); (case kF => exact rfl); (case kK => assumption); (case k1 => k_asm); (case k2 => k_asm); (case k3 => k_asm); (case k4 => k_asm); (case k5 => k_asm); (case k6 => k_is); (case k7 => k_is); (case k8 => (try dsimp only [ktrTop]); omega); (case k9 => first | exact BindsTo.of_eq rfl | exact binds_K (by k_in) rfl (by k_is) rfl rfl rfl); (case c5 => decide); (case kB => exact locs rfl); (case c2 => exact rfl); (case c3 => exact rfl); (case c4 => exact rfl); k_whole; intro g' L' h' FG' F' N' B' X' T'; (try dsimp only); (try k_lift B'); (try k_fold))
  k_steps
  all_goals (refine hret _ [] _ _ (by k_asm) (by k_asm) (fun _ _ _ h => nomatch h) ⟨_, _, rfl, rfl, ?_⟩; refine' H.cast ?e ?h; (case h => assumption); (case e => omega))

local macro_rules | `(tactic| walk_at "call ref") => `(tactic| (k_here; (show wpAny _ _ (call (Value.ref 210) _) _ _ _); refine' mtojd_spec _ _ _ _ _ _ _ _ _ _ _ ?ga ?ga2 ?gb ?gb2 ?gc ?gc2 ?gd ?gd2 ?ge ?ge2 _ _ _ _ _ _ _ _ _ _ _ _ _ _ _ _ _ _ _ _ _ ?B ?F ?X ?N ?T ?hk ?hd ?hu (ret_H ?_); (case B => k_asm); (case F => k_asm); (case X => k_asm); (case N => k_asm); (case T => k_asm); (case hk => first | with_unfolding_all rfl | assumption); (case hd => (try simp only [depth_deeper]); (try dsimp only [ktrTop]); first | (with_unfolding_all decide) | omega); (case hu => (try simp only [units_deeper]); (try dsimp only [ktrTop]); first | (with_unfolding_all decide) | omega); (case ga => first | assumption | omega); (case ga2 => first | assumption | omega); (case gb => first | assumption | omega); (case gb2 => first | assumption | omega); (case gc => first | assumption | omega); (case gc2 => first | assumption | omega); (case gd => first | assumption | omega); (case gd2 => first | assumption | omega); (case ge => first | assumption | omega); (case ge2 => first | assumption | omega); intro z' t' h' tk' F' N' hz'; (try dsimp only); (try k_sweep)))
theorem tzol_spec (w : World) (z : UInt64) (n : Int) (t : Tok) (hz : H z (2 * n + 1)) (hn : 2375000 ≤ n) (hn2 : n ≤ 400000000000) : Spec w 4 238 [.float z t] (fun tl v => ∃ D t1 t2 n', tl = [(D, tupOf [.int (tz1 (n - 584282)) t1, .str (tz2 (n - 584282)) t2] n')] ∧ v = .ref D) := by
  have e0 : (2 * n + 1) / 2 = n := by omega
  have e1 : (2 * ((2 * n + 1) / 2) + 1 - 1168565 + 2 * 20) / 2 = n - 584282 + 20 := by omega
  have e2 : (2 * ((2 * n + 1) / 2) + 1 - 1168565 + 2 * 4) / 2 = n - 584282 + 4 := by omega
  have hA := amod_range ((2 * ((2 * n + 1) / 2) + 1 - 1168565 + 2 * 20) / 2) (b := 20) (by decide)
  unfold Spec
  k_fill
  intro dp un gd cn cs a ccd cl outer A₀ base h₀ L m₀ mean mg mb news s Q E B F X N T hk hd hu hret
  refine wpAny_call ?_
  k_dflt (refine' code_def ?k1 ?k2 ?k3 ?k4 ?k5 ?kA ?kF ?kK ?k6 ?k7 ?k8 ?k9 ?kB ?_ ?c2 ?c3 ?c4 ?c5; (case kA => exact rfl); (case kF => exact rfl); (case kK => assumption); (case k1 => k_asm); (case k2 => k_asm); (case k3 => k_asm); (case k4 => k_asm); (case k5 => k_asm); (case k6 => k_is); (case k7 => k_is); (case k8 => (try dsimp only [ktrTop]); omega); (case k9 => first | exact BindsTo.of_eq rfl | exact binds_K (by k_in) rfl (by k_is) rfl rfl rfl); (case c5 => decide); (case kB => exact locs rfl); (case c2 => exact rfl); (case c3 => exact rfl); (case c4 => exact rfl); k_whole; intro g' L' h' FG' F' N' B' X' T'; (try dsimp only); (try k_lift B'); (try k_fold))
  k_steps
  all_goals (refine' end_TIS hret ?ea ?eb ?F ?N ?hm ?hs ?hl; (case F => k_asm); (case N => k_asm); (case hm => k_mem); (case hs => first | exact fun _ h => h | exact fun _ h => List.mem_cons_of_mem _ h | exact fun _ h => List.mem_cons_of_mem _ (List.mem_cons_of_mem _ h) | exact fun _ h => List.mem_cons_of_mem _ (List.mem_cons_of_mem _ (List.mem_cons_of_mem _ h)) | exact fun _ h => List.mem_cons_of_mem _ (List.mem_cons_of_mem _ (List.mem_cons_of_mem _ (List.mem_cons_of_mem _ h))) | exact fun _ h => List.mem_cons_of_mem _ (List.mem_cons_of_mem _ (List.mem_cons_of_mem _ (List.mem_cons_of_mem _ (List.mem_cons_of_mem _ h)))) | exact fun _ h => List.mem_cons_of_mem _ (List.mem_cons_of_mem _ (List.mem_cons_of_mem _ (List.mem_cons_of_mem _ (List.mem_cons_of_mem _ (List.mem_cons_of_mem _ h))))) | exact fun _ h => List.mem_cons_of_mem _ (List.mem_cons_of_mem _ (List.mem_cons_of_mem _ (List.mem_cons_of_mem _ (List.mem_cons_of_mem _ (List.mem_cons_of_mem _ (List.mem_cons_of_mem _ h)))))) | exact fun _ h => List.mem_cons_of_mem _ (List.mem_cons_of_mem _ (List.mem_cons_of_mem _ (List.mem_cons_of_mem _ (List.mem_cons_of_mem _ (List.mem_cons_of_mem _ (List.mem_cons_of_mem _ (List.mem_cons_of_mem _ h))))))) | exact fun _ h => List.mem_cons_of_mem _ (List.mem_cons_of_mem _ (List.mem_cons_of_mem _ (List.mem_cons_of_mem _ (List.mem_cons_of_mem _ (List.mem_cons_of_mem _ (List.mem_cons_of_mem _ (List.mem_cons_of_mem _ (List.mem_cons_of_mem _ h)))))))) | kcj_all); (case hl => first | assumption | exact ktn_ltOf (by assumption) | exact ktn_ltOf (And.right (by assumption)) | exact ktn_ltOf (And.right (And.right (by assumption))) | exact ktn_ltOf (And.right (And.right (And.right (by assumption)))) | exact ktn_ltOf (And.right (And.right (And.right (And.right (by assumption))))) | exact ktn_ltOf (And.right (And.right (And.right (And.right (And.right (by assumption)))))) | exact ktn_ltOf (And.right (And.right (And.right (And.right (And.right (And.right (by assumption)))))))); (case ea => rw [e2]; rfl); (case eb => rw [e1]; rfl))

local macro_rules | `(tactic| walk_at "call ref") => `(tactic| (k_here; (show wpAny _ _ (call (Value.ref 238) _) _ _ _); refine' tzol_spec _ _ _ _ ?hz ?hn ?hn2 _ _ _ _ _ _ _ _ _ _ _ _ _ _ _ _ _ _ _ _ _ ?B ?F ?X ?N ?T ?hk ?hd ?hu (ret_TIS ?_); (case B => k_asm); (case F => k_asm); (case X => k_asm); (case N => k_asm); (case T => k_asm); (case hk => first | with_unfolding_all rfl | assumption); (case hd => (try simp only [depth_deeper]); (try dsimp only [ktrTop]); first | (with_unfolding_all decide) | omega); (case hu => (try simp only [units_deeper]); (try dsimp only [ktrTop]); first | (with_unfolding_all decide) | omega); (case hz => first | with_reducible assumption); (case hn => first | assumption | omega); (case hn2 => first | assumption | omega); intro D' t1' t2' n' h' tk' F' N' l1; (try k_lt l1); (try dsimp only); (try k_sweep)))
theorem lch_spec (w : World) (a b c d e : Int) (t1 t2 t3 t4 t5 : Tok) (ga : 0 ≤ a) (ga2 : a < 2600000) (gb : 0 ≤ b) (gb2 : b < 1000) (gc : 0 ≤ c) (gc2 : c < 1000) (gd : 0 ≤ d) (gd2 : d < 1000) (ge : 0 ≤ e) (ge2 : e < 1000) (gk : 1790718 ≤ (a * 144000 + b * 7200 + c * 360 + d * 20 + e)) : Spec w 6 245 [.int a t1, .int b t2, .int c t3, .int d t4, .int e t5] (fun tl v => ∃ D t1 t2 n', tl = [(D, tupOf [.int (haab1 (a * 144000 + b * 7200 + c * 360 + d * 20 + e)) t1, .str (haab2 (a * 144000 + b * 7200 + c * 360 + d * 20 + e)) t2] n')] ∧ v = .ref D) := by
  have ek0 : 584282 + (a * 144000 + b * 7200 + c * 360 + d * 20 + e) - 584282 = (a * 144000 + b * 7200 + c * 360 + d * 20 + e) := by omega
  unfold Spec
  k_fill
  intro dp un gd cn cs aa ccd cl outer A₀ base h₀ L m₀ mean mg mb news s Q E B F X N T hk hd hu hret
  refine wpAny_call ?_
  k_dflt (refine' code_def ?k1 ?k2 ?k3 ?k4 ?k5 ?kA ?kF ?kK ?k6 ?k7 ?k8 ?k9 ?kB ?_ ?c2 ?c3 ?c4 ?c5; (case kA => exact rfl); (case kF => exact rfl); (case kK => assumption); (case k1 => k_asm); (case k2 => k_asm); (case k3 => k_asm); (case k4 => k_asm); (case k5 => k_asm); (case k6 => k_is); (case k7 => k_is); (case k8 => (try dsimp only [ktrTop]); omega); (case k9 => first | exact BindsTo.of_eq rfl | exact binds_K (by k_in) rfl (by k_is) rfl rfl rfl); (case c5 => decide); (case kB => exact locs rfl); (case c2 => exact rfl); (case c3 => exact rfl); (case c4 => exact rfl); k_whole; intro g' L' h' FG' F' N' B' X' T'; (try dsimp only); (try k_lift B'); (try k_fold))
  k_steps
  all_goals (refine' end_TIS hret ?ea ?eb ?F ?N ?hm ?hs ?hl; (case F => k_asm); (case N => k_asm); (case hm => k_mem); (case hs => first | exact fun _ h => h | exact fun _ h => List.mem_cons_of_mem _ h | exact fun _ h => List.mem_cons_of_mem _ (List.mem_cons_of_mem _ h) | exact fun _ h => List.mem_cons_of_mem _ (List.mem_cons_of_mem _ (List.mem_cons_of_mem _ h)) | exact fun _ h => List.mem_cons_of_mem _ (List.mem_cons_of_mem _ (List.mem_cons_of_mem _ (List.mem_cons_of_mem _ h))) | exact fun _ h => List.mem_cons_of_mem _ (List.mem_cons_of_mem _ (List.mem_cons_of_mem _ (List.mem_cons_of_mem _ (List.mem_cons_of_mem _ h)))) | exact fun _ h => List.mem_cons_of_mem _ (List.mem_cons_of_mem _ (List.mem_cons_of_mem _ (List.mem_cons_of_mem _ (List.mem_cons_of_mem _ (List.mem_cons_of_mem _ h))))) | exact fun _ h => List.mem_cons_of_mem _ (List.mem_cons_of_mem _ (List.mem_cons_of_mem _ (List.mem_cons_of_mem _ (List.mem_cons_of_mem _ (List.mem_cons_of_mem _ (List.mem_cons_of_mem _ h)))))) | exact fun _ h => List.mem_cons_of_mem _ (List.mem_cons_of_mem _ (List.mem_cons_of_mem _ (List.mem_cons_of_mem _ (List.mem_cons_of_mem _ (List.mem_cons_of_mem _ (List.mem_cons_of_mem _ (List.mem_cons_of_mem _ h))))))) | exact fun _ h => List.mem_cons_of_mem _ (List.mem_cons_of_mem _ (List.mem_cons_of_mem _ (List.mem_cons_of_mem _ (List.mem_cons_of_mem _ (List.mem_cons_of_mem _ (List.mem_cons_of_mem _ (List.mem_cons_of_mem _ (List.mem_cons_of_mem _ h)))))))) | kcj_all); (case hl => first | assumption | exact ktn_ltOf (by assumption) | exact ktn_ltOf (And.right (by assumption)) | exact ktn_ltOf (And.right (And.right (by assumption))) | exact ktn_ltOf (And.right (And.right (And.right (by assumption)))) | exact ktn_ltOf (And.right (And.right (And.right (And.right (by assumption))))) | exact ktn_ltOf (And.right (And.right (And.right (And.right (And.right (by assumption)))))) | exact ktn_ltOf (And.right (And.right (And.right (And.right (And.right (And.right (by assumption)))))))); (case ea => rw [ek0]); (case eb => rw [ek0]))
theorem lct_spec (w : World) (a b c d e : Int) (t1 t2 t3 t4 t5 : Tok) (ga : 0 ≤ a) (ga2 : a < 2600000) (gb : 0 ≤ b) (gb2 : b < 1000) (gc : 0 ≤ c) (gc2 : c < 1000) (gd : 0 ≤ d) (gd2 : d < 1000) (ge : 0 ≤ e) (ge2 : e < 1000) (gk : 1790718 ≤ (a * 144000 + b * 7200 + c * 360 + d * 20 + e)) : Spec w 6 252 [.int a t1, .int b t2, .int c t3, .int d t4, .int e t5] (fun tl v => ∃ D t1 t2 n', tl = [(D, tupOf [.int (tz1 (a * 144000 + b * 7200 + c * 360 + d * 20 + e)) t1, .str (tz2 (a * 144000 + b * 7200 + c * 360 + d * 20 + e)) t2] n')] ∧ v = .ref D) := by
  have ek0 : 584282 + (a * 144000 + b * 7200 + c * 360 + d * 20 + e) - 584282 = (a * 144000 + b * 7200 + c * 360 + d * 20 + e) := by omega
  unfold Spec
  k_fill
  intro dp un gd cn cs aa ccd cl outer A₀ base h₀ L m₀ mean mg mb news s Q E B F X N T hk hd hu hret
  refine wpAny_call ?_
  k_dflt (refine' code_def ?k1 ?k2 ?k3 ?k4 ?k5 ?kA ?kF ?kK ?k6 ?k7 ?k8 ?k9 ?kB ?_ ?c2 ?c3 ?c4 ?c5; (case kA => exact rfl); (case kF => exact rfl); (case kK => assumption); (case k1 => k_asm); (case k2 => k_asm); (case k3 => k_asm); (case k4 => k_asm); (case k5 => k_asm); (case k6 => k_is); (case k7 => k_is); (case k8 => (try dsimp only [ktrTop]); omega); (case k9 => first | exact BindsTo.of_eq rfl | exact binds_K (by k_in) rfl (by k_is) rfl rfl rfl); (case c5 => decide); (case kB => exact locs rfl); (case c2 => exact rfl); (case c3 => exact rfl); (case c4 => exact rfl); k_whole; intro g' L' h' FG' F' N' B' X' T'; (try dsimp only); (try k_lift B'); (try k_fold))
  k_steps
  all_goals (refine' end_TIS hret ?ea ?eb ?F ?N ?hm ?hs ?hl; (case F => k_asm); (case N => k_asm); (case hm => k_mem); (case hs => first | exact fun _ h => h | exact fun _ h => List.mem_cons_of_mem _ h | exact fun _ h => List.mem_cons_of_mem _ (List.mem_cons_of_mem _ h) | exact fun _ h => List.mem_cons_of_mem _ (List.mem_cons_of_mem _ (List.mem_cons_of_mem _ h)) | exact fun _ h => List.mem_cons_of_mem _ (List.mem_cons_of_mem _ (List.mem_cons_of_mem _ (List.mem_cons_of_mem _ h))) | exact fun _ h => List.mem_cons_of_mem _ (List.mem_cons_of_mem _ (List.mem_cons_of_mem _ (List.mem_cons_of_mem _ (List.mem_cons_of_mem _ h)))) | exact fun _ h => List.mem_cons_of_mem _ (List.mem_cons_of_mem _ (List.mem_cons_of_mem _ (List.mem_cons_of_mem _ (List.mem_cons_of_mem _ (List.mem_cons_of_mem _ h))))) | exact fun _ h => List.mem_cons_of_mem _ (List.mem_cons_of_mem _ (List.mem_cons_of_mem _ (List.mem_cons_of_mem _ (List.mem_cons_of_mem _ (List.mem_cons_of_mem _ (List.mem_cons_of_mem _ h)))))) | exact fun _ h => List.mem_cons_of_mem _ (List.mem_cons_of_mem _ (List.mem_cons_of_mem _ (List.mem_cons_of_mem _ (List.mem_cons_of_mem _ (List.mem_cons_of_mem _ (List.mem_cons_of_mem _ (List.mem_cons_of_mem _ h))))))) | exact fun _ h => List.mem_cons_of_mem _ (List.mem_cons_of_mem _ (List.mem_cons_of_mem _ (List.mem_cons_of_mem _ (List.mem_cons_of_mem _ (List.mem_cons_of_mem _ (List.mem_cons_of_mem _ (List.mem_cons_of_mem _ (List.mem_cons_of_mem _ h)))))))) | kcj_all); (case hl => first | assumption | exact ktn_ltOf (by assumption) | exact ktn_ltOf (And.right (by assumption)) | exact ktn_ltOf (And.right (And.right (by assumption))) | exact ktn_ltOf (And.right (And.right (And.right (by assumption)))) | exact ktn_ltOf (And.right (And.right (And.right (And.right (by assumption))))) | exact ktn_ltOf (And.right (And.right (And.right (And.right (And.right (by assumption)))))) | exact ktn_ltOf (And.right (And.right (And.right (And.right (And.right (And.right (by assumption)))))))); (case ea => rw [ek0]); (case eb => rw [ek0]))

local macro_rules | `(tactic| walk_at "call ref") => `(tactic| (k_here; (show wpAny _ _ (call (Value.ref 245) _) _ _ _); k_dflt (refine' lch_spec _ _ _ _ _ _ _ _ _ _ _ ?ga ?ga2 ?gb ?gb2 ?gc ?gc2 ?gd ?gd2 ?ge ?ge2 ?gk _ _ _ _ _ _ _ _ _ _ _ _ _ _ _ _ _ _ _ _ _ ?B ?F ?X ?N ?T ?hk ?hd ?hu (ret_TIS ?_); (case B => k_asm); (case F => k_asm); (case X => k_asm); (case N => k_asm); (case T => k_asm); (case hk => first | with_unfolding_all rfl | assumption); (case hd => (try simp only [depth_deeper]); (try dsimp only [ktrTop]); first | (with_unfolding_all decide) | omega); (case hu => (try simp only [units_deeper]); (try dsimp only [ktrTop]); first | (with_unfolding_all decide) | omega); (case ga => first | assumption | omega); (case ga2 => first | assumption | omega); (case gb => first | assumption | omega); (case gb2 => first | assumption | omega); (case gc => first | assumption | omega); (case gc2 => first | assumption | omega); (case gd => first | assumption | omega); (case gd2 => first | assumption | omega); (case ge => first | assumption | omega); (case ge2 => first | assumption | omega); (case gk => first | assumption | omega)); intro D' t1' t2' n' h' tk' F' N' l1; (try k_lt l1); (try dsimp only); (try k_sweep)))
local macro_rules | `(tactic| walk_at "call ref") => `(tactic| (k_here; (show wpAny _ _ (call (Value.ref 252) _) _ _ _); k_dflt (refine' lct_spec _ _ _ _ _ _ _ _ _ _ _ ?ga ?ga2 ?gb ?gb2 ?gc ?gc2 ?gd ?gd2 ?ge ?ge2 ?gk _ _ _ _ _ _ _ _ _ _ _ _ _ _ _ _ _ _ _ _ _ ?B ?F ?X ?N ?T ?hk ?hd ?hu (ret_TIS ?_); (case B => k_asm); (case F => k_asm); (case X => k_asm); (case N => k_asm); (case T => k_asm); (case hk => first | with_unfolding_all rfl | assumption); (case hd => (try simp only [depth_deeper]); (try dsimp only [ktrTop]); first | (with_unfolding_all decide) | omega); (case hu => (try simp only [units_deeper]); (try dsimp only [ktrTop]); first | (with_unfolding_all decide) | omega); (case ga => first | assumption | omega); (case ga2 => first | assumption | omega); (case gb => first | assumption | omega); (case gb2 => first | assumption | omega); (case gc => first | assumption | omega); (case gc2 => first | assumption | omega); (case gd => first | assumption | omega); (case gd2 => first | assumption | omega); (case ge => first | assumption | omega); (case ge2 => first | assumption | omega); (case gk => first | assumption | omega)); intro D' t1' t2' n' h' tk' F' N' l1; (try k_lt l1); (try dsimp only); (try k_sweep)))
local macro_rules | `(tactic| walk_at "eval Call Attribute") => `(tactic| (k_here; (with_reducible show wpAny _ _ (eval (Expr.Call (Expr.Attribute (Expr.Constant _ _ _) _ _) [Expr.Starred _ _] [] _) _) _ _ _); k_dflt (refine star_eval ?_)))
local macro_rules | `(tactic| walk_at "getAttr str") => `(tactic| (k_here; refine' attr_fmt ?F ?N ?_; (case F => k_asm); (case N => k_asm); intro b' h' tk' F' N' l1; (try k_lt l1); (try dsimp only)))
local macro_rules | `(tactic| walk_at "callWith ref") => `(tactic| (k_here; (with_reducible show wpAny _ _ (callWith _ (Value.ref _) [] (backTo _ (starEach [Expr.Starred _ _] _)) []) _ _ _); k_dflt (refine' star_callW (z := Str.ofString "{0} {1} {2} {3}") ?_)))
local macro_rules | `(tactic| walk_at "BndAt") => `(tactic| (exact BndAt.of (by k_asm) (by k_mem)))
local macro_rules | `(tactic| walk_at "And") => `(tactic| ((with_reducible show BndAt _ _ _ ∧ _); refine ⟨BndAt.of (by k_asm) (by k_mem), ?_⟩; (try dsimp only [List.nil_append, List.cons_append])))
local macro_rules | `(tactic| walk_at "call ref") => `(tactic| (k_here; (with_reducible show wpAny _ _ (call (Value.ref _) [Value.int _ _, Value.str _ _, Value.int _ _, Value.str _ _]) _ _ _); refine' call_bnd ?N ?m ?b1 ?b2 ?b3 ?b4 ?b5 ?b6 ?_; (case N => k_asm); (case m => k_mem); (case b1 => omega); (case b2 => omega); (case b3 => first | assumption | exact tz2_len _); (case b4 => omega); (case b5 => omega); (case b6 => first | assumption | exact haab2_len _); intro t' k'))
theorem lcs_spec (w : World) (a b c d e : Int) (t1 t2 t3 t4 t5 : Tok) (ga : 0 ≤ a) (ga2 : a < 2600000) (gb : 0 ≤ b) (gb2 : b < 1000) (gc : 0 ≤ c) (gc2 : c < 1000) (gd : 0 ≤ d) (gd2 : d < 1000) (ge : 0 ≤ e) (ge2 : e < 1000) (gk : 1790718 ≤ (a * 144000 + b * 7200 + c * 360 + d * 20 + e)) : Spec w 6 259 [.int a t1, .int b t2, .int c t3, .int d t4, .int e t5] (fun tl v => ∃ t, tl = [] ∧ v = .str (fourText (tz1 (a * 144000 + b * 7200 + c * 360 + d * 20 + e)) (tz2 (a * 144000 + b * 7200 + c * 360 + d * 20 + e)) (haab1 (a * 144000 + b * 7200 + c * 360 + d * 20 + e)) (haab2 (a * 144000 + b * 7200 + c * 360 + d * 20 + e))) t) := by
  have ek0 : 584282 + (a * 144000 + b * 7200 + c * 360 + d * 20 + e) - 584282 = (a * 144000 + b * 7200 + c * 360 + d * 20 + e) := by omega
  have hr1 := tz1_range (584282 + (a * 144000 + b * 7200 + c * 360 + d * 20 + e) - 584282)
  have hr2 := haab1_range (584282 + (a * 144000 + b * 7200 + c * 360 + d * 20 + e) - 584282)
  unfold Spec
  k_fill
  intro dp un gd cn cs aa ccd cl outer A₀ base h₀ L m₀ mean mg mb news s Q E B F X N T hk hd hu hret
  refine wpAny_call ?_
  k_dflt (refine' code_def ?k1 ?k2 ?k3 ?k4 ?k5 ?kA ?kF ?kK ?k6 ?k7 ?k8 ?k9 ?kB ?_ ?c2 ?c3 ?c4 ?c5; (case kA => exact rfl); (case kF => exact rfl); (case kK => assumption); (case k1 => k_asm); (case k2 => k_asm); (case k3 => k_asm); (case k4 => k_asm); (case k5 => k_asm); (case k6 => k_is); (case k7 => k_is); (case k8 => (try dsimp only [ktrTop]); omega); (case k9 => first | exact BindsTo.of_eq rfl | exact binds_K (by k_in) rfl (by k_is) rfl rfl rfl); (case c5 => decide); (case kB => exact locs rfl); (case c2 => exact rfl); (case c3 => exact rfl); (case c4 => exact rfl); k_whole; intro g' L' h' FG' F' N' B' X' T'; (try dsimp only); (try k_lift B'); (try k_fold))
  k_steps
  (all_goals try (with_reducible show BndAt _ _ _)); (all_goals try (exact BndAt.of (by k_asm) (by k_mem)))
  all_goals (refine' end_S hret ?e ?F ?N ?hs; (case F => k_asm); (case N => k_asm); (case hs => first | exact fun _ h => h | exact fun _ h => List.mem_cons_of_mem _ h | exact fun _ h => List.mem_cons_of_mem _ (List.mem_cons_of_mem _ h) | exact fun _ h => List.mem_cons_of_mem _ (List.mem_cons_of_mem _ (List.mem_cons_of_mem _ h)) | exact fun _ h => List.mem_cons_of_mem _ (List.mem_cons_of_mem _ (List.mem_cons_of_mem _ (List.mem_cons_of_mem _ h))) | exact fun _ h => List.mem_cons_of_mem _ (List.mem_cons_of_mem _ (List.mem_cons_of_mem _ (List.mem_cons_of_mem _ (List.mem_cons_of_mem _ h)))) | exact fun _ h => List.mem_cons_of_mem _ (List.mem_cons_of_mem _ (List.mem_cons_of_mem _ (List.mem_cons_of_mem _ (List.mem_cons_of_mem _ (List.mem_cons_of_mem _ h))))) | exact fun _ h => List.mem_cons_of_mem _ (List.mem_cons_of_mem _ (List.mem_cons_of_mem _ (List.mem_cons_of_mem _ (List.mem_cons_of_mem _ (List.mem_cons_of_mem _ (List.mem_cons_of_mem _ h)))))) | exact fun _ h => List.mem_cons_of_mem _ (List.mem_cons_of_mem _ (List.mem_cons_of_mem _ (List.mem_cons_of_mem _ (List.mem_cons_of_mem _ (List.mem_cons_of_mem _ (List.mem_cons_of_mem _ (List.mem_cons_of_mem _ h))))))) | exact fun _ h => List.mem_cons_of_mem _ (List.mem_cons_of_mem _ (List.mem_cons_of_mem _ (List.mem_cons_of_mem _ (List.mem_cons_of_mem _ (List.mem_cons_of_mem _ (List.mem_cons_of_mem _ (List.mem_cons_of_mem _ (List.mem_cons_of_mem _ h)))))))) | kcj_all); (case e => rw [ek0]))

local macro_rules | `(tactic| walk_at "call ref") => `(tactic| (k_here; (show wpAny _ _ (call (Value.ref 259) _) _ _ _); k_dflt (refine' lcs_spec _ _ _ _ _ _ _ _ _ _ _ ?ga ?ga2 ?gb ?gb2 ?gc ?gc2 ?gd ?gd2 ?ge ?ge2 ?gk _ _ _ _ _ _ _ _ _ _ _ _ _ _ _ _ _ _ _ _ _ ?B ?F ?X ?N ?T ?hk ?hd ?hu (ret_S ?_); (case B => k_asm); (case F => k_asm); (case X => k_asm); (case N => k_asm); (case T => k_asm); (case hk => first | with_unfolding_all rfl | assumption); (case hd => (try simp only [depth_deeper]); (try dsimp only [ktrTop]); first | (with_unfolding_all decide) | omega); (case hu => (try simp only [units_deeper]); (try dsimp only [ktrTop]); first | (with_unfolding_all decide) | omega); (case ga => first | assumption | omega); (case ga2 => first | assumption | omega); (case gb => first | assumption | omega); (case gb2 => first | assumption | omega); (case gc => first | assumption | omega); (case gc2 => first | assumption | omega); (case gd => first | assumption | omega); (case gd2 => first | assumption | omega); (case ge => first | assumption | omega); (case ge2 => first | assumption | omega); (case gk => first | assumption | omega)); intro t' h' tk' F' N'; (try dsimp only); (try k_sweep)))
theorem dr_loose (w : World) (y m d : Int) (q t u v : Tok) (hy : 1 ≤ y) (hy2 : y ≤ 1000002000) (h1 : 1 ≤ m) (h2 : m ≤ 12) (h3 : -100 < d) (h4 : d < 100) (hb : d < 1 ∨ dim y m < d) : SpecD w 9 287 [.str (PySem.Str.ofString "loose") q, .int y t, .int m u, .int d v] (fun tl v => ∃ D n', tl = [(D, tupOf [] n')] ∧ v = .ref D) := by
  unfold SpecD
  k_fill
  intro dp un gd cn cs a ccd cl A₀ h₀ L m₀ mean mg mb news s Q E B F X N T hk hd hu hret
  refine wpAny_call ?_
  k_dflt (refine' code_defG0 ?k1 ?k2 ?k3 ?k4 ?k5 ?kA ?kF ?kK ?k6 ?k7 ?k8 ?k9 ?kB ?_ ?c2 ?c3 ?c4 ?c5; (case kA => exact rfl); (case kF => exact rfl); (case kK => assumption); (case k1 => k_asm); (case k2 => k_asm); (case k3 => k_asm); (case k4 => k_asm); (case k5 => k_asm); (case k6 => k_is); (case k7 => k_is); (case k8 => (try dsimp only [ktrTop]); omega); (case k9 => first | exact BindsTo.of_eq rfl | exact binds_K (by k_in) rfl (by k_is) rfl rfl rfl); (case c5 => decide); (case kB => exact locs rfl); (case c2 => exact rfl); (case c3 => exact rfl); (case c4 => exact rfl); k_whole; intro g' L' h' FG' F' N' B' X' T' D'; (try dsimp only); (try k_lift B'); (try k_fold))
  k_steps
  all_goals (refine' end_T0 hret ?F ?N ?hm ?hs ?hl; (case F => k_asm); (case N => k_asm); (case hm => k_mem); (case hs => first | exact fun _ h => h | exact fun _ h => List.mem_cons_of_mem _ h | exact fun _ h => List.mem_cons_of_mem _ (List.mem_cons_of_mem _ h) | exact fun _ h => List.mem_cons_of_mem _ (List.mem_cons_of_mem _ (List.mem_cons_of_mem _ h)) | exact fun _ h => List.mem_cons_of_mem _ (List.mem_cons_of_mem _ (List.mem_cons_of_mem _ (List.mem_cons_of_mem _ h))) | exact fun _ h => List.mem_cons_of_mem _ (List.mem_cons_of_mem _ (List.mem_cons_of_mem _ (List.mem_cons_of_mem _ (List.mem_cons_of_mem _ h)))) | exact fun _ h => List.mem_cons_of_mem _ (List.mem_cons_of_mem _ (List.mem_cons_of_mem _ (List.mem_cons_of_mem _ (List.mem_cons_of_mem _ (List.mem_cons_of_mem _ h))))) | exact fun _ h => List.mem_cons_of_mem _ (List.mem_cons_of_mem _ (List.mem_cons_of_mem _ (List.mem_cons_of_mem _ (List.mem_cons_of_mem _ (List.mem_cons_of_mem _ (List.mem_cons_of_mem _ h)))))) | exact fun _ h => List.mem_cons_of_mem _ (List.mem_cons_of_mem _ (List.mem_cons_of_mem _ (List.mem_cons_of_mem _ (List.mem_cons_of_mem _ (List.mem_cons_of_mem _ (List.mem_cons_of_mem _ (List.mem_cons_of_mem _ h))))))) | exact fun _ h => List.mem_cons_of_mem _ (List.mem_cons_of_mem _ (List.mem_cons_of_mem _ (List.mem_cons_of_mem _ (List.mem_cons_of_mem _ (List.mem_cons_of_mem _ (List.mem_cons_of_mem _ (List.mem_cons_of_mem _ (List.mem_cons_of_mem _ h)))))))) | kcj_all); (case hl => first | assumption | exact ktn_ltOf (by assumption) | exact ktn_ltOf (And.right (by assumption)) | exact ktn_ltOf (And.right (And.right (by assumption))) | exact ktn_ltOf (And.right (And.right (And.right (by assumption)))) | exact ktn_ltOf (And.right (And.right (And.right (And.right (by assumption))))) | exact ktn_ltOf (And.right (And.right (And.right (And.right (And.right (by assumption)))))) | exact ktn_ltOf (And.right (And.right (And.right (And.right (And.right (And.right (by assumption)))))))))
theorem dr_fixed (w : World) (y m d : Int) (q t u v : Tok) (hy : 1 ≤ y) (hy2 : y ≤ 1000002000) (h1 : 1 ≤ m) (h2 : m ≤ 12) (h3 : -100 < d) (h4 : d < 100) (hb : d < 1 ∨ dim y m < d) : SpecD w 9 287 [.str (PySem.Str.ofString "fixed") q, .int y t, .int m u, .int d v] (fun tl v => ∃ D n', tl = [(D, tupOf [] n')] ∧ v = .ref D) := by
  unfold SpecD
  k_fill
  intro dp un gd cn cs a ccd cl A₀ h₀ L m₀ mean mg mb news s Q E B F X N T hk hd hu hret
  refine wpAny_call ?_
  k_dflt (refine' code_defG0 ?k1 ?k2 ?k3 ?k4 ?k5 ?kA ?kF ?kK ?k6 ?k7 ?k8 ?k9 ?kB ?_ ?c2 ?c3 ?c4 ?c5; (case kA => exact rfl); (case kF => exact rfl); (case kK => assumption); (case k1 => k_asm); (case k2 => k_asm); (case k3 => k_asm); (case k4 => k_asm); (case k5 => k_asm); (case k6 => k_is); (case k7 => k_is); (case k8 => (try dsimp only [ktrTop]); omega); (case k9 => first | exact BindsTo.of_eq rfl | exact binds_K (by k_in) rfl (by k_is) rfl rfl rfl); (case c5 => decide); (case kB => exact locs rfl); (case c2 => exact rfl); (case c3 => exact rfl); (case c4 => exact rfl); k_whole; intro g' L' h' FG' F' N' B' X' T' D'; (try dsimp only); (try k_lift B'); (try k_fold))
  k_steps
  all_goals (refine' end_T0 hret ?F ?N ?hm ?hs ?hl; (case F => k_asm); (case N => k_asm); (case hm => k_mem); (case hs => first | exact fun _ h => h | exact fun _ h => List.mem_cons_of_mem _ h | exact fun _ h => List.mem_cons_of_mem _ (List.mem_cons_of_mem _ h) | exact fun _ h => List.mem_cons_of_mem _ (List.mem_cons_of_mem _ (List.mem_cons_of_mem _ h)) | exact fun _ h => List.mem_cons_of_mem _ (List.mem_cons_of_mem _ (List.mem_cons_of_mem _ (List.mem_cons_of_mem _ h))) | exact fun _ h => List.mem_cons_of_mem _ (List.mem_cons_of_mem _ (List.mem_cons_of_mem _ (List.mem_cons_of_mem _ (List.mem_cons_of_mem _ h)))) | exact fun _ h => List.mem_cons_of_mem _ (List.mem_cons_of_mem _ (List.mem_cons_of_mem _ (List.mem_cons_of_mem _ (List.mem_cons_of_mem _ (List.mem_cons_of_mem _ h))))) | exact fun _ h => List.mem_cons_of_mem _ (List.mem_cons_of_mem _ (List.mem_cons_of_mem _ (List.mem_cons_of_mem _ (List.mem_cons_of_mem _ (List.mem_cons_of_mem _ (List.mem_cons_of_mem _ h)))))) | exact fun _ h => List.mem_cons_of_mem _ (List.mem_cons_of_mem _ (List.mem_cons_of_mem _ (List.mem_cons_of_mem _ (List.mem_cons_of_mem _ (List.mem_cons_of_mem _ (List.mem_cons_of_mem _ (List.mem_cons_of_mem _ h))))))) | exact fun _ h => List.mem_cons_of_mem _ (List.mem_cons_of_mem _ (List.mem_cons_of_mem _ (List.mem_cons_of_mem _ (List.mem_cons_of_mem _ (List.mem_cons_of_mem _ (List.mem_cons_of_mem _ (List.mem_cons_of_mem _ (List.mem_cons_of_mem _ h)))))))) | kcj_all); (case hl => first | assumption | exact ktn_ltOf (by assumption) | exact ktn_ltOf (And.right (by assumption)) | exact ktn_ltOf (And.right (And.right (by assumption))) | exact ktn_ltOf (And.right (And.right (And.right (by assumption)))) | exact ktn_ltOf (And.right (And.right (And.right (And.right (by assumption))))) | exact ktn_ltOf (And.right (And.right (And.right (And.right (And.right (by assumption)))))) | exact ktn_ltOf (And.right (And.right (And.right (And.right (And.right (And.right (by assumption)))))))))
theorem dr_coptic (w : World) (y m d : Int) (q t u v : Tok) (hy : 1 ≤ y) (hy2 : y ≤ 1000002000) (h1 : 1 ≤ m) (h2 : m ≤ 12) (h3 : -100 < d) (h4 : d < 100) (hb : d < 1 ∨ dim y m < d) : SpecD w 9 287 [.str (PySem.Str.ofString "coptic") q, .int y t, .int m u, .int d v] (fun tl v => ∃ D n', tl = [(D, tupOf [] n')] ∧ v = .ref D) := by
  unfold SpecD
  k_fill
  intro dp un gd cn cs a ccd cl A₀ h₀ L m₀ mean mg mb news s Q E B F X N T hk hd hu hret
  refine wpAny_call ?_
  k_dflt (refine' code_defG0 ?k1 ?k2 ?k3 ?k4 ?k5 ?kA ?kF ?kK ?k6 ?k7 ?k8 ?k9 ?kB ?_ ?c2 ?c3 ?c4 ?c5; (case kA => exact rfl); (case kF => exact rfl); (case kK => assumption); (case k1 => k_asm); (case k2 => k_asm); (case k3 => k_asm); (case k4 => k_asm); (case k5 => k_asm); (case k6 => k_is); (case k7 => k_is); (case k8 => (try dsimp only [ktrTop]); omega); (case k9 => first | exact BindsTo.of_eq rfl | exact binds_K (by k_in) rfl (by k_is) rfl rfl rfl); (case c5 => decide); (case kB => exact locs rfl); (case c2 => exact rfl); (case c3 => exact rfl); (case c4 => exact rfl); k_whole; intro g' L' h' FG' F' N' B' X' T' D'; (try dsimp only); (try k_lift B'); (try k_fold))
  k_steps
  all_goals (refine' end_T0 hret ?F ?N ?hm ?hs ?hl; (case F => k_asm); (case N => k_asm); (case hm => k_mem); (case hs => first | exact fun _ h => h | exact fun _ h => List.mem_cons_of_mem _ h | exact fun _ h => List.mem_cons_of_mem _ (List.mem_cons_of_mem _ h) | exact fun _ h => List.mem_cons_of_mem _ (List.mem_cons_of_mem _ (List.mem_cons_of_mem _ h)) | exact fun _ h => List.mem_cons_of_mem _ (List.mem_cons_of_mem _ (List.mem_cons_of_mem _ (List.mem_cons_of_mem _ h))) | exact fun _ h => List.mem_cons_of_mem _ (List.mem_cons_of_mem _ (List.mem_cons_of_mem _ (List.mem_cons_of_mem _ (List.mem_cons_of_mem _ h)))) | exact fun _ h => List.mem_cons_of_mem _ (List.mem_cons_of_mem _ (List.mem_cons_of_mem _ (List.mem_cons_of_mem _ (List.mem_cons_of_mem _ (List.mem_cons_of_mem _ h))))) | exact fun _ h => List.mem_cons_of_mem _ (List.mem_cons_of_mem _ (List.mem_cons_of_mem _ (List.mem_cons_of_mem _ (List.mem_cons_of_mem _ (List.mem_cons_of_mem _ (List.mem_cons_of_mem _ h)))))) | exact fun _ h => List.mem_cons_of_mem _ (List.mem_cons_of_mem _ (List.mem_cons_of_mem _ (List.mem_cons_of_mem _ (List.mem_cons_of_mem _ (List.mem_cons_of_mem _ (List.mem_cons_of_mem _ (List.mem_cons_of_mem _ h))))))) | exact fun _ h => List.mem_cons_of_mem _ (List.mem_cons_of_mem _ (List.mem_cons_of_mem _ (List.mem_cons_of_mem _ (List.mem_cons_of_mem _ (List.mem_cons_of_mem _ (List.mem_cons_of_mem _ (List.mem_cons_of_mem _ (List.mem_cons_of_mem _ h)))))))) | kcj_all); (case hl => first | assumption | exact ktn_ltOf (by assumption) | exact ktn_ltOf (And.right (by assumption)) | exact ktn_ltOf (And.right (And.right (by assumption))) | exact ktn_ltOf (And.right (And.right (And.right (by assumption)))) | exact ktn_ltOf (And.right (And.right (And.right (And.right (by assumption))))) | exact ktn_ltOf (And.right (And.right (And.right (And.right (And.right (by assumption)))))) | exact ktn_ltOf (And.right (And.right (And.right (And.right (And.right (And.right (by assumption)))))))))

local macro_rules | `(tactic| walk_at "call ref") => `(tactic| (k_here; (show wpAny _ _ (call (Value.ref 287) (Value.str (PySem.Str.ofString "loose") _ :: _)) _ _ _); k_dflt (refine' dr_loose _ _ _ _ _ _ _ _ ?hy ?hy2 ?h1 ?h2 ?h3 ?h4 ?hb _ _ _ _ _ _ _ _ _ _ _ _ _ _ _ _ _ _ _ ?B ?F ?X ?N ?T ?hk ?hd ?hu (ret_T0 ?_); (case B => k_asm); (case F => k_asm); (case X => k_asm); (case N => k_asm); (case T => k_asm); (case hk => first | with_unfolding_all rfl | assumption); (case hd => (try simp only [depth_deeper]); (try dsimp only [ktrTop]); first | (with_unfolding_all decide) | omega); (case hu => (try simp only [units_deeper]); (try dsimp only [ktrTop]); first | (with_unfolding_all decide) | omega); (case hy => first | assumption | omega); (case hy2 => first | assumption | omega); (case h1 => first | assumption | omega); (case h2 => first | assumption | omega); (case h3 => first | assumption | omega); (case h4 => first | assumption | omega); (case hb => first | assumption | omega)); intro D' n' h' tk' F' N' l1; (try k_lt l1); (try dsimp only); (try k_sweep)))
local macro_rules | `(tactic| walk_at "call ref") => `(tactic| (k_here; (show wpAny _ _ (call (Value.ref 287) (Value.str (PySem.Str.ofString "fixed") _ :: _)) _ _ _); k_dflt (refine' dr_fixed _ _ _ _ _ _ _ _ ?hy ?hy2 ?h1 ?h2 ?h3 ?h4 ?hb _ _ _ _ _ _ _ _ _ _ _ _ _ _ _ _ _ _ _ ?B ?F ?X ?N ?T ?hk ?hd ?hu (ret_T0 ?_); (case B => k_asm); (case F => k_asm); (case X => k_asm); (case N => k_asm); (case T => k_asm); (case hk => first | with_unfolding_all rfl | assumption); (case hd => (try simp only [depth_deeper]); (try dsimp only [ktrTop]); first | (with_unfolding_all decide) | omega); (case hu => (try simp only [units_deeper]); (try dsimp only [ktrTop]); first | (with_unfolding_all decide) | omega); (case hy => first | assumption | omega); (case hy2 => first | assumption | omega); (case h1 => first | assumption | omega); (case h2 => first | assumption | omega); (case h3 => first | assumption | omega); (case h4 => first | assumption | omega); (case hb => first | assumption | omega)); intro D' n' h' tk' F' N' l1; (try k_lt l1); (try dsimp only); (try k_sweep)))
local macro_rules | `(tactic| walk_at "call ref") => `(tactic| (k_here; (show wpAny _ _ (call (Value.ref 287) (Value.str (PySem.Str.ofString "coptic") _ :: _)) _ _ _); k_dflt (refine' dr_coptic _ _ _ _ _ _ _ _ ?hy ?hy2 ?h1 ?h2 ?h3 ?h4 ?hb _ _ _ _ _ _ _ _ _ _ _ _ _ _ _ _ _ _ _ ?B ?F ?X ?N ?T ?hk ?hd ?hu (ret_T0 ?_); (case B => k_asm); (case F => k_asm); (case X => k_asm); (case N => k_asm); (case T => k_asm); (case hk => first | with_unfolding_all rfl | assumption); (case hd => (try simp only [depth_deeper]); (try dsimp only [ktrTop]); first | (with_unfolding_all decide) | omega); (case hu => (try simp only [units_deeper]); (try dsimp only [ktrTop]); first | (with_unfolding_all decide) | omega); (case hy => first | assumption | omega); (case hy2 => first | assumption | omega); (case h1 => first | assumption | omega); (case h2 => first | assumption | omega); (case h3 => first | assumption | omega); (case h4 => first | assumption | omega); (case hb => first | assumption | omega)); intro D' n' h' tk' F' N' l1; (try k_lt l1); (try dsimp only); (try k_sweep)))
theorem dr_fourth (w : World) (y m d : Int) (q t u v : Tok) (hy : 1 ≤ y) (hy2 : y ≤ 1000002000) (h1 : 1 ≤ m) (h2 : m ≤ 12) (h3 : -100 < d) (h4 : d < 100) (hb : d < 1 ∨ dim y m < d) : SpecD w 9 287 [.str (PySem.Str.ofString "fourth") q, .int y t, .int m u, .int d v] (fun tl v => ∃ D n', tl = [(D, tupOf [] n')] ∧ v = .ref D) := by
  unfold SpecD
  k_fill
  intro dp un gd cn cs a ccd cl A₀ h₀ L m₀ mean mg mb news s Q E B F X N T hk hd hu hret
  refine wpAny_call ?_
  k_dflt (refine' code_defG0 ?k1 ?k2 ?k3 ?k4 ?k5 ?kA ?kF ?kK ?k6 ?k7 ?k8 ?k9 ?kB ?_ ?c2 ?c3 ?c4 ?c5; (case kA => exact rfl); (case kF => exact rfl); (case kK => assumption); (case k1 => k_asm); (case k2 => k_asm); (case k3 => k_asm); (case k4 => k_asm); (case k5 => k_asm); (case k6 => k_is); (case k7 => k_is); (case k8 => (try dsimp only [ktrTop]); omega); (case k9 => first | exact BindsTo.of_eq rfl | exact binds_K (by k_in) rfl (by k_is) rfl rfl rfl); (case c5 => decide); (case kB => exact locs rfl); (case c2 => exact rfl); (case c3 => exact rfl); (case c4 => exact rfl); k_whole; intro g' L' h' FG' F' N' B' X' T' D'; (try dsimp only); (try k_lift B'); (try k_fold))
  k_steps
  all_goals (refine' end_T0 hret ?F ?N ?hm ?hs ?hl; (case F => k_asm); (case N => k_asm); (case hm => k_mem); (case hs => first | exact fun _ h => h | exact fun _ h => List.mem_cons_of_mem _ h | exact fun _ h => List.mem_cons_of_mem _ (List.mem_cons_of_mem _ h) | exact fun _ h => List.mem_cons_of_mem _ (List.mem_cons_of_mem _ (List.mem_cons_of_mem _ h)) | exact fun _ h => List.mem_cons_of_mem _ (List.mem_cons_of_mem _ (List.mem_cons_of_mem _ (List.mem_cons_of_mem _ h))) | exact fun _ h => List.mem_cons_of_mem _ (List.mem_cons_of_mem _ (List.mem_cons_of_mem _ (List.mem_cons_of_mem _ (List.mem_cons_of_mem _ h)))) | exact fun _ h => List.mem_cons_of_mem _ (List.mem_cons_of_mem _ (List.mem_cons_of_mem _ (List.mem_cons_of_mem _ (List.mem_cons_of_mem _ (List.mem_cons_of_mem _ h))))) | exact fun _ h => List.mem_cons_of_mem _ (List.mem_cons_of_mem _ (List.mem_cons_of_mem _ (List.mem_cons_of_mem _ (List.mem_cons_of_mem _ (List.mem_cons_of_mem _ (List.mem_cons_of_mem _ h)))))) | exact fun _ h => List.mem_cons_of_mem _ (List.mem_cons_of_mem _ (List.mem_cons_of_mem _ (List.mem_cons_of_mem _ (List.mem_cons_of_mem _ (List.mem_cons_of_mem _ (List.mem_cons_of_mem _ (List.mem_cons_of_mem _ h))))))) | exact fun _ h => List.mem_cons_of_mem _ (List.mem_cons_of_mem _ (List.mem_cons_of_mem _ (List.mem_cons_of_mem _ (List.mem_cons_of_mem _ (List.mem_cons_of_mem _ (List.mem_cons_of_mem _ (List.mem_cons_of_mem _ (List.mem_cons_of_mem _ h)))))))) | kcj_all); (case hl => first | assumption | exact ktn_ltOf (by assumption) | exact ktn_ltOf (And.right (by assumption)) | exact ktn_ltOf (And.right (And.right (by assumption))) | exact ktn_ltOf (And.right (And.right (And.right (by assumption)))) | exact ktn_ltOf (And.right (And.right (And.right (And.right (by assumption))))) | exact ktn_ltOf (And.right (And.right (And.right (And.right (And.right (by assumption)))))) | exact ktn_ltOf (And.right (And.right (And.right (And.right (And.right (And.right (by assumption)))))))))
theorem dr_romme (w : World) (y m d : Int) (q t u v : Tok) (hy : 1 ≤ y) (hy2 : y ≤ 1000002000) (h1 : 1 ≤ m) (h2 : m ≤ 12) (h3 : -100 < d) (h4 : d < 100) (hb : d < 1 ∨ dim y m < d) : SpecD w 9 287 [.str (PySem.Str.ofString "romme") q, .int y t, .int m u, .int d v] (fun tl v => ∃ D n', tl = [(D, tupOf [] n')] ∧ v = .ref D) := by
  unfold SpecD
  k_fill
  intro dp un gd cn cs a ccd cl A₀ h₀ L m₀ mean mg mb news s Q E B F X N T hk hd hu hret
  refine wpAny_call ?_
  k_dflt (refine' code_defG0 ?k1 ?k2 ?k3 ?k4 ?k5 ?kA ?kF ?kK ?k6 ?k7 ?k8 ?k9 ?kB ?_ ?c2 ?c3 ?c4 ?c5; (case kA => exact rfl); (case kF => exact rfl); (case kK => assumption); (case k1 => k_asm); (case k2 => k_asm); (case k3 => k_asm); (case k4 => k_asm); (case k5 => k_asm); (case k6 => k_is); (case k7 => k_is); (case k8 => (try dsimp only [ktrTop]); omega); (case k9 => first | exact BindsTo.of_eq rfl | exact binds_K (by k_in) rfl (by k_is) rfl rfl rfl); (case c5 => decide); (case kB => exact locs rfl); (case c2 => exact rfl); (case c3 => exact rfl); (case c4 => exact rfl); k_whole; intro g' L' h' FG' F' N' B' X' T' D'; (try dsimp only); (try k_lift B'); (try k_fold))
  k_steps
  all_goals (refine' end_T0 hret ?F ?N ?hm ?hs ?hl; (case F => k_asm); (case N => k_asm); (case hm => k_mem); (case hs => first | exact fun _ h => h | exact fun _ h => List.mem_cons_of_mem _ h | exact fun _ h => List.mem_cons_of_mem _ (List.mem_cons_of_mem _ h) | exact fun _ h => List.mem_cons_of_mem _ (List.mem_cons_of_mem _ (List.mem_cons_of_mem _ h)) | exact fun _ h => List.mem_cons_of_mem _ (List.mem_cons_of_mem _ (List.mem_cons_of_mem _ (List.mem_cons_of_mem _ h))) | exact fun _ h => List.mem_cons_of_mem _ (List.mem_cons_of_mem _ (List.mem_cons_of_mem _ (List.mem_cons_of_mem _ (List.mem_cons_of_mem _ h)))) | exact fun _ h => List.mem_cons_of_mem _ (List.mem_cons_of_mem _ (List.mem_cons_of_mem _ (List.mem_cons_of_mem _ (List.mem_cons_of_mem _ (List.mem_cons_of_mem _ h))))) | exact fun _ h => List.mem_cons_of_mem _ (List.mem_cons_of_mem _ (List.mem_cons_of_mem _ (List.mem_cons_of_mem _ (List.mem_cons_of_mem _ (List.mem_cons_of_mem _ (List.mem_cons_of_mem _ h)))))) | exact fun _ h => List.mem_cons_of_mem _ (List.mem_cons_of_mem _ (List.mem_cons_of_mem _ (List.mem_cons_of_mem _ (List.mem_cons_of_mem _ (List.mem_cons_of_mem _ (List.mem_cons_of_mem _ (List.mem_cons_of_mem _ h))))))) | exact fun _ h => List.mem_cons_of_mem _ (List.mem_cons_of_mem _ (List.mem_cons_of_mem _ (List.mem_cons_of_mem _ (List.mem_cons_of_mem _ (List.mem_cons_of_mem _ (List.mem_cons_of_mem _ (List.mem_cons_of_mem _ (List.mem_cons_of_mem _ h)))))))) | kcj_all); (case hl => first | assumption | exact ktn_ltOf (by assumption) | exact ktn_ltOf (And.right (by assumption)) | exact ktn_ltOf (And.right (And.right (by assumption))) | exact ktn_ltOf (And.right (And.right (And.right (by assumption)))) | exact ktn_ltOf (And.right (And.right (And.right (And.right (by assumption))))) | exact ktn_ltOf (And.right (And.right (And.right (And.right (And.right (by assumption)))))) | exact ktn_ltOf (And.right (And.right (And.right (And.right (And.right (And.right (by assumption)))))))))
theorem dr_madler (w : World) (y m d : Int) (q t u v : Tok) (hy : 1 ≤ y) (hy2 : y ≤ 1000002000) (h1 : 1 ≤ m) (h2 : m ≤ 12) (h3 : -100 < d) (h4 : d < 100) (hb : d < 1 ∨ dim y m < d) : SpecD w 9 287 [.str (PySem.Str.ofString "madler") q, .int y t, .int m u, .int d v] (fun tl v => ∃ D n', tl = [(D, tupOf [] n')] ∧ v = .ref D) := by
  unfold SpecD
  k_fill
  intro dp un gd cn cs a ccd cl A₀ h₀ L m₀ mean mg mb news s Q E B F X N T hk hd hu hret
  refine wpAny_call ?_
  k_dflt (refine' code_defG0 ?k1 ?k2 ?k3 ?k4 ?k5 ?kA ?kF ?kK ?k6 ?k7 ?k8 ?k9 ?kB ?_ ?c2 ?c3 ?c4 ?c5; (case kA => exact rfl); (case kF => exact rfl); (case kK => assumption); (case k1 => k_asm); (case k2 => k_asm); (case k3 => k_asm); (case k4 => k_asm); (case k5 => k_asm); (case k6 => k_is); (case k7 => k_is); (case k8 => (try dsimp only [ktrTop]); omega); (case k9 => first | exact BindsTo.of_eq rfl | exact binds_K (by k_in) rfl (by k_is) rfl rfl rfl); (case c5 => decide); (case kB => exact locs rfl); (case c2 => exact rfl); (case c3 => exact rfl); (case c4 => exact rfl); k_whole; intro g' L' h' FG' F' N' B' X' T' D'; (try dsimp only); (try k_lift B'); (try k_fold))
  k_steps
  all_goals (refine' end_T0 hret ?F ?N ?hm ?hs ?hl; (case F => k_asm); (case N => k_asm); (case hm => k_mem); (case hs => first | exact fun _ h => h | exact fun _ h => List.mem_cons_of_mem _ h | exact fun _ h => List.mem_cons_of_mem _ (List.mem_cons_of_mem _ h) | exact fun _ h => List.mem_cons_of_mem _ (List.mem_cons_of_mem _ (List.mem_cons_of_mem _ h)) | exact fun _ h => List.mem_cons_of_mem _ (List.mem_cons_of_mem _ (List.mem_cons_of_mem _ (List.mem_cons_of_mem _ h))) | exact fun _ h => List.mem_cons_of_mem _ (List.mem_cons_of_mem _ (List.mem_cons_of_mem _ (List.mem_cons_of_mem _ (List.mem_cons_of_mem _ h)))) | exact fun _ h => List.mem_cons_of_mem _ (List.mem_cons_of_mem _ (List.mem_cons_of_mem _ (List.mem_cons_of_mem _ (List.mem_cons_of_mem _ (List.mem_cons_of_mem _ h))))) | exact fun _ h => List.mem_cons_of_mem _ (List.mem_cons_of_mem _ (List.mem_cons_of_mem _ (List.mem_cons_of_mem _ (List.mem_cons_of_mem _ (List.mem_cons_of_mem _ (List.mem_cons_of_mem _ h)))))) | exact fun _ h => List.mem_cons_of_mem _ (List.mem_cons_of_mem _ (List.mem_cons_of_mem _ (List.mem_cons_of_mem _ (List.mem_cons_of_mem _ (List.mem_cons_of_mem _ (List.mem_cons_of_mem _ (List.mem_cons_of_mem _ h))))))) | exact fun _ h => List.mem_cons_of_mem _ (List.mem_cons_of_mem _ (List.mem_cons_of_mem _ (List.mem_cons_of_mem _ (List.mem_cons_of_mem _ (List.mem_cons_of_mem _ (List.mem_cons_of_mem _ (List.mem_cons_of_mem _ (List.mem_cons_of_mem _ h)))))))) | kcj_all); (case hl => first | assumption | exact ktn_ltOf (by assumption) | exact ktn_ltOf (And.right (by assumption)) | exact ktn_ltOf (And.right (And.right (by assumption))) | exact ktn_ltOf (And.right (And.right (And.right (by assumption)))) | exact ktn_ltOf (And.right (And.right (And.right (And.right (by assumption))))) | exact ktn_ltOf (And.right (And.right (And.right (And.right (And.right (by assumption)))))) | exact ktn_ltOf (And.right (And.right (And.right (And.right (And.right (And.right (by assumption)))))))))

local macro_rules | `(tactic| walk_at "call ref") => `(tactic| (k_here; (show wpAny _ _ (call (Value.ref 287) (Value.str (PySem.Str.ofString "fourth") _ :: _)) _ _ _); k_dflt (refine' dr_fourth _ _ _ _ _ _ _ _ ?hy ?hy2 ?h1 ?h2 ?h3 ?h4 ?hb _ _ _ _ _ _ _ _ _ _ _ _ _ _ _ _ _ _ _ ?B ?F ?X ?N ?T ?hk ?hd ?hu (ret_T0 ?_); (case B => k_asm); (case F => k_asm); (case X => k_asm); (case N => k_asm); (case T => k_asm); (case hk => first | with_unfolding_all rfl | assumption); (case hd => (try simp only [depth_deeper]); (try dsimp only [ktrTop]); first | (with_unfolding_all decide) | omega); (case hu => (try simp only [units_deeper]); (try dsimp only [ktrTop]); first | (with_unfolding_all decide) | omega); (case hy => first | assumption | omega); (case hy2 => first | assumption | omega); (case h1 => first | assumption | omega); (case h2 => first | assumption | omega); (case h3 => first | assumption | omega); (case h4 => first | assumption | omega); (case hb => first | assumption | omega)); intro D' n' h' tk' F' N' l1; (try k_lt l1); (try dsimp only); (try k_sweep)))
local macro_rules | `(tactic| walk_at "call ref") => `(tactic| (k_here; (show wpAny _ _ (call (Value.ref 287) (Value.str (PySem.Str.ofString "romme") _ :: _)) _ _ _); k_dflt (refine' dr_romme _ _ _ _ _ _ _ _ ?hy ?hy2 ?h1 ?h2 ?h3 ?h4 ?hb _ _ _ _ _ _ _ _ _ _ _ _ _ _ _ _ _ _ _ ?B ?F ?X ?N ?T ?hk ?hd ?hu (ret_T0 ?_); (case B => k_asm); (case F => k_asm); (case X => k_asm); (case N => k_asm); (case T => k_asm); (case hk => first | with_unfolding_all rfl | assumption); (case hd => (try simp only [depth_deeper]); (try dsimp only [ktrTop]); first | (with_unfolding_all decide) | omega); (case hu => (try simp only [units_deeper]); (try dsimp only [ktrTop]); first | (with_unfolding_all decide) | omega); (case hy => first | assumption | omega); (case hy2 => first | assumption | omega); (case h1 => first | assumption | omega); (case h2 => first | assumption | omega); (case h3 => first | assumption | omega); (case h4 => first | assumption | omega); (case hb => first | assumption | omega)); intro D' n' h' tk' F' N' l1; (try k_lt l1); (try dsimp only); (try k_sweep)))
local macro_rules | `(tactic| walk_at "call ref") => `(tactic| (k_here; (show wpAny _ _ (call (Value.ref 287) (Value.str (PySem.Str.ofString "madler") _ :: _)) _ _ _); k_dflt (refine' dr_madler _ _ _ _ _ _ _ _ ?hy ?hy2 ?h1 ?h2 ?h3 ?h4 ?hb _ _ _ _ _ _ _ _ _ _ _ _ _ _ _ _ _ _ _ ?B ?F ?X ?N ?T ?hk ?hd ?hu (ret_T0 ?_); (case B => k_asm); (case F => k_asm); (case X => k_asm); (case N => k_asm); (case T => k_asm); (case hk => first | with_unfolding_all rfl | assumption); (case hd => (try simp only [depth_deeper]); (try dsimp only [ktrTop]); first | (with_unfolding_all decide) | omega); (case hu => (try simp only [units_deeper]); (try dsimp only [ktrTop]); first | (with_unfolding_all decide) | omega); (case hy => first | assumption | omega); (case hy2 => first | assumption | omega); (case h1 => first | assumption | omega); (case h2 => first | assumption | omega); (case h3 => first | assumption | omega); (case h4 => first | assumption | omega); (case hb => first | assumption | omega)); intro D' n' h' tk' F' N' l1; (try k_lt l1); (try dsimp only); (try k_sweep)))
theorem dr_long_count (w : World) (y m d : Int) (q t u v : Tok) (hy : 1 ≤ y) (hy2 : y ≤ 1000002000) (h1 : 1 ≤ m) (h2 : m ≤ 12) (h3 : -100 < d) (h4 : d < 100) (hb : d < 1 ∨ dim y m < d) : SpecD w 9 287 [.str (PySem.Str.ofString "long count") q, .int y t, .int m u, .int d v] (fun tl v => ∃ D n', tl = [(D, tupOf [] n')] ∧ v = .ref D) := by
  unfold SpecD
  k_fill
  intro dp un gd cn cs a ccd cl A₀ h₀ L m₀ mean mg mb news s Q E B F X N T hk hd hu hret
  refine wpAny_call ?_
  k_dflt (refine' code_defG0 ?k1 ?k2 ?k3 ?k4 ?k5 ?kA ?kF ?kK ?k6 ?k7 ?k8 ?k9 ?kB ?_ ?c2 ?c3 ?c4 ?c5; (case kA => exact rfl); (case kF => exact rfl); (case kK => assumption); (case k1 => k_asm); (case k2 => k_asm); (case k3 => k_asm); (case k4 => k_asm); (case k5 => k_asm); (case k6 => k_is); (case k7 => k_is); (case k8 => (try dsimp only [ktrTop]); omega); (case k9 => first | exact BindsTo.of_eq rfl | exact binds_K (by k_in) rfl (by k_is) rfl rfl rfl); (case c5 => decide); (case kB => exact locs rfl); (case c2 => exact rfl); (case c3 => exact rfl); (case c4 => exact rfl); k_whole; intro g' L' h' FG' F' N' B' X' T' D'; (try dsimp only); (try k_lift B'); (try k_fold))
  k_steps
  all_goals (refine' end_T0 hret ?F ?N ?hm ?hs ?hl; (case F => k_asm); (case N => k_asm); (case hm => k_mem); (case hs => first | exact fun _ h => h | exact fun _ h => List.mem_cons_of_mem _ h | exact fun _ h => List.mem_cons_of_mem _ (List.mem_cons_of_mem _ h) | exact fun _ h => List.mem_cons_of_mem _ (List.mem_cons_of_mem _ (List.mem_cons_of_mem _ h)) | exact fun _ h => List.mem_cons_of_mem _ (List.mem_cons_of_mem _ (List.mem_cons_of_mem _ (List.mem_cons_of_mem _ h))) | exact fun _ h => List.mem_cons_of_mem _ (List.mem_cons_of_mem _ (List.mem_cons_of_mem _ (List.mem_cons_of_mem _ (List.mem_cons_of_mem _ h)))) | exact fun _ h => List.mem_cons_of_mem _ (List.mem_cons_of_mem _ (List.mem_cons_of_mem _ (List.mem_cons_of_mem _ (List.mem_cons_of_mem _ (List.mem_cons_of_mem _ h))))) | exact fun _ h => List.mem_cons_of_mem _ (List.mem_cons_of_mem _ (List.mem_cons_of_mem _ (List.mem_cons_of_mem _ (List.mem_cons_of_mem _ (List.mem_cons_of_mem _ (List.mem_cons_of_mem _ h)))))) | exact fun _ h => List.mem_cons_of_mem _ (List.mem_cons_of_mem _ (List.mem_cons_of_mem _ (List.mem_cons_of_mem _ (List.mem_cons_of_mem _ (List.mem_cons_of_mem _ (List.mem_cons_of_mem _ (List.mem_cons_of_mem _ h))))))) | exact fun _ h => List.mem_cons_of_mem _ (List.mem_cons_of_mem _ (List.mem_cons_of_mem _ (List.mem_cons_of_mem _ (List.mem_cons_of_mem _ (List.mem_cons_of_mem _ (List.mem_cons_of_mem _ (List.mem_cons_of_mem _ (List.mem_cons_of_mem _ h)))))))) | kcj_all); (case hl => first | assumption | exact ktn_ltOf (by assumption) | exact ktn_ltOf (And.right (by assumption)) | exact ktn_ltOf (And.right (And.right (by assumption))) | exact ktn_ltOf (And.right (And.right (And.right (by assumption)))) | exact ktn_ltOf (And.right (And.right (And.right (And.right (by assumption))))) | exact ktn_ltOf (And.right (And.right (And.right (And.right (And.right (by assumption)))))) | exact ktn_ltOf (And.right (And.right (And.right (And.right (And.right (And.right (by assumption)))))))))
theorem dr_hebrew (w : World) (y m d : Int) (q t u v : Tok) (hy : 1 ≤ y) (hy2 : y ≤ 1000002000) (h1 : 1 ≤ m) (h2 : m ≤ 12) (h3 : -100 < d) (h4 : d < 100) (hb : d < 1 ∨ dim y m < d) : SpecD w 9 287 [.str (PySem.Str.ofString "hebrew") q, .int y t, .int m u, .int d v] (fun tl v => ∃ D n', tl = [(D, tupOf [] n')] ∧ v = .ref D) := by
  unfold SpecD
  k_fill
  intro dp un gd cn cs a ccd cl A₀ h₀ L m₀ mean mg mb news s Q E B F X N T hk hd hu hret
  refine wpAny_call ?_
  k_dflt (refine' code_defG0 ?k1 ?k2 ?k3 ?k4 ?k5 ?kA ?kF ?kK ?k6 ?k7 ?k8 ?k9 ?kB ?_ ?c2 ?c3 ?c4 ?c5; (case kA => exact rfl); (case kF => exact rfl); (case kK => assumption); (case k1 => k_asm); (case k2 => k_asm); (case k3 => k_asm); (case k4 => k_asm); (case k5 => k_asm); (case k6 => k_is); (case k7 => k_is); (case k8 => (try dsimp only [ktrTop]); omega); (case k9 => first | exact BindsTo.of_eq rfl | exact binds_K (by k_in) rfl (by k_is) rfl rfl rfl); (case c5 => decide); (case kB => exact locs rfl); (case c2 => exact rfl); (case c3 => exact rfl); (case c4 => exact rfl); k_whole; intro g' L' h' FG' F' N' B' X' T' D'; (try dsimp only); (try k_lift B'); (try k_fold))
  k_steps
  all_goals (refine' end_T0 hret ?F ?N ?hm ?hs ?hl; (case F => k_asm); (case N => k_asm); (case hm => k_mem); (case hs => first | exact fun _ h => h | exact fun _ h => List.mem_cons_of_mem _ h | exact fun _ h => List.mem_cons_of_mem _ (List.mem_cons_of_mem _ h) | exact fun _ h => List.mem_cons_of_mem _ (List.mem_cons_of_mem _ (List.mem_cons_of_mem _ h)) | exact fun _ h => List.mem_cons_of_mem _ (List.mem_cons_of_mem _ (List.mem_cons_of_mem _ (List.mem_cons_of_mem _ h))) | exact fun _ h => List.mem_cons_of_mem _ (List.mem_cons_of_mem _ (List.mem_cons_of_mem _ (List.mem_cons_of_mem _ (List.mem_cons_of_mem _ h)))) | exact fun _ h => List.mem_cons_of_mem _ (List.mem_cons_of_mem _ (List.mem_cons_of_mem _ (List.mem_cons_of_mem _ (List.mem_cons_of_mem _ (List.mem_cons_of_mem _ h))))) | exact fun _ h => List.mem_cons_of_mem _ (List.mem_cons_of_mem _ (List.mem_cons_of_mem _ (List.mem_cons_of_mem _ (List.mem_cons_of_mem _ (List.mem_cons_of_mem _ (List.mem_cons_of_mem _ h)))))) | exact fun _ h => List.mem_cons_of_mem _ (List.mem_cons_of_mem _ (List.mem_cons_of_mem _ (List.mem_cons_of_mem _ (List.mem_cons_of_mem _ (List.mem_cons_of_mem _ (List.mem_cons_of_mem _ (List.mem_cons_of_mem _ h))))))) | exact fun _ h => List.mem_cons_of_mem _ (List.mem_cons_of_mem _ (List.mem_cons_of_mem _ (List.mem_cons_of_mem _ (List.mem_cons_of_mem _ (List.mem_cons_of_mem _ (List.mem_cons_of_mem _ (List.mem_cons_of_mem _ (List.mem_cons_of_mem _ h)))))))) | kcj_all); (case hl => first | assumption | exact ktn_ltOf (by assumption) | exact ktn_ltOf (And.right (by assumption)) | exact ktn_ltOf (And.right (And.right (by assumption))) | exact ktn_ltOf (And.right (And.right (And.right (by assumption)))) | exact ktn_ltOf (And.right (And.right (And.right (And.right (by assumption))))) | exact ktn_ltOf (And.right (And.right (And.right (And.right (And.right (by assumption)))))) | exact ktn_ltOf (And.right (And.right (And.right (And.right (And.right (And.right (by assumption)))))))))
theorem dr_positivist (w : World) (y m d : Int) (q t u v : Tok) (hy : 1 ≤ y) (hy2 : y ≤ 1000002000) (h1 : 1 ≤ m) (h2 : m ≤ 12) (h3 : -100 < d) (h4 : d < 100) (hb : d < 1 ∨ dim y m < d) : SpecD w 9 287 [.str (PySem.Str.ofString "positivist") q, .int y t, .int m u, .int d v] (fun tl v => ∃ D n', tl = [(D, tupOf [] n')] ∧ v = .ref D) := by
  unfold SpecD
  k_fill
  intro dp un gd cn cs a ccd cl A₀ h₀ L m₀ mean mg mb news s Q E B F X N T hk hd hu hret
  refine wpAny_call ?_
  k_dflt (refine' code_defG0 ?k1 ?k2 ?k3 ?k4 ?k5 ?kA ?kF ?kK ?k6 ?k7 ?k8 ?k9 ?kB ?_ ?c2 ?c3 ?c4 ?c5; (case kA => exact rfl); (case kF => exact rfl); (case kK => assumption); (case k1 => k_asm); (case k2 => k_asm); (case k3 => k_asm); (case k4 => k_asm); (case k5 => k_asm); (case k6 => k_is); (case k7 => k_is); (case k8 => (try dsimp only [ktrTop]); omega); (case k9 => first | exact BindsTo.of_eq rfl | exact binds_K (by k_in) rfl (by k_is) rfl rfl rfl); (case c5 => decide); (case kB => exact locs rfl); (case c2 => exact rfl); (case c3 => exact rfl); (case c4 => exact rfl); k_whole; intro g' L' h' FG' F' N' B' X' T' D'; (try dsimp only); (try k_lift B'); (try k_fold))
  k_steps
  all_goals (refine' end_T0 hret ?F ?N ?hm ?hs ?hl; (case F => k_asm); (case N => k_asm); (case hm => k_mem); (case hs => first | exact fun _ h => h | exact fun _ h => List.mem_cons_of_mem _ h | exact fun _ h => List.mem_cons_of_mem _ (List.mem_cons_of_mem _ h) | exact fun _ h => List.mem_cons_of_mem _ (List.mem_cons_of_mem _ (List.mem_cons_of_mem _ h)) | exact fun _ h => List.mem_cons_of_mem _ (List.mem_cons_of_mem _ (List.mem_cons_of_mem _ (List.mem_cons_of_mem _ h))) | exact fun _ h => List.mem_cons_of_mem _ (List.mem_cons_of_mem _ (List.mem_cons_of_mem _ (List.mem_cons_of_mem _ (List.mem_cons_of_mem _ h)))) | exact fun _ h => List.mem_cons_of_mem _ (List.mem_cons_of_mem _ (List.mem_cons_of_mem _ (List.mem_cons_of_mem _ (List.mem_cons_of_mem _ (List.mem_cons_of_mem _ h))))) | exact fun _ h => List.mem_cons_of_mem _ (List.mem_cons_of_mem _ (List.mem_cons_of_mem _ (List.mem_cons_of_mem _ (List.mem_cons_of_mem _ (List.mem_cons_of_mem _ (List.mem_cons_of_mem _ h)))))) | exact fun _ h => List.mem_cons_of_mem _ (List.mem_cons_of_mem _ (List.mem_cons_of_mem _ (List.mem_cons_of_mem _ (List.mem_cons_of_mem _ (List.mem_cons_of_mem _ (List.mem_cons_of_mem _ (List.mem_cons_of_mem _ h))))))) | exact fun _ h => List.mem_cons_of_mem _ (List.mem_cons_of_mem _ (List.mem_cons_of_mem _ (List.mem_cons_of_mem _ (List.mem_cons_of_mem _ (List.mem_cons_of_mem _ (List.mem_cons_of_mem _ (List.mem_cons_of_mem _ (List.mem_cons_of_mem _ h)))))))) | kcj_all); (case hl => first | assumption | exact ktn_ltOf (by assumption) | exact ktn_ltOf (And.right (by assumption)) | exact ktn_ltOf (And.right (And.right (by assumption))) | exact ktn_ltOf (And.right (And.right (And.right (by assumption)))) | exact ktn_ltOf (And.right (And.right (And.right (And.right (by assumption))))) | exact ktn_ltOf (And.right (And.right (And.right (And.right (And.right (by assumption)))))) | exact ktn_ltOf (And.right (And.right (And.right (And.right (And.right (And.right (by assumption)))))))))

local macro_rules | `(tactic| walk_at "call ref") => `(tactic| (k_here; (show wpAny _ _ (call (Value.ref 287) (Value.str (PySem.Str.ofString "long count") _ :: _)) _ _ _); k_dflt (refine' dr_long_count _ _ _ _ _ _ _ _ ?hy ?hy2 ?h1 ?h2 ?h3 ?h4 ?hb _ _ _ _ _ _ _ _ _ _ _ _ _ _ _ _ _ _ _ ?B ?F ?X ?N ?T ?hk ?hd ?hu (ret_T0 ?_); (case B => k_asm); (case F => k_asm); (case X => k_asm); (case N => k_asm); (case T => k_asm); (case hk => first | with_unfolding_all rfl | assumption); (case hd => (try simp only [depth_deeper]); (try dsimp only [ktrTop]); first | (with_unfolding_all decide) | omega); (case hu => (try simp only [units_deeper]); (try dsimp only [ktrTop]); first | (with_unfolding_all decide) | omega); (case hy => first | assumption | omega); (case hy2 => first | assumption | omega); (case h1 => first | assumption | omega); (case h2 => first | assumption | omega); (case h3 => first | assumption | omega); (case h4 => first | assumption | omega); (case hb => first | assumption | omega)); intro D' n' h' tk' F' N' l1; (try k_lt l1); (try dsimp only); (try k_sweep)))
local macro_rules | `(tactic| walk_at "call ref") => `(tactic| (k_here; (show wpAny _ _ (call (Value.ref 287) (Value.str (PySem.Str.ofString "hebrew") _ :: _)) _ _ _); k_dflt (refine' dr_hebrew _ _ _ _ _ _ _ _ ?hy ?hy2 ?h1 ?h2 ?h3 ?h4 ?hb _ _ _ _ _ _ _ _ _ _ _ _ _ _ _ _ _ _ _ ?B ?F ?X ?N ?T ?hk ?hd ?hu (ret_T0 ?_); (case B => k_asm); (case F => k_asm); (case X => k_asm); (case N => k_asm); (case T => k_asm); (case hk => first | with_unfolding_all rfl | assumption); (case hd => (try simp only [depth_deeper]); (try dsimp only [ktrTop]); first | (with_unfolding_all decide) | omega); (case hu => (try simp only [units_deeper]); (try dsimp only [ktrTop]); first | (with_unfolding_all decide) | omega); (case hy => first | assumption | omega); (case hy2 => first | assumption | omega); (case h1 => first | assumption | omega); (case h2 => first | assumption | omega); (case h3 => first | assumption | omega); (case h4 => first | assumption | omega); (case hb => first | assumption | omega)); intro D' n' h' tk' F' N' l1; (try k_lt l1); (try dsimp only); (try k_sweep)))
local macro_rules | `(tactic| walk_at "call ref") => `(tactic| (k_here; (show wpAny _ _ (call (Value.ref 287) (Value.str (PySem.Str.ofString "positivist") _ :: _)) _ _ _); k_dflt (refine' dr_positivist _ _ _ _ _ _ _ _ ?hy ?hy2 ?h1 ?h2 ?h3 ?h4 ?hb _ _ _ _ _ _ _ _ _ _ _ _ _ _ _ _ _ _ _ ?B ?F ?X ?N ?T ?hk ?hd ?hu (ret_T0 ?_); (case B => k_asm); (case F => k_asm); (case X => k_asm); (case N => k_asm); (case T => k_asm); (case hk => first | with_unfolding_all rfl | assumption); (case hd => (try simp only [depth_deeper]); (try dsimp only [ktrTop]); first | (with_unfolding_all decide) | omega); (case hu => (try simp only [units_deeper]); (try dsimp only [ktrTop]); first | (with_unfolding_all decide) | omega); (case hy => first | assumption | omega); (case hy2 => first | assumption | omega); (case h1 => first | assumption | omega); (case h2 => first | assumption | omega); (case h3 => first | assumption | omega); (case h4 => first | assumption | omega); (case hb => first | assumption | omega)); intro D' n' h' tk' F' N' l1; (try k_lt l1); (try dsimp only); (try k_sweep)))
theorem do_loose (w : World) (y m d : Int) (q t u v : Tok) (hy : 1 ≤ y) (hy2 : y ≤ 1000002000) (h1 : 1 ≤ m) (h2 : m ≤ 12) (hb : 1 ≤ d) (hc : d ≤ dim y m) (hn : 2375839 ≤ jdn y m d) (hn2 : jdn y m d ≤ 400000000000) : Spec w 9 287 [.str (PySem.Str.ofString "loose") q, .int y t, .int m u, .int d v] (fun tl v => ∃ D t1 t2 t3 n', tl = [(D, tupOf [.int (loose1 (jdn y m d)) t1, .int (loose2 (jdn y m d)) t2, .int (loose3 (jdn y m d)) t3] n')] ∧ v = .ref D) := by
  unfold Spec
  k_fill
  intro dp un gd cn cs a ccd cl outer A₀ base h₀ L m₀ mean mg mb news s Q E B F X N T hk hd hu hret
  refine wpAny_call ?_
  k_dflt (refine' code_def ?k1 ?k2 ?k3 ?k4 ?k5 ?kA ?kF ?kK ?k6 ?k7 ?k8 ?k9 ?kB ?_ ?c2 ?c3 ?c4 ?c5; (case kA => exact rfl); (case kF => exact rfl); (case kK => assumption); (case k1 => k_asm); (case k2 => k_asm); (case k3 => k_asm); (case k4 => k_asm); (case k5 => k_asm); (case k6 => k_is); (case k7 => k_is); (case k8 => (try dsimp only [ktrTop]); omega); (case k9 => first | exact BindsTo.of_eq rfl | exact binds_K (by k_in) rfl (by k_is) rfl rfl rfl); (case c5 => decide); (case kB => exact locs rfl); (case c2 => exact rfl); (case c3 => exact rfl); (case c4 => exact rfl); k_whole; intro g' L' h' FG' F' N' B' X' T'; (try dsimp only); (try k_lift B'); (try k_fold))
  k_steps
  all_goals (refine' end_T3 hret ?ea ?eb ?ec ?F ?N ?hm ?hs ?hl; (case F => k_asm); (case N => k_asm); (case hm => k_mem); (case hs => first | exact fun _ h => h | exact fun _ h => List.mem_cons_of_mem _ h | exact fun _ h => List.mem_cons_of_mem _ (List.mem_cons_of_mem _ h) | exact fun _ h => List.mem_cons_of_mem _ (List.mem_cons_of_mem _ (List.mem_cons_of_mem _ h)) | exact fun _ h => List.mem_cons_of_mem _ (List.mem_cons_of_mem _ (List.mem_cons_of_mem _ (List.mem_cons_of_mem _ h))) | exact fun _ h => List.mem_cons_of_mem _ (List.mem_cons_of_mem _ (List.mem_cons_of_mem _ (List.mem_cons_of_mem _ (List.mem_cons_of_mem _ h)))) | exact fun _ h => List.mem_cons_of_mem _ (List.mem_cons_of_mem _ (List.mem_cons_of_mem _ (List.mem_cons_of_mem _ (List.mem_cons_of_mem _ (List.mem_cons_of_mem _ h))))) | exact fun _ h => List.mem_cons_of_mem _ (List.mem_cons_of_mem _ (List.mem_cons_of_mem _ (List.mem_cons_of_mem _ (List.mem_cons_of_mem _ (List.mem_cons_of_mem _ (List.mem_cons_of_mem _ h)))))) | exact fun _ h => List.mem_cons_of_mem _ (List.mem_cons_of_mem _ (List.mem_cons_of_mem _ (List.mem_cons_of_mem _ (List.mem_cons_of_mem _ (List.mem_cons_of_mem _ (List.mem_cons_of_mem _ (List.mem_cons_of_mem _ h))))))) | exact fun _ h => List.mem_cons_of_mem _ (List.mem_cons_of_mem _ (List.mem_cons_of_mem _ (List.mem_cons_of_mem _ (List.mem_cons_of_mem _ (List.mem_cons_of_mem _ (List.mem_cons_of_mem _ (List.mem_cons_of_mem _ (List.mem_cons_of_mem _ h)))))))) | kcj_all); (case hl => first | assumption | exact ktn_ltOf (by assumption) | exact ktn_ltOf (And.right (by assumption)) | exact ktn_ltOf (And.right (And.right (by assumption))) | exact ktn_ltOf (And.right (And.right (And.right (by assumption)))) | exact ktn_ltOf (And.right (And.right (And.right (And.right (by assumption))))) | exact ktn_ltOf (And.right (And.right (And.right (And.right (And.right (by assumption)))))) | exact ktn_ltOf (And.right (And.right (And.right (And.right (And.right (And.right (by assumption)))))))); (case ea => rfl); (case eb => rfl); (case ec => rfl))
theorem do_fixed (w : World) (y m d : Int) (q t u v : Tok) (hy : 1 ≤ y) (hy2 : y ≤ 1000002000) (h1 : 1 ≤ m) (h2 : m ≤ 12) (hb : 1 ≤ d) (hc : d ≤ dim y m) (hn : 2375839 ≤ jdn y m d) (hn2 : jdn y m d ≤ 400000000000) : Spec w 9 287 [.str (PySem.Str.ofString "fixed") q, .int y t, .int m u, .int d v] (fun tl v => ∃ D t1 t2 t3 n', tl = [(D, tupOf [.int (sark1 (jdn y m d)) t1, .int (sark2 (jdn y m d)) t2, .int (sark3 (jdn y m d)) t3] n')] ∧ v = .ref D) := by
  unfold Spec
  k_fill
  intro dp un gd cn cs a ccd cl outer A₀ base h₀ L m₀ mean mg mb news s Q E B F X N T hk hd hu hret
  refine wpAny_call ?_
  k_dflt (refine' code_def ?k1 ?k2 ?k3 ?k4 ?k5 ?kA ?kF ?kK ?k6 ?k7 ?k8 ?k9 ?kB ?_ ?c2 ?c3 ?c4 ?c5; (case kA => exact rfl); (case kF => exact rfl); (case kK => assumption); (case k1 => k_asm); (case k2 => k_asm); (case k3 => k_asm); (case k4 => k_asm); (case k5 => k_asm); (case k6 => k_is); (case k7 => k_is); (case k8 => (try dsimp only [ktrTop]); omega); (case k9 => first | exact BindsTo.of_eq rfl | exact binds_K (by k_in) rfl (by k_is) rfl rfl rfl); (case c5 => decide); (case kB => exact locs rfl); (case c2 => exact rfl); (case c3 => exact rfl); (case c4 => exact rfl); k_whole; intro g' L' h' FG' F' N' B' X' T'; (try dsimp only); (try k_lift B'); (try k_fold))
  k_steps
  all_goals (refine' end_T3 hret ?ea ?eb ?ec ?F ?N ?hm ?hs ?hl; (case F => k_asm); (case N => k_asm); (case hm => k_mem); (case hs => first | exact fun _ h => h | exact fun _ h => List.mem_cons_of_mem _ h | exact fun _ h => List.mem_cons_of_mem _ (List.mem_cons_of_mem _ h) | exact fun _ h => List.mem_cons_of_mem _ (List.mem_cons_of_mem _ (List.mem_cons_of_mem _ h)) | exact fun _ h => List.mem_cons_of_mem _ (List.mem_cons_of_mem _ (List.mem_cons_of_mem _ (List.mem_cons_of_mem _ h))) | exact fun _ h => List.mem_cons_of_mem _ (List.mem_cons_of_mem _ (List.mem_cons_of_mem _ (List.mem_cons_of_mem _ (List.mem_cons_of_mem _ h)))) | exact fun _ h => List.mem_cons_of_mem _ (List.mem_cons_of_mem _ (List.mem_cons_of_mem _ (List.mem_cons_of_mem _ (List.mem_cons_of_mem _ (List.mem_cons_of_mem _ h))))) | exact fun _ h => List.mem_cons_of_mem _ (List.mem_cons_of_mem _ (List.mem_cons_of_mem _ (List.mem_cons_of_mem _ (List.mem_cons_of_mem _ (List.mem_cons_of_mem _ (List.mem_cons_of_mem _ h)))))) | exact fun _ h => List.mem_cons_of_mem _ (List.mem_cons_of_mem _ (List.mem_cons_of_mem _ (List.mem_cons_of_mem _ (List.mem_cons_of_mem _ (List.mem_cons_of_mem _ (List.mem_cons_of_mem _ (List.mem_cons_of_mem _ h))))))) | exact fun _ h => List.mem_cons_of_mem _ (List.mem_cons_of_mem _ (List.mem_cons_of_mem _ (List.mem_cons_of_mem _ (List.mem_cons_of_mem _ (List.mem_cons_of_mem _ (List.mem_cons_of_mem _ (List.mem_cons_of_mem _ (List.mem_cons_of_mem _ h)))))))) | kcj_all); (case hl => first | assumption | exact ktn_ltOf (by assumption) | exact ktn_ltOf (And.right (by assumption)) | exact ktn_ltOf (And.right (And.right (by assumption))) | exact ktn_ltOf (And.right (And.right (And.right (by assumption)))) | exact ktn_ltOf (And.right (And.right (And.right (And.right (by assumption))))) | exact ktn_ltOf (And.right (And.right (And.right (And.right (And.right (by assumption)))))) | exact ktn_ltOf (And.right (And.right (And.right (And.right (And.right (And.right (by assumption)))))))); (case ea => rfl); (case eb => rfl); (case ec => rfl))

local macro_rules | `(tactic| walk_at "call ref") => `(tactic| (k_here; (show wpAny _ _ (call (Value.ref 287) (Value.str (PySem.Str.ofString "loose") _ :: _)) _ _ _); k_dflt (refine' do_loose _ _ _ _ _ _ _ _ ?hy ?hy2 ?h1 ?h2 ?hb ?hc ?hn ?hn2 _ _ _ _ _ _ _ _ _ _ _ _ _ _ _ _ _ _ _ _ _ ?B ?F ?X ?N ?T ?hk ?hd ?hu (ret_T3 ?_); (case B => k_asm); (case F => k_asm); (case X => k_asm); (case N => k_asm); (case T => k_asm); (case hk => first | with_unfolding_all rfl | assumption); (case hd => (try simp only [depth_deeper]); (try dsimp only [ktrTop]); first | (with_unfolding_all decide) | omega); (case hu => (try simp only [units_deeper]); (try dsimp only [ktrTop]); first | (with_unfolding_all decide) | omega); (case hy => first | assumption | omega); (case hy2 => first | assumption | omega); (case h1 => first | assumption | omega); (case h2 => first | assumption | omega); (case hb => first | assumption | omega); (case hc => first | assumption | omega); (case hn => first | assumption | omega); (case hn2 => first | assumption | omega)); intro D' t1' t2' t3' n' h' tk' F' N' l1; (try k_lt l1); (try dsimp only); (try k_sweep)))
local macro_rules | `(tactic| walk_at "call ref") => `(tactic| (k_here; (show wpAny _ _ (call (Value.ref 287) (Value.str (PySem.Str.ofString "fixed") _ :: _)) _ _ _); k_dflt (refine' do_fixed _ _ _ _ _ _ _ _ ?hy ?hy2 ?h1 ?h2 ?hb ?hc ?hn ?hn2 _ _ _ _ _ _ _ _ _ _ _ _ _ _ _ _ _ _ _ _ _ ?B ?F ?X ?N ?T ?hk ?hd ?hu (ret_T3 ?_); (case B => k_asm); (case F => k_asm); (case X => k_asm); (case N => k_asm); (case T => k_asm); (case hk => first | with_unfolding_all rfl | assumption); (case hd => (try simp only [depth_deeper]); (try dsimp only [ktrTop]); first | (with_unfolding_all decide) | omega); (case hu => (try simp only [units_deeper]); (try dsimp only [ktrTop]); first | (with_unfolding_all decide) | omega); (case hy => first | assumption | omega); (case hy2 => first | assumption | omega); (case h1 => first | assumption | omega); (case h2 => first | assumption | omega); (case hb => first | assumption | omega); (case hc => first | assumption | omega); (case hn => first | assumption | omega); (case hn2 => first | assumption | omega)); intro D' t1' t2' t3' n' h' tk' F' N' l1; (try k_lt l1); (try dsimp only); (try k_sweep)))
theorem do_coptic (w : World) (y m d : Int) (q t u v : Tok) (hy : 1 ≤ y) (hy2 : y ≤ 1000002000) (h1 : 1 ≤ m) (h2 : m ≤ 12) (hb : 1 ≤ d) (hc : d ≤ dim y m) (hn : 2375839 ≤ jdn y m d) (hn2 : jdn y m d ≤ 400000000000) : Spec w 9 287 [.str (PySem.Str.ofString "coptic") q, .int y t, .int m u, .int d v] (fun tl v => ∃ D t1 t2 t3 n', tl = [(D, tupOf [.int (copt1 (jdn y m d)) t1, .int (copt2 (jdn y m d)) t2, .int (copt3 (jdn y m d)) t3] n')] ∧ v = .ref D) := by
  unfold Spec
  k_fill
  intro dp un gd cn cs a ccd cl outer A₀ base h₀ L m₀ mean mg mb news s Q E B F X N T hk hd hu hret
  refine wpAny_call ?_
  k_dflt (refine' code_def ?k1 ?k2 ?k3 ?k4 ?k5 ?kA ?kF ?kK ?k6 ?k7 ?k8 ?k9 ?kB ?_ ?c2 ?c3 ?c4 ?c5; (case kA => exact rfl); (case kF => exact rfl); (case kK => assumption); (case k1 => k_asm); (case k2 => k_asm); (case k3 => k_asm); (case k4 => k_asm); (case k5 => k_asm); (case k6 => k_is); (case k7 => k_is); (case k8 => (try dsimp only [ktrTop]); omega); (case k9 => first | exact BindsTo.of_eq rfl | exact binds_K (by k_in) rfl (by k_is) rfl rfl rfl); (case c5 => decide); (case kB => exact locs rfl); (case c2 => exact rfl); (case c3 => exact rfl); (case c4 => exact rfl); k_whole; intro g' L' h' FG' F' N' B' X' T'; (try dsimp only); (try k_lift B'); (try k_fold))
  k_steps
  all_goals (refine' end_T3 hret ?ea ?eb ?ec ?F ?N ?hm ?hs ?hl; (case F => k_asm); (case N => k_asm); (case hm => k_mem); (case hs => first | exact fun _ h => h | exact fun _ h => List.mem_cons_of_mem _ h | exact fun _ h => List.mem_cons_of_mem _ (List.mem_cons_of_mem _ h) | exact fun _ h => List.mem_cons_of_mem _ (List.mem_cons_of_mem _ (List.mem_cons_of_mem _ h)) | exact fun _ h => List.mem_cons_of_mem _ (List.mem_cons_of_mem _ (List.mem_cons_of_mem _ (List.mem_cons_of_mem _ h))) | exact fun _ h => List.mem_cons_of_mem _ (List.mem_cons_of_mem _ (List.mem_cons_of_mem _ (List.mem_cons_of_mem _ (List.mem_cons_of_mem _ h)))) | exact fun _ h => List.mem_cons_of_mem _ (List.mem_cons_of_mem _ (List.mem_cons_of_mem _ (List.mem_cons_of_mem _ (List.mem_cons_of_mem _ (List.mem_cons_of_mem _ h))))) | exact fun _ h => List.mem_cons_of_mem _ (List.mem_cons_of_mem _ (List.mem_cons_of_mem _ (List.mem_cons_of_mem _ (List.mem_cons_of_mem _ (List.mem_cons_of_mem _ (List.mem_cons_of_mem _ h)))))) | exact fun _ h => List.mem_cons_of_mem _ (List.mem_cons_of_mem _ (List.mem_cons_of_mem _ (List.mem_cons_of_mem _ (List.mem_cons_of_mem _ (List.mem_cons_of_mem _ (List.mem_cons_of_mem _ (List.mem_cons_of_mem _ h))))))) | exact fun _ h => List.mem_cons_of_mem _ (List.mem_cons_of_mem _ (List.mem_cons_of_mem _ (List.mem_cons_of_mem _ (List.mem_cons_of_mem _ (List.mem_cons_of_mem _ (List.mem_cons_of_mem _ (List.mem_cons_of_mem _ (List.mem_cons_of_mem _ h)))))))) | kcj_all); (case hl => first | assumption | exact ktn_ltOf (by assumption) | exact ktn_ltOf (And.right (by assumption)) | exact ktn_ltOf (And.right (And.right (by assumption))) | exact ktn_ltOf (And.right (And.right (And.right (by assumption)))) | exact ktn_ltOf (And.right (And.right (And.right (And.right (by assumption))))) | exact ktn_ltOf (And.right (And.right (And.right (And.right (And.right (by assumption)))))) | exact ktn_ltOf (And.right (And.right (And.right (And.right (And.right (And.right (by assumption)))))))); (case ea => rfl); (case eb => rfl); (case ec => rfl))
theorem do_fourth (w : World) (y m d : Int) (q t u v : Tok) (hy : 1 ≤ y) (hy2 : y ≤ 1000002000) (h1 : 1 ≤ m) (h2 : m ≤ 12) (hb : 1 ≤ d) (hc : d ≤ dim y m) (hn : 2375839 ≤ jdn y m d) (hn2 : jdn y m d ≤ 400000000000) : Spec w 9 287 [.str (PySem.Str.ofString "fourth") q, .int y t, .int m u, .int d v] (fun tl v => ∃ D t1 t2 t3 n', tl = [(D, tupOf [.int (freY (-1) (jdn y m d - 2375839 + 365)) t1, .int (freM (jdn y m d - 2375839 + 365)) t2, .int (freD (jdn y m d - 2375839 + 365)) t3] n')] ∧ v = .ref D) := by
  unfold Spec
  k_fill
  intro dp un gd cn cs a ccd cl outer A₀ base h₀ L m₀ mean mg mb news s Q E B F X N T hk hd hu hret
  refine wpAny_call ?_
  k_dflt (refine' code_def ?k1 ?k2 ?k3 ?k4 ?k5 ?kA ?kF ?kK ?k6 ?k7 ?k8 ?k9 ?kB ?_ ?c2 ?c3 ?c4 ?c5; (case kA => exact rfl); (case kF => exact rfl); (case kK => assumption); (case k1 => k_asm); (case k2 => k_asm); (case k3 => k_asm); (case k4 => k_asm); (case k5 => k_asm); (case k6 => k_is); (case k7 => k_is); (case k8 => (try dsimp only [ktrTop]); omega); (case k9 => first | exact BindsTo.of_eq rfl | exact binds_K (by k_in) rfl (by k_is) rfl rfl rfl); (case c5 => decide); (case kB => exact locs rfl); (case c2 => exact rfl); (case c3 => exact rfl); (case c4 => exact rfl); k_whole; intro g' L' h' FG' F' N' B' X' T'; (try dsimp only); (try k_lift B'); (try k_fold))
  k_steps
  all_goals (refine' end_T3 hret ?ea ?eb ?ec ?F ?N ?hm ?hs ?hl; (case F => k_asm); (case N => k_asm); (case hm => k_mem); (case hs => first | exact fun _ h => h | exact fun _ h => List.mem_cons_of_mem _ h | exact fun _ h => List.mem_cons_of_mem _ (List.mem_cons_of_mem _ h) | exact fun _ h => List.mem_cons_of_mem _ (List.mem_cons_of_mem _ (List.mem_cons_of_mem _ h)) | exact fun _ h => List.mem_cons_of_mem _ (List.mem_cons_of_mem _ (List.mem_cons_of_mem _ (List.mem_cons_of_mem _ h))) | exact fun _ h => List.mem_cons_of_mem _ (List.mem_cons_of_mem _ (List.mem_cons_of_mem _ (List.mem_cons_of_mem _ (List.mem_cons_of_mem _ h)))) | exact fun _ h => List.mem_cons_of_mem _ (List.mem_cons_of_mem _ (List.mem_cons_of_mem _ (List.mem_cons_of_mem _ (List.mem_cons_of_mem _ (List.mem_cons_of_mem _ h))))) | exact fun _ h => List.mem_cons_of_mem _ (List.mem_cons_of_mem _ (List.mem_cons_of_mem _ (List.mem_cons_of_mem _ (List.mem_cons_of_mem _ (List.mem_cons_of_mem _ (List.mem_cons_of_mem _ h)))))) | exact fun _ h => List.mem_cons_of_mem _ (List.mem_cons_of_mem _ (List.mem_cons_of_mem _ (List.mem_cons_of_mem _ (List.mem_cons_of_mem _ (List.mem_cons_of_mem _ (List.mem_cons_of_mem _ (List.mem_cons_of_mem _ h))))))) | exact fun _ h => List.mem_cons_of_mem _ (List.mem_cons_of_mem _ (List.mem_cons_of_mem _ (List.mem_cons_of_mem _ (List.mem_cons_of_mem _ (List.mem_cons_of_mem _ (List.mem_cons_of_mem _ (List.mem_cons_of_mem _ (List.mem_cons_of_mem _ h)))))))) | kcj_all); (case hl => first | assumption | exact ktn_ltOf (by assumption) | exact ktn_ltOf (And.right (by assumption)) | exact ktn_ltOf (And.right (And.right (by assumption))) | exact ktn_ltOf (And.right (And.right (And.right (by assumption)))) | exact ktn_ltOf (And.right (And.right (And.right (And.right (by assumption))))) | exact ktn_ltOf (And.right (And.right (And.right (And.right (And.right (by assumption)))))) | exact ktn_ltOf (And.right (And.right (And.right (And.right (And.right (And.right (by assumption)))))))); (case ea => rfl); (case eb => rfl); (case ec => rfl))

local macro_rules | `(tactic| walk_at "call ref") => `(tactic| (k_here; (show wpAny _ _ (call (Value.ref 287) (Value.str (PySem.Str.ofString "coptic") _ :: _)) _ _ _); k_dflt (refine' do_coptic _ _ _ _ _ _ _ _ ?hy ?hy2 ?h1 ?h2 ?hb ?hc ?hn ?hn2 _ _ _ _ _ _ _ _ _ _ _ _ _ _ _ _ _ _ _ _ _ ?B ?F ?X ?N ?T ?hk ?hd ?hu (ret_T3 ?_); (case B => k_asm); (case F => k_asm); (case X => k_asm); (case N => k_asm); (case T => k_asm); (case hk => first | with_unfolding_all rfl | assumption); (case hd => (try simp only [depth_deeper]); (try dsimp only [ktrTop]); first | (with_unfolding_all decide) | omega); (case hu => (try simp only [units_deeper]); (try dsimp only [ktrTop]); first | (with_unfolding_all decide) | omega); (case hy => first | assumption | omega); (case hy2 => first | assumption | omega); (case h1 => first | assumption | omega); (case h2 => first | assumption | omega); (case hb => first | assumption | omega); (case hc => first | assumption | omega); (case hn => first | assumption | omega); (case hn2 => first | assumption | omega)); intro D' t1' t2' t3' n' h' tk' F' N' l1; (try k_lt l1); (try dsimp only); (try k_sweep)))
local macro_rules | `(tactic| walk_at "call ref") => `(tactic| (k_here; (show wpAny _ _ (call (Value.ref 287) (Value.str (PySem.Str.ofString "fourth") _ :: _)) _ _ _); k_dflt (refine' do_fourth _ _ _ _ _ _ _ _ ?hy ?hy2 ?h1 ?h2 ?hb ?hc ?hn ?hn2 _ _ _ _ _ _ _ _ _ _ _ _ _ _ _ _ _ _ _ _ _ ?B ?F ?X ?N ?T ?hk ?hd ?hu (ret_T3 ?_); (case B => k_asm); (case F => k_asm); (case X => k_asm); (case N => k_asm); (case T => k_asm); (case hk => first | with_unfolding_all rfl | assumption); (case hd => (try simp only [depth_deeper]); (try dsimp only [ktrTop]); first | (with_unfolding_all decide) | omega); (case hu => (try simp only [units_deeper]); (try dsimp only [ktrTop]); first | (with_unfolding_all decide) | omega); (case hy => first | assumption | omega); (case hy2 => first | assumption | omega); (case h1 => first | assumption | omega); (case h2 => first | assumption | omega); (case hb => first | assumption | omega); (case hc => first | assumption | omega); (case hn => first | assumption | omega); (case hn2 => first | assumption | omega)); intro D' t1' t2' t3' n' h' tk' F' N' l1; (try k_lt l1); (try dsimp only); (try k_sweep)))
theorem do_romme (w : World) (y m d : Int) (q t u v : Tok) (hy : 1 ≤ y) (hy2 : y ≤ 1000002000) (h1 : 1 ≤ m) (h2 : m ≤ 12) (hb : 1 ≤ d) (hc : d ≤ dim y m) (hn : 2375839 ≤ jdn y m d) (hn2 : jdn y m d ≤ 400000000000) : Spec w 9 287 [.str (PySem.Str.ofString "romme") q, .int y t, .int m u, .int d v] (fun tl v => ∃ D t1 t2 t3 n', tl = [(D, tupOf [.int (freY (romB' (jdn y m d)) (romJ' (jdn y m d))) t1, .int (freM (romJ' (jdn y m d))) t2, .int (freD (romJ' (jdn y m d))) t3] n')] ∧ v = .ref D) := by
  unfold Spec
  k_fill
  intro dp un gd cn cs a ccd cl outer A₀ base h₀ L m₀ mean mg mb news s Q E B F X N T hk hd hu hret
  refine wpAny_call ?_
  k_dflt (refine' code_def ?k1 ?k2 ?k3 ?k4 ?k5 ?kA ?kF ?kK ?k6 ?k7 ?k8 ?k9 ?kB ?_ ?c2 ?c3 ?c4 ?c5; (case kA => exact rfl); (case kF => exact rfl); (case kK => assumption); (case k1 => k_asm); (case k2 => k_asm); (case k3 => k_asm); (case k4 => k_asm); (case k5 => k_asm); (case k6 => k_is); (case k7 => k_is); (case k8 => (try dsimp only [ktrTop]); omega); (case k9 => first | exact BindsTo.of_eq rfl | exact binds_K (by k_in) rfl (by k_is) rfl rfl rfl); (case c5 => decide); (case kB => exact locs rfl); (case c2 => exact rfl); (case c3 => exact rfl); (case c4 => exact rfl); k_whole; intro g' L' h' FG' F' N' B' X' T'; (try dsimp only); (try k_lift B'); (try k_fold))
  k_steps
  all_goals (refine' end_T3 hret ?ea ?eb ?ec ?F ?N ?hm ?hs ?hl; (case F => k_asm); (case N => k_asm); (case hm => k_mem); (case hs => first | exact fun _ h => h | exact fun _ h => List.mem_cons_of_mem _ h | exact fun _ h => List.mem_cons_of_mem _ (List.mem_cons_of_mem _ h) | exact fun _ h => List.mem_cons_of_mem _ (List.mem_cons_of_mem _ (List.mem_cons_of_mem _ h)) | exact fun _ h => List.mem_cons_of_mem _ (List.mem_cons_of_mem _ (List.mem_cons_of_mem _ (List.mem_cons_of_mem _ h))) | exact fun _ h => List.mem_cons_of_mem _ (List.mem_cons_of_mem _ (List.mem_cons_of_mem _ (List.mem_cons_of_mem _ (List.mem_cons_of_mem _ h)))) | exact fun _ h => List.mem_cons_of_mem _ (List.mem_cons_of_mem _ (List.mem_cons_of_mem _ (List.mem_cons_of_mem _ (List.mem_cons_of_mem _ (List.mem_cons_of_mem _ h))))) | exact fun _ h => List.mem_cons_of_mem _ (List.mem_cons_of_mem _ (List.mem_cons_of_mem _ (List.mem_cons_of_mem _ (List.mem_cons_of_mem _ (List.mem_cons_of_mem _ (List.mem_cons_of_mem _ h)))))) | exact fun _ h => List.mem_cons_of_mem _ (List.mem_cons_of_mem _ (List.mem_cons_of_mem _ (List.mem_cons_of_mem _ (List.mem_cons_of_mem _ (List.mem_cons_of_mem _ (List.mem_cons_of_mem _ (List.mem_cons_of_mem _ h))))))) | exact fun _ h => List.mem_cons_of_mem _ (List.mem_cons_of_mem _ (List.mem_cons_of_mem _ (List.mem_cons_of_mem _ (List.mem_cons_of_mem _ (List.mem_cons_of_mem _ (List.mem_cons_of_mem _ (List.mem_cons_of_mem _ (List.mem_cons_of_mem _ h)))))))) | kcj_all); (case hl => first | assumption | exact ktn_ltOf (by assumption) | exact ktn_ltOf (And.right (by assumption)) | exact ktn_ltOf (And.right (And.right (by assumption))) | exact ktn_ltOf (And.right (And.right (And.right (by assumption)))) | exact ktn_ltOf (And.right (And.right (And.right (And.right (by assumption))))) | exact ktn_ltOf (And.right (And.right (And.right (And.right (And.right (by assumption)))))) | exact ktn_ltOf (And.right (And.right (And.right (And.right (And.right (And.right (by assumption)))))))); (case ea => rfl); (case eb => rfl); (case ec => rfl))
theorem do_madler (w : World) (y m d : Int) (q t u v : Tok) (hy : 1 ≤ y) (hy2 : y ≤ 1000002000) (h1 : 1 ≤ m) (h2 : m ≤ 12) (hb : 1 ≤ d) (hc : d ≤ dim y m) (hn : 2375839 ≤ jdn y m d) (hn2 : jdn y m d ≤ 400000000000) : Spec w 9 287 [.str (PySem.Str.ofString "madler") q, .int y t, .int m u, .int d v] (fun tl v => ∃ D t1 t2 t3 n', tl = [(D, tupOf [.int (freY (madB' (jdn y m d)) (madJ' (jdn y m d))) t1, .int (freM (madJ' (jdn y m d))) t2, .int (freD (madJ' (jdn y m d))) t3] n')] ∧ v = .ref D) := by
  unfold Spec
  k_fill
  intro dp un gd cn cs a ccd cl outer A₀ base h₀ L m₀ mean mg mb news s Q E B F X N T hk hd hu hret
  refine wpAny_call ?_
  k_dflt (refine' code_def ?k1 ?k2 ?k3 ?k4 ?k5 ?kA ?kF ?kK ?k6 ?k7 ?k8 ?k9 ?kB ?_ ?c2 ?c3 ?c4 ?c5; (case kA => exact rfl); (case kF => exact rfl); (case kK => assumption); (case k1 => k_asm); (case k2 => k_asm); (case k3 => k_asm); (case k4 => k_asm); (case k5 => k_asm); (case k6 => k_is); (case k7 => k_is); (case k8 => (try dsimp only [ktrTop]); omega); (case k9 => first | exact BindsTo.of_eq rfl | exact binds_K (by k_in) rfl (by k_is) rfl rfl rfl); (case c5 => decide); (case kB => exact locs rfl); (case c2 => exact rfl); (case c3 => exact rfl); (case c4 => exact rfl); k_whole; intro g' L' h' FG' F' N' B' X' T'; (try dsimp only); (try k_lift B'); (try k_fold))
  k_steps
  all_goals (refine' end_T3 hret ?ea ?eb ?ec ?F ?N ?hm ?hs ?hl; (case F => k_asm); (case N => k_asm); (case hm => k_mem); (case hs => first | exact fun _ h => h | exact fun _ h => List.mem_cons_of_mem _ h | exact fun _ h => List.mem_cons_of_mem _ (List.mem_cons_of_mem _ h) | exact fun _ h => List.mem_cons_of_mem _ (List.mem_cons_of_mem _ (List.mem_cons_of_mem _ h)) | exact fun _ h => List.mem_cons_of_mem _ (List.mem_cons_of_mem _ (List.mem_cons_of_mem _ (List.mem_cons_of_mem _ h))) | exact fun _ h => List.mem_cons_of_mem _ (List.mem_cons_of_mem _ (List.mem_cons_of_mem _ (List.mem_cons_of_mem _ (List.mem_cons_of_mem _ h)))) | exact fun _ h => List.mem_cons_of_mem _ (List.mem_cons_of_mem _ (List.mem_cons_of_mem _ (List.mem_cons_of_mem _ (List.mem_cons_of_mem _ (List.mem_cons_of_mem _ h))))) | exact fun _ h => List.mem_cons_of_mem _ (List.mem_cons_of_mem _ (List.mem_cons_of_mem _ (List.mem_cons_of_mem _ (List.mem_cons_of_mem _ (List.mem_cons_of_mem _ (List.mem_cons_of_mem _ h)))))) | exact fun _ h => List.mem_cons_of_mem _ (List.mem_cons_of_mem _ (List.mem_cons_of_mem _ (List.mem_cons_of_mem _ (List.mem_cons_of_mem _ (List.mem_cons_of_mem _ (List.mem_cons_of_mem _ (List.mem_cons_of_mem _ h))))))) | exact fun _ h => List.mem_cons_of_mem _ (List.mem_cons_of_mem _ (List.mem_cons_of_mem _ (List.mem_cons_of_mem _ (List.mem_cons_of_mem _ (List.mem_cons_of_mem _ (List.mem_cons_of_mem _ (List.mem_cons_of_mem _ (List.mem_cons_of_mem _ h)))))))) | kcj_all); (case hl => first | assumption | exact ktn_ltOf (by assumption) | exact ktn_ltOf (And.right (by assumption)) | exact ktn_ltOf (And.right (And.right (by assumption))) | exact ktn_ltOf (And.right (And.right (And.right (by assumption)))) | exact ktn_ltOf (And.right (And.right (And.right (And.right (by assumption))))) | exact ktn_ltOf (And.right (And.right (And.right (And.right (And.right (by assumption)))))) | exact ktn_ltOf (And.right (And.right (And.right (And.right (And.right (And.right (by assumption)))))))); (case ea => rfl); (case eb => rfl); (case ec => rfl))
theorem do_long_count (w : World) (y m d : Int) (q t u v : Tok) (hy : 1 ≤ y) (hy2 : y ≤ 1000002000) (h1 : 1 ≤ m) (h2 : m ≤ 12) (hb : 1 ≤ d) (hc : d ≤ dim y m) (hn : 2375839 ≤ jdn y m d) (hn2 : jdn y m d ≤ 400000000000) : Spec w 9 287 [.str (PySem.Str.ofString "long count") q, .int y t, .int m u, .int d v] (fun tl v => ∃ D t1 t2 t3 t4 t5 n', tl = [(D, tupOf [.int ((jdn y m d - 584282) / 144000) t1, .int ((jdn y m d - 584282) % 144000 / 7200) t2, .int ((jdn y m d - 584282) % 7200 / 360) t3, .int ((jdn y m d - 584282) % 360 / 20) t4, .int ((jdn y m d - 584282) % 20) t5] n')] ∧ v = .ref D) := by
  unfold Spec
  k_fill
  intro dp un gd cn cs a ccd cl outer A₀ base h₀ L m₀ mean mg mb news s Q E B F X N T hk hd hu hret
  refine wpAny_call ?_
  k_dflt (refine' code_def ?k1 ?k2 ?k3 ?k4 ?k5 ?kA ?kF ?kK ?k6 ?k7 ?k8 ?k9 ?kB ?_ ?c2 ?c3 ?c4 ?c5; (case kA => exact rfl); (case kF => exact rfl); (case kK => assumption); (case k1 => k_asm); (case k2 => k_asm); (case k3 => k_asm); (case k4 => k_asm); (case k5 => k_asm); (case k6 => k_is); (case k7 => k_is); (case k8 => (try dsimp only [ktrTop]); omega); (case k9 => first | exact BindsTo.of_eq rfl | exact binds_K (by k_in) rfl (by k_is) rfl rfl rfl); (case c5 => decide); (case kB => exact locs rfl); (case c2 => exact rfl); (case c3 => exact rfl); (case c4 => exact rfl); k_whole; intro g' L' h' FG' F' N' B' X' T'; (try dsimp only); (try k_lift B'); (try k_fold))
  k_steps
  all_goals (refine' end_T5 hret ?ea ?eb ?ec ?ed ?ee ?F ?N ?hm ?hs ?hl; (case F => k_asm); (case N => k_asm); (case hm => k_mem); (case hs => first | exact fun _ h => h | exact fun _ h => List.mem_cons_of_mem _ h | exact fun _ h => List.mem_cons_of_mem _ (List.mem_cons_of_mem _ h) | exact fun _ h => List.mem_cons_of_mem _ (List.mem_cons_of_mem _ (List.mem_cons_of_mem _ h)) | exact fun _ h => List.mem_cons_of_mem _ (List.mem_cons_of_mem _ (List.mem_cons_of_mem _ (List.mem_cons_of_mem _ h))) | exact fun _ h => List.mem_cons_of_mem _ (List.mem_cons_of_mem _ (List.mem_cons_of_mem _ (List.mem_cons_of_mem _ (List.mem_cons_of_mem _ h)))) | exact fun _ h => List.mem_cons_of_mem _ (List.mem_cons_of_mem _ (List.mem_cons_of_mem _ (List.mem_cons_of_mem _ (List.mem_cons_of_mem _ (List.mem_cons_of_mem _ h))))) | exact fun _ h => List.mem_cons_of_mem _ (List.mem_cons_of_mem _ (List.mem_cons_of_mem _ (List.mem_cons_of_mem _ (List.mem_cons_of_mem _ (List.mem_cons_of_mem _ (List.mem_cons_of_mem _ h)))))) | exact fun _ h => List.mem_cons_of_mem _ (List.mem_cons_of_mem _ (List.mem_cons_of_mem _ (List.mem_cons_of_mem _ (List.mem_cons_of_mem _ (List.mem_cons_of_mem _ (List.mem_cons_of_mem _ (List.mem_cons_of_mem _ h))))))) | exact fun _ h => List.mem_cons_of_mem _ (List.mem_cons_of_mem _ (List.mem_cons_of_mem _ (List.mem_cons_of_mem _ (List.mem_cons_of_mem _ (List.mem_cons_of_mem _ (List.mem_cons_of_mem _ (List.mem_cons_of_mem _ (List.mem_cons_of_mem _ h)))))))) | kcj_all); (case hl => first | assumption | exact ktn_ltOf (by assumption) | exact ktn_ltOf (And.right (by assumption)) | exact ktn_ltOf (And.right (And.right (by assumption))) | exact ktn_ltOf (And.right (And.right (And.right (by assumption)))) | exact ktn_ltOf (And.right (And.right (And.right (And.right (by assumption))))) | exact ktn_ltOf (And.right (And.right (And.right (And.right (And.right (by assumption)))))) | exact ktn_ltOf (And.right (And.right (And.right (And.right (And.right (And.right (by assumption)))))))); (case ea => rfl); (case eb => rfl); (case ec => rfl); (case ed => rfl); (case ee => rfl))

local macro_rules | `(tactic| walk_at "call ref") => `(tactic| (k_here; (show wpAny _ _ (call (Value.ref 287) (Value.str (PySem.Str.ofString "romme") _ :: _)) _ _ _); k_dflt (refine' do_romme _ _ _ _ _ _ _ _ ?hy ?hy2 ?h1 ?h2 ?hb ?hc ?hn ?hn2 _ _ _ _ _ _ _ _ _ _ _ _ _ _ _ _ _ _ _ _ _ ?B ?F ?X ?N ?T ?hk ?hd ?hu (ret_T3 ?_); (case B => k_asm); (case F => k_asm); (case X => k_asm); (case N => k_asm); (case T => k_asm); (case hk => first | with_unfolding_all rfl | assumption); (case hd => (try simp only [depth_deeper]); (try dsimp only [ktrTop]); first | (with_unfolding_all decide) | omega); (case hu => (try simp only [units_deeper]); (try dsimp only [ktrTop]); first | (with_unfolding_all decide) | omega); (case hy => first | assumption | omega); (case hy2 => first | assumption | omega); (case h1 => first | assumption | omega); (case h2 => first | assumption | omega); (case hb => first | assumption | omega); (case hc => first | assumption | omega); (case hn => first | assumption | omega); (case hn2 => first | assumption | omega)); intro D' t1' t2' t3' n' h' tk' F' N' l1; (try k_lt l1); (try dsimp only); (try k_sweep)))
local macro_rules | `(tactic| walk_at "call ref") => `(tactic| (k_here; (show wpAny _ _ (call (Value.ref 287) (Value.str (PySem.Str.ofString "madler") _ :: _)) _ _ _); k_dflt (refine' do_madler _ _ _ _ _ _ _ _ ?hy ?hy2 ?h1 ?h2 ?hb ?hc ?hn ?hn2 _ _ _ _ _ _ _ _ _ _ _ _ _ _ _ _ _ _ _ _ _ ?B ?F ?X ?N ?T ?hk ?hd ?hu (ret_T3 ?_); (case B => k_asm); (case F => k_asm); (case X => k_asm); (case N => k_asm); (case T => k_asm); (case hk => first | with_unfolding_all rfl | assumption); (case hd => (try simp only [depth_deeper]); (try dsimp only [ktrTop]); first | (with_unfolding_all decide) | omega); (case hu => (try simp only [units_deeper]); (try dsimp only [ktrTop]); first | (with_unfolding_all decide) | omega); (case hy => first | assumption | omega); (case hy2 => first | assumption | omega); (case h1 => first | assumption | omega); (case h2 => first | assumption | omega); (case hb => first | assumption | omega); (case hc => first | assumption | omega); (case hn => first | assumption | omega); (case hn2 => first | assumption | omega)); intro D' t1' t2' t3' n' h' tk' F' N' l1; (try k_lt l1); (try dsimp only); (try k_sweep)))
local macro_rules | `(tactic| walk_at "call ref") => `(tactic| (k_here; (show wpAny _ _ (call (Value.ref 287) (Value.str (PySem.Str.ofString "long count") _ :: _)) _ _ _); k_dflt (refine' do_long_count _ _ _ _ _ _ _ _ ?hy ?hy2 ?h1 ?h2 ?hb ?hc ?hn ?hn2 _ _ _ _ _ _ _ _ _ _ _ _ _ _ _ _ _ _ _ _ _ ?B ?F ?X ?N ?T ?hk ?hd ?hu (ret_T5 ?_); (case B => k_asm); (case F => k_asm); (case X => k_asm); (case N => k_asm); (case T => k_asm); (case hk => first | with_unfolding_all rfl | assumption); (case hd => (try simp only [depth_deeper]); (try dsimp only [ktrTop]); first | (with_unfolding_all decide) | omega); (case hu => (try simp only [units_deeper]); (try dsimp only [ktrTop]); first | (with_unfolding_all decide) | omega); (case hy => first | assumption | omega); (case hy2 => first | assumption | omega); (case h1 => first | assumption | omega); (case h2 => first | assumption | omega); (case hb => first | assumption | omega); (case hc => first | assumption | omega); (case hn => first | assumption | omega); (case hn2 => first | assumption | omega)); intro D' t1' t2' t3' t4' t5' n' h' tk' F' N' l1; (try k_lt l1); (try dsimp only); (try k_sweep)))
theorem date_spec (w : World) (y p : Int) (t u : Tok) (gy : -10000000000000 < y) (gy2 : y < 10000000000000) (gp : -10000000 < p) (gp2 : p < 10000000) : Spec w 1 294 [.int y t, .int p u] (fun tl v => ∃ D t1 t2 t3 n', tl = [(D, tupOf [.int (y) t1, .int ((p - 1) / 30 + 1) t2, .int ((p - 1) % 30 + 1) t3] n')] ∧ v = .ref D) := by
  unfold Spec
  k_fill
  intro dp un gd cn cs a ccd cl outer A₀ base h₀ L m₀ mean mg mb news s Q E B F X N T hk hd hu hret
  refine wpAny_call ?_
  k_dflt (refine' code_def ?k1 ?k2 ?k3 ?k4 ?k5 ?kA ?kF ?kK ?k6 ?k7 ?k8 ?k9 ?kB ?_ ?c2 ?c3 ?c4 ?c5; (case kA => exact rfl); (case kF => exact rfl); (case kK => assumption); (case k1 => k_asm); (case k2 => k_asm); (case k3 => k_asm); (case k4 => k_asm); (case k5 => k_asm); (case k6 => k_is); (case k7 => k_is); (case k8 => (try dsimp only [ktrTop]); omega); (case k9 => first | exact BindsTo.of_eq rfl | exact binds_K (by k_in) rfl (by k_is) rfl rfl rfl); (case c5 => decide); (case kB => exact locs rfl); (case c2 => exact rfl); (case c3 => exact rfl); (case c4 => exact rfl); k_whole; intro g' L' h' FG' F' N' B' X' T'; (try dsimp only); (try k_lift B'); (try k_fold))
  k_steps
  all_goals (refine' end_T3 hret ?ea ?eb ?ec ?F ?N ?hm ?hs ?hl; (case F => k_asm); (case N => k_asm); (case hm => k_mem); (case hs => first | exact fun _ h => h | exact fun _ h => List.mem_cons_of_mem _ h | exact fun _ h => List.mem_cons_of_mem _ (List.mem_cons_of_mem _ h) | exact fun _ h => List.mem_cons_of_mem _ (List.mem_cons_of_mem _ (List.mem_cons_of_mem _ h)) | exact fun _ h => List.mem_cons_of_mem _ (List.mem_cons_of_mem _ (List.mem_cons_of_mem _ (List.mem_cons_of_mem _ h))) | exact fun _ h => List.mem_cons_of_mem _ (List.mem_cons_of_mem _ (List.mem_cons_of_mem _ (List.mem_cons_of_mem _ (List.mem_cons_of_mem _ h)))) | exact fun _ h => List.mem_cons_of_mem _ (List.mem_cons_of_mem _ (List.mem_cons_of_mem _ (List.mem_cons_of_mem _ (List.mem_cons_of_mem _ (List.mem_cons_of_mem _ h))))) | exact fun _ h => List.mem_cons_of_mem _ (List.mem_cons_of_mem _ (List.mem_cons_of_mem _ (List.mem_cons_of_mem _ (List.mem_cons_of_mem _ (List.mem_cons_of_mem _ (List.mem_cons_of_mem _ h)))))) | exact fun _ h => List.mem_cons_of_mem _ (List.mem_cons_of_mem _ (List.mem_cons_of_mem _ (List.mem_cons_of_mem _ (List.mem_cons_of_mem _ (List.mem_cons_of_mem _ (List.mem_cons_of_mem _ (List.mem_cons_of_mem _ h))))))) | exact fun _ h => List.mem_cons_of_mem _ (List.mem_cons_of_mem _ (List.mem_cons_of_mem _ (List.mem_cons_of_mem _ (List.mem_cons_of_mem _ (List.mem_cons_of_mem _ (List.mem_cons_of_mem _ (List.mem_cons_of_mem _ (List.mem_cons_of_mem _ h)))))))) | kcj_all); (case hl => first | assumption | exact ktn_ltOf (by assumption) | exact ktn_ltOf (And.right (by assumption)) | exact ktn_ltOf (And.right (And.right (by assumption))) | exact ktn_ltOf (And.right (And.right (And.right (by assumption)))) | exact ktn_ltOf (And.right (And.right (And.right (And.right (by assumption))))) | exact ktn_ltOf (And.right (And.right (And.right (And.right (And.right (by assumption)))))) | exact ktn_ltOf (And.right (And.right (And.right (And.right (And.right (And.right (by assumption)))))))); (case ea => rfl); (case eb => rfl); (case ec => rfl))

local macro_rules | `(tactic| walk_at "call ref") => `(tactic| (k_here; (show wpAny _ _ (call (Value.ref 294) _) _ _ _); k_dflt (refine' date_spec _ _ _ _ _ ?gy ?gy2 ?gp ?gp2 _ _ _ _ _ _ _ _ _ _ _ _ _ _ _ _ _ _ _ _ _ ?B ?F ?X ?N ?T ?hk ?hd ?hu (ret_T3 ?_); (case B => k_asm); (case F => k_asm); (case X => k_asm); (case N => k_asm); (case T => k_asm); (case hk => first | with_unfolding_all rfl | assumption); (case hd => (try simp only [depth_deeper]); (try dsimp only [ktrTop]); first | (with_unfolding_all decide) | omega); (case hu => (try simp only [units_deeper]); (try dsimp only [ktrTop]); first | (with_unfolding_all decide) | omega); (case gy => first | assumption | omega); (case gy2 => first | assumption | omega); (case gp => first | assumption | omega); (case gp2 => first | assumption | omega)); intro D' t1' t2' t3' n' h' tk' F' N' l1; (try k_lt l1); (try dsimp only); (try k_sweep)))
theorem days_spec (w : World) (y : Int) (t : Tok) (gy : -10000000000000 < y) (gy2 : y < 10000000000000) : Spec w 1 301 [.int y t] (fun tl v => ∃ t, tl = [] ∧ v = .int (daysI y) t) := by
  unfold Spec
  k_fill
  intro dp un gd cn cs a ccd cl outer A₀ base h₀ L m₀ mean mg mb news s Q E B F X N T hk hd hu hret
  refine wpAny_call ?_
  k_dflt (refine' code_def ?k1 ?k2 ?k3 ?k4 ?k5 ?kA ?kF ?kK ?k6 ?k7 ?k8 ?k9 ?kB ?_ ?c2 ?c3 ?c4 ?c5; (case kA => exact rfl); (case kF => exact rfl); (case kK => assumption); (case k1 => k_asm); (case k2 => k_asm); (case k3 => k_asm); (case k4 => k_asm); (case k5 => k_asm); (case k6 => k_is); (case k7 => k_is); (case k8 => (try dsimp only [ktrTop]); omega); (case k9 => first | exact BindsTo.of_eq rfl | exact binds_K (by k_in) rfl (by k_is) rfl rfl rfl); (case c5 => decide); (case kB => exact locs rfl); (case c2 => exact rfl); (case c3 => exact rfl); (case c4 => exact rfl); k_whole; intro g' L' h' FG' F' N' B' X' T'; (try dsimp only); (try k_lift B'); (try k_fold))
  k_steps
  all_goals (refine' end_I hret ?e ?F ?N ?hs; (case F => k_asm); (case N => k_asm); (case hs => first | exact fun _ h => h | exact fun _ h => List.mem_cons_of_mem _ h | exact fun _ h => List.mem_cons_of_mem _ (List.mem_cons_of_mem _ h) | exact fun _ h => List.mem_cons_of_mem _ (List.mem_cons_of_mem _ (List.mem_cons_of_mem _ h)) | exact fun _ h => List.mem_cons_of_mem _ (List.mem_cons_of_mem _ (List.mem_cons_of_mem _ (List.mem_cons_of_mem _ h))) | exact fun _ h => List.mem_cons_of_mem _ (List.mem_cons_of_mem _ (List.mem_cons_of_mem _ (List.mem_cons_of_mem _ (List.mem_cons_of_mem _ h)))) | exact fun _ h => List.mem_cons_of_mem _ (List.mem_cons_of_mem _ (List.mem_cons_of_mem _ (List.mem_cons_of_mem _ (List.mem_cons_of_mem _ (List.mem_cons_of_mem _ h))))) | exact fun _ h => List.mem_cons_of_mem _ (List.mem_cons_of_mem _ (List.mem_cons_of_mem _ (List.mem_cons_of_mem _ (List.mem_cons_of_mem _ (List.mem_cons_of_mem _ (List.mem_cons_of_mem _ h)))))) | exact fun _ h => List.mem_cons_of_mem _ (List.mem_cons_of_mem _ (List.mem_cons_of_mem _ (List.mem_cons_of_mem _ (List.mem_cons_of_mem _ (List.mem_cons_of_mem _ (List.mem_cons_of_mem _ (List.mem_cons_of_mem _ h))))))) | exact fun _ h => List.mem_cons_of_mem _ (List.mem_cons_of_mem _ (List.mem_cons_of_mem _ (List.mem_cons_of_mem _ (List.mem_cons_of_mem _ (List.mem_cons_of_mem _ (List.mem_cons_of_mem _ (List.mem_cons_of_mem _ (List.mem_cons_of_mem _ h)))))))) | kcj_all); (case e => unfold daysI; (repeat' split) <;> omega))

local macro_rules | `(tactic| walk_at "call ref") => `(tactic| (k_here; (show wpAny _ _ (call (Value.ref 301) _) _ _ _); k_dflt (refine' days_spec _ _ _ ?gy ?gy2 _ _ _ _ _ _ _ _ _ _ _ _ _ _ _ _ _ _ _ _ _ ?B ?F ?X ?N ?T ?hk ?hd ?hu (ret_I ?_); (case B => k_asm); (case F => k_asm); (case X => k_asm); (case N => k_asm); (case T => k_asm); (case hk => first | with_unfolding_all rfl | assumption); (case hd => (try simp only [depth_deeper]); (try dsimp only [ktrTop]); first | (with_unfolding_all decide) | omega); (case hu => (try simp only [units_deeper]); (try dsimp only [ktrTop]); first | (with_unfolding_all decide) | omega); (case gy => first | assumption | omega); (case gy2 => first | assumption | omega)); intro t' h' tk' F' N'; (try dsimp only); (try k_sweep)))
theorem mov_spec (w : World) (y p b : Int) (t u v : Tok) (gy : -1000000000000 < y) (gy2 : y < 1000000000000) (gp : -1000000 < p) (gp2 : p < 1000000) (gb : 0 ≤ b) (gb2 : b < 1000) : Spec w 2 308 [.int y t, .int p u, .int b v] (fun tl v => ∃ D t1 t2 n', tl = [(D, tupOf [.int (movY y p b) t1, .int (movP y p b) t2] n')] ∧ v = .ref D) := by
  unfold Spec
  k_fill
  intro dp un gd cn cs a ccd cl outer A₀ base h₀ L m₀ mean mg mb news s Q E B F X N T hk hd hu hret
  refine wpAny_call ?_
  k_dflt (refine' code_def ?k1 ?k2 ?k3 ?k4 ?k5 ?kA ?kF ?kK ?k6 ?k7 ?k8 ?k9 ?kB ?_ ?c2 ?c3 ?c4 ?c5; (case kA => exact rfl); (case kF => exact rfl); (case kK => assumption); (case k1 => k_asm); (case k2 => k_asm); (case k3 => k_asm); (case k4 => k_asm); (case k5 => k_asm); (case k6 => k_is); (case k7 => k_is); (case k8 => (try dsimp only [ktrTop]); omega); (case k9 => first | exact BindsTo.of_eq rfl | exact binds_K (by k_in) rfl (by k_is) rfl rfl rfl); (case c5 => decide); (case kB => exact locs rfl); (case c2 => exact rfl); (case c3 => exact rfl); (case c4 => exact rfl); k_whole; intro g' L' h' FG' F' N' B' X' T'; (try dsimp only); (try k_lift B'); (try k_fold))
  k_steps
  all_goals (refine' end_T2 hret ?ea ?eb ?F ?N ?hm ?hs ?hl; (case F => k_asm); (case N => k_asm); (case hm => k_mem); (case hs => first | exact fun _ h => h | exact fun _ h => List.mem_cons_of_mem _ h | exact fun _ h => List.mem_cons_of_mem _ (List.mem_cons_of_mem _ h) | exact fun _ h => List.mem_cons_of_mem _ (List.mem_cons_of_mem _ (List.mem_cons_of_mem _ h)) | exact fun _ h => List.mem_cons_of_mem _ (List.mem_cons_of_mem _ (List.mem_cons_of_mem _ (List.mem_cons_of_mem _ h))) | exact fun _ h => List.mem_cons_of_mem _ (List.mem_cons_of_mem _ (List.mem_cons_of_mem _ (List.mem_cons_of_mem _ (List.mem_cons_of_mem _ h)))) | exact fun _ h => List.mem_cons_of_mem _ (List.mem_cons_of_mem _ (List.mem_cons_of_mem _ (List.mem_cons_of_mem _ (List.mem_cons_of_mem _ (List.mem_cons_of_mem _ h))))) | exact fun _ h => List.mem_cons_of_mem _ (List.mem_cons_of_mem _ (List.mem_cons_of_mem _ (List.mem_cons_of_mem _ (List.mem_cons_of_mem _ (List.mem_cons_of_mem _ (List.mem_cons_of_mem _ h)))))) | exact fun _ h => List.mem_cons_of_mem _ (List.mem_cons_of_mem _ (List.mem_cons_of_mem _ (List.mem_cons_of_mem _ (List.mem_cons_of_mem _ (List.mem_cons_of_mem _ (List.mem_cons_of_mem _ (List.mem_cons_of_mem _ h))))))) | exact fun _ h => List.mem_cons_of_mem _ (List.mem_cons_of_mem _ (List.mem_cons_of_mem _ (List.mem_cons_of_mem _ (List.mem_cons_of_mem _ (List.mem_cons_of_mem _ (List.mem_cons_of_mem _ (List.mem_cons_of_mem _ (List.mem_cons_of_mem _ h)))))))) | kcj_all); (case hl => first | assumption | exact ktn_ltOf (by assumption) | exact ktn_ltOf (And.right (by assumption)) | exact ktn_ltOf (And.right (And.right (by assumption))) | exact ktn_ltOf (And.right (And.right (And.right (by assumption)))) | exact ktn_ltOf (And.right (And.right (And.right (And.right (by assumption))))) | exact ktn_ltOf (And.right (And.right (And.right (And.right (And.right (by assumption)))))) | exact ktn_ltOf (And.right (And.right (And.right (And.right (And.right (And.right (by assumption)))))))); (case ea => unfold movY; (repeat' split) <;> omega); (case eb => unfold movP; (repeat' split) <;> omega))

local macro_rules | `(tactic| walk_at "call ref") => `(tactic| (k_here; (show wpAny _ _ (call (Value.ref 308) _) _ _ _); k_dflt (refine' mov_spec _ _ _ _ _ _ _ ?gy ?gy2 ?gp ?gp2 ?gb ?gb2 _ _ _ _ _ _ _ _ _ _ _ _ _ _ _ _ _ _ _ _ _ ?B ?F ?X ?N ?T ?hk ?hd ?hu (ret_T2 ?_); (case B => k_asm); (case F => k_asm); (case X => k_asm); (case N => k_asm); (case T => k_asm); (case hk => first | with_unfolding_all rfl | assumption); (case hd => (try simp only [depth_deeper]); (try dsimp only [ktrTop]); first | (with_unfolding_all decide) | omega); (case hu => (try simp only [units_deeper]); (try dsimp only [ktrTop]); first | (with_unfolding_all decide) | omega); (case gy => first | assumption | omega); (case gy2 => first | assumption | omega); (case gp => first | assumption | omega); (case gp2 => first | assumption | omega); (case gb => first | assumption | omega); (case gb2 => first | assumption | omega)); intro D' t1' t2' n' h' tk' F' N' l1; (try k_lt l1); (try dsimp only); (try k_sweep)))
theorem ahe_spec (w : World) (y p b : Int) (t u v : Tok) (gy : -1000000000000 < y) (gy2 : y < 1000000000000) (gp : -1000000 < p) (gp2 : p < 1000000) (gb : 0 ≤ b) (gb2 : b < 1000) : Spec w 2 315 [.int y t, .int p u, .int b v] (fun tl v => ∃ D t1 t2 t3 n', tl = [(D, tupOf [.int (aheY y p b) t1, .int ((aheP y p b - 1) / 30 + 1) t2, .int ((aheP y p b - 1) % 30 + 1) t3] n')] ∧ v = .ref D) := by
  unfold Spec
  k_fill
  intro dp un gd cn cs a ccd cl outer A₀ base h₀ L m₀ mean mg mb news s Q E B F X N T hk hd hu hret
  refine wpAny_call ?_
  k_dflt (refine' code_def ?k1 ?k2 ?k3 ?k4 ?k5 ?kA ?kF ?kK ?k6 ?k7 ?k8 ?k9 ?kB ?_ ?c2 ?c3 ?c4 ?c5; (case kA => exact rfl); (case kF => exact rfl); (case kK => assumption); (case k1 => k_asm); (case k2 => k_asm); (case k3 => k_asm); (case k4 => k_asm); (case k5 => k_asm); (case k6 => k_is); (case k7 => k_is); (case k8 => (try dsimp only [ktrTop]); omega); (case k9 => first | exact BindsTo.of_eq rfl | exact binds_K (by k_in) rfl (by k_is) rfl rfl rfl); (case c5 => decide); (case kB => exact locs rfl); (case c2 => exact rfl); (case c3 => exact rfl); (case c4 => exact rfl); k_whole; intro g' L' h' FG' F' N' B' X' T'; (try dsimp only); (try k_lift B'); (try k_fold))
  k_steps
  all_goals (refine' end_T3 hret ?ea ?eb ?ec ?F ?N ?hm ?hs ?hl; (case F => k_asm); (case N => k_asm); (case hm => k_mem); (case hs => first | exact fun _ h => h | exact fun _ h => List.mem_cons_of_mem _ h | exact fun _ h => List.mem_cons_of_mem _ (List.mem_cons_of_mem _ h) | exact fun _ h => List.mem_cons_of_mem _ (List.mem_cons_of_mem _ (List.mem_cons_of_mem _ h)) | exact fun _ h => List.mem_cons_of_mem _ (List.mem_cons_of_mem _ (List.mem_cons_of_mem _ (List.mem_cons_of_mem _ h))) | exact fun _ h => List.mem_cons_of_mem _ (List.mem_cons_of_mem _ (List.mem_cons_of_mem _ (List.mem_cons_of_mem _ (List.mem_cons_of_mem _ h)))) | exact fun _ h => List.mem_cons_of_mem _ (List.mem_cons_of_mem _ (List.mem_cons_of_mem _ (List.mem_cons_of_mem _ (List.mem_cons_of_mem _ (List.mem_cons_of_mem _ h))))) | exact fun _ h => List.mem_cons_of_mem _ (List.mem_cons_of_mem _ (List.mem_cons_of_mem _ (List.mem_cons_of_mem _ (List.mem_cons_of_mem _ (List.mem_cons_of_mem _ (List.mem_cons_of_mem _ h)))))) | exact fun _ h => List.mem_cons_of_mem _ (List.mem_cons_of_mem _ (List.mem_cons_of_mem _ (List.mem_cons_of_mem _ (List.mem_cons_of_mem _ (List.mem_cons_of_mem _ (List.mem_cons_of_mem _ (List.mem_cons_of_mem _ h))))))) | exact fun _ h => List.mem_cons_of_mem _ (List.mem_cons_of_mem _ (List.mem_cons_of_mem _ (List.mem_cons_of_mem _ (List.mem_cons_of_mem _ (List.mem_cons_of_mem _ (List.mem_cons_of_mem _ (List.mem_cons_of_mem _ (List.mem_cons_of_mem _ h)))))))) | kcj_all); (case hl => first | assumption | exact ktn_ltOf (by assumption) | exact ktn_ltOf (And.right (by assumption)) | exact ktn_ltOf (And.right (And.right (by assumption))) | exact ktn_ltOf (And.right (And.right (And.right (by assumption)))) | exact ktn_ltOf (And.right (And.right (And.right (And.right (by assumption))))) | exact ktn_ltOf (And.right (And.right (And.right (And.right (And.right (by assumption)))))) | exact ktn_ltOf (And.right (And.right (And.right (And.right (And.right (And.right (by assumption)))))))); (case ea => simp only [aheY, aheP]; (repeat' split) <;> omega); (case eb => simp only [aheY, aheP]; (repeat' split) <;> omega); (case ec => simp only [aheY, aheP]; (repeat' split) <;> omega))

local macro_rules | `(tactic| walk_at "call ref") => `(tactic| (k_here; (show wpAny _ _ (call (Value.ref 315) _) _ _ _); k_dflt (refine' ahe_spec _ _ _ _ _ _ _ ?gy ?gy2 ?gp ?gp2 ?gb ?gb2 _ _ _ _ _ _ _ _ _ _ _ _ _ _ _ _ _ _ _ _ _ ?B ?F ?X ?N ?T ?hk ?hd ?hu (ret_T3 ?_); (case B => k_asm); (case F => k_asm); (case X => k_asm); (case N => k_asm); (case T => k_asm); (case hk => first | with_unfolding_all rfl | assumption); (case hd => (try simp only [depth_deeper]); (try dsimp only [ktrTop]); first | (with_unfolding_all decide) | omega); (case hu => (try simp only [units_deeper]); (try dsimp only [ktrTop]); first | (with_unfolding_all decide) | omega); (case gy => first | assumption | omega); (case gy2 => first | assumption | omega); (case gp => first | assumption | omega); (case gp2 => first | assumption | omega); (case gb => first | assumption | omega); (case gb2 => first | assumption | omega)); intro D' t1' t2' t3' n' h' tk' F' N' l1; (try k_lt l1); (try dsimp only); (try k_sweep)))
local macro_rules | `(tactic| walk_at "binaryOp Mod int int") => `(tactic| (k_here; first | ((with_reducible show wpAny _ _ (binaryOp _ (Value.int _ _) (Value.int 1000000000 _)) _ _ _); refine' r_mod_year ?_; intro r' hr1 hr2 hr3; (try dsimp only)) | ((with_reducible show wpAny _ _ (binaryOp _ (Value.int _ _) (Value.int 12 _)) _ _ _); refine' r_mod_month ?_; intro r' hr1 hr2 hr3 hr4; (try dsimp only)) | ((with_reducible show wpAny _ _ (binaryOp _ (Value.int _ _) (Value.int 50 _)) _ _ _); refine' r_mod_any ?b ?_; (case b => decide); intro r' hr1 hr2; (try dsimp only))))
local macro_rules | `(tactic| walk_at "call builtin:divmod") => `(tactic| (k_here; refine' divmod_day ?F ?N ?a1 ?a2 ?a3 ?a4 ?_; (case F => k_asm); (case N => k_asm); (case a1 => assumption); (case a2 => assumption); (case a3 => assumption); (case a4 => assumption); intro D' q' r' t1' t2' h' tk' hr1 hr2 hr3 hr4 hr5 hr6 l1 F' N'; (try k_lt l1); (try dsimp only); (try k_sweep)))
local macro_rules | `(tactic| walk_at "eval IfExp") => `(tactic| (k_here; (with_reducible show wpAny _ _ (eval (Expr.IfExp (Expr.BoolOp _ _ _) _ _ _) _) _ _ _); k_dflt (refine' join_feb ?N ?c ?m ?d ?inner ?_; (case N => k_asm); (case c => rfl); (case m => k_mem); (case d => k_asm)); (case inner => (intro Q' hQ'; with_reducible refine IfExp_ ?_; (repeat' (first | (k_unfold; (try dsimp only)) | walk1 | fail "no step")); all_goals first | exact feb_yes hQ' (leap_A (by assumption) (by assumption)) | exact feb_yes hQ' (leap_B (by assumption)) | exact feb_no hQ' (leap_C (by assumption) (by assumption)) | exact feb_no hQ' (leap_D (by assumption)))); intro t' tk'; (try dsimp only)))
local macro_rules | `(tactic| walk_at "eval IfExp") => `(tactic| (k_here; (with_reducible show wpAny _ _ (eval (Expr.IfExp (Expr.Compare _ _ _ _) _ _ _) _) _ _ _); k_dflt (refine' join_miss ?F ?v ?inner ?_; (case F => k_asm); (case v => rfl)); (case inner => (intro Q' hQ'; with_reducible refine IfExp_ ?_; (repeat' (first | (k_unfold; (try dsimp only)) | walk1 | fail "no step")); all_goals first | exact miss_hi hQ' (by assumption) (by assumption) (by assumption) (by assumption) | exact miss_lo hQ' (by assumption) (by assumption))); intro x' t' tk' hx1 hx2 hx3; (try dsimp only)))
local macro_rules | `(tactic| walk_at "storeName") => `(tactic| (k_here; refine' store_len ?a ?b ?_; (case a => assumption); (case b => assumption); intro hl1 hl2))
local macro_rules | `(tactic| walk_at "loadName") => `(tactic| (k_here; k_dflt (first | (refine' loadX_C ?N ?c ?m ?d ?_ ?a ?b; (case a => rfl); (case b => rfl); (case N => k_asm); (case c => rfl); (case m => k_mem); (case d => k_asm)) | (refine' loadX_L ?F ?v ?_ ?a ?b; (case F => k_asm); (case a => rfl); (case b => rfl); (case v => rfl)))))
local macro_rules | `(tactic| walk_at "exec For Name Call cons nil") => `(tactic| (k_here; (rename Fr _ _ _ _ => lF'); (with_unfolding_all refine' For_invVF lF' ?k1 ?k2 ?_; (case k1 => exact rfl); (case k2 => exact rfl); k_whole)))
local macro_rules | `(tactic| walk_at "pyIter ref") => `(tactic| (k_here; (with_reducible show wpAny _ _ (pyIter (Value.ref _)) (fun it s₂ => LoopAtV _ _ _ _ _ _ _ _ _ it s₂) _ _); (with_unfolding_all refine' list_inv ?hh ?F ?N ?m ?c ?d ?fin ?step; (case hh => rfl); (case F => k_asm); (case N => k_asm); (case m => k_mem); (case c => rfl); (case d => rfl); (case' step => refine ⟨?_, ?_, ?_, ?_, ?_, ?_, ?_, ?_, ?_, True.intro⟩)); (case' fin => (intro v' h' tk' F' N'; (try dsimp only))); (all_goals try (intro I' it' h' tk' hit' hI' F' N'; (have l1 := hI'); (try k_lt l1); (try dsimp only)))))
local macro_rules | `(tactic| walk_at "last pyIter ref") => `(tactic| (k_here; (with_reducible show wpAny _ _ (pyIter (Value.ref _)) (fun it s₂ => LoopAtV _ _ _ _ _ _ _ _ _ it s₂) _ _); (with_unfolding_all refine' list_inv ?hh ?F ?N ?m ?c ?d ?fin ?step; (case hh => rfl); (case F => k_asm); (case N => k_asm); (case m => k_mem); (case c => rfl); (case d => rfl); (case' step => refine ⟨?_, ?_, ?_, ?_, ?_, ?_, ?_, ?_, ?_, True.intro⟩)); (case' fin => (intro v' h' tk' F' N'; (try dsimp only))); (all_goals try (intro I' it' h' tk' hit' hI' F' N'; (have l1 := hI'); (try k_lt l1); (try dsimp only)))))
local macro_rules | `(tactic| walk_at "UnrEnd") => `(tactic| (k_here; refine' keep_end ?hI ?F ?N ?i ?s ?m; (case hI => assumption); (case F => k_asm); (case N => k_asm); (case i => k_mem); (case s => kcj_all); (case m => (intro y hy; simp only [hy, if_false]))))
local macro_rules | `(tactic| walk_at "exec Assign cons DictComp") => `(tactic| (k_here; k_dflt (refine' assign_dcomp (knd := strKind _ _) ?F ?sw ?cl ?ce ?ki ?na ?x ?y ?p ?_; (case F => k_asm); (case sw => rfl); (case cl => with_unfolding_all rfl); (case ce => decide); (case ki => rfl); (case na => decide); (case x => rfl); (case y => rfl); (case p => rfl))))
local macro_rules | `(tactic| walk_at "DSrc") => `(tactic| (k_here; k_dflt (refine' DSrc.of ?hh ?F ?N ?m ?s ?_; (case hh => rfl); (case F => k_asm); (case N => k_asm); (case m => k_mem); (case s => first | size_fits | exact Nat.le_of_ble_eq_true rfl)); intro g'))
local macro_rules | `(tactic| walk_at "DRestL") => `(tactic| (k_here; with_unfolding_all first | (refine DRestL.succ ?_; intro I' oI' C' oC' D' oD' m' h' tk' E' hC' hx' hD' F' N' off' ne') | (refine DRestL.zero ?_; intro D' oD' h' tk' hD' F' N' off')))
local macro_rules | `(tactic| walk_at "DEnd") => `(tactic| (k_here; k_dflt (refine' dend ?F ?N ?l ?o ?S ?k ?_; (case F => k_asm); (case N => k_asm); (case l => assumption); (case o => assumption); (case S => exact Or.inr ⟨_, by k_mem, rfl, _, rfl⟩); (case k => exact strKind_is _ _ _ _))))
local macro_rules | `(tactic| walk_at "eval Call") => `(tactic| (k_here; (with_reducible show wpAny _ _ (eval (Expr.Call (Expr.Name _ _) _ [] _) _) _ _ _); k_dflt (refine Call_ ?_)))
local macro_rules | `(tactic| walk_at "execs cons") => `(tactic| (k_here; (with_reducible show wpAny _ _ (execs (Stmt.Assign [Expr.Name (PySem.Str.ofString "place") _] _ _ :: _) _) _ _ _); k_dflt (refine' TailP_use ?h ?p0 ?p1 ?p2 ?p3 ?p4 ?p5 ?p6 ?p7 ?p8 ?p9 ?p10 ?p11 ?p12 ?F ?fm0 ?fm1 ?fm2 ?fm3 ?fm4 ?N ?u0 ?u1 ?u2 ?u3 ?u4 ?u5 ?u6 ?u7 ?u8 ?u9 ?u10 ?u11 ?u12 ?es; (case h => assumption); (case F => k_asm); (case N => k_asm); (case fm0 => rfl); (case fm1 => rfl); (case fm2 => rfl); (case fm3 => rfl); (case fm4 => rfl); (case u0 => k_mem); (case p12 => assumption); (case u1 => k_mem); (case u2 => k_mem); (case u3 => k_mem); (case u4 => k_mem); (case u5 => k_mem); (case u6 => k_mem); (case u7 => k_mem); (case u8 => k_mem); (case u9 => k_mem); (case u10 => k_mem); (case u11 => k_mem); (case u12 => k_mem); (case p0 => k_asm); (case p1 => k_asm); (case p2 => k_asm); (case p3 => assumption); (case p4 => assumption); (case p5 => assumption); (case p6 => assumption); (case p7 => exact lt4 (by assumption)); (case p8 => assumption); (case p9 => assumption); (case p10 => assumption); (case p11 => assumption); (case es => exact rfl))))

theorem TurnOf (w : World) (T1 : TailP w ((turnBody w).drop 11) (lawScope w)) : TurnP w (turnBody w) (lawScope w) := by
  unfold TurnP
  k_fill
  refine turn_intro (P := TurnP w) (by k_is) ?_
  unfold TurnP
  intro h₀ L fa cdv mean mg mb m D I it ws nums K o1 o2 o3 x1 x2 x3 t J s Q E B X T hI hK1 hK2 hK3 hit hJ hlt hlD e1 e2 e3 hE F N
  have tail1 := tail_elim (P := TailP w) (by k_is) T1
  clear T1
  have hlt' := hlt
  k_lt hlt'
  k_lt hlD
  (try k_fold)
  repeat' (first | (k_unfold; (try dsimp only)) | walk1 | (dsimp only; walk1) | (leave1; try dsimp only) | (k_dflt (refine' dend ?F ?N ?l ?o ?S ?k ?_; (case F => k_asm); (case N => k_asm); (case l => assumption); (case o => assumption); (case S => exact Or.inr ⟨_, by k_mem, rfl, _, rfl⟩); (case k => exact strKind_is _ _ _ _))) | fail "no step")
local macro_rules | `(tactic| walk_at "binaryOp Mod int int") => `(tactic| (k_here; first | ((with_reducible show wpAny _ _ (binaryOp _ (Value.int _ _) (Value.int 1000000000 _)) _ _ _); refine' r_mod_year ?_; intro r' hr1 hr2 hr3; (try dsimp only)) | ((with_reducible show wpAny _ _ (binaryOp _ (Value.int _ _) (Value.int 12 _)) _ _ _); refine' r_mod_month ?_; intro r' hr1 hr2 hr3 hr4; (try dsimp only)) | ((with_reducible show wpAny _ _ (binaryOp _ (Value.int _ _) (Value.int 50 _)) _ _ _); refine' r_mod_any ?b ?_; (case b => decide); intro r' hr1 hr2; (try dsimp only))))
local macro_rules | `(tactic| walk_at "call builtin:divmod") => `(tactic| (k_here; refine' divmod_day ?F ?N ?a1 ?a2 ?a3 ?a4 ?_; (case F => k_asm); (case N => k_asm); (case a1 => assumption); (case a2 => assumption); (case a3 => assumption); (case a4 => assumption); intro D' q' r' t1' t2' h' tk' hr1 hr2 hr3 hr4 hr5 hr6 l1 F' N'; (try k_lt l1); (try dsimp only); (try k_sweep)))
local macro_rules | `(tactic| walk_at "eval IfExp") => `(tactic| (k_here; (with_reducible show wpAny _ _ (eval (Expr.IfExp (Expr.BoolOp _ _ _) _ _ _) _) _ _ _); k_dflt (refine' join_feb ?N ?c ?m ?d ?inner ?_; (case N => k_asm); (case c => rfl); (case m => k_mem); (case d => k_asm)); (case inner => (intro Q' hQ'; with_reducible refine IfExp_ ?_; (repeat' (first | (k_unfold; (try dsimp only)) | walk1 | fail "no step")); all_goals first | exact feb_yes hQ' (leap_A (by assumption) (by assumption)) | exact feb_yes hQ' (leap_B (by assumption)) | exact feb_no hQ' (leap_C (by assumption) (by assumption)) | exact feb_no hQ' (leap_D (by assumption)))); intro t' tk'; (try dsimp only)))
local macro_rules | `(tactic| walk_at "eval IfExp") => `(tactic| (k_here; (with_reducible show wpAny _ _ (eval (Expr.IfExp (Expr.Compare _ _ _ _) _ _ _) _) _ _ _); k_dflt (refine' join_miss ?F ?v ?inner ?_; (case F => k_asm); (case v => rfl)); (case inner => (intro Q' hQ'; with_reducible refine IfExp_ ?_; (repeat' (first | (k_unfold; (try dsimp only)) | walk1 | fail "no step")); all_goals first | exact miss_hi hQ' (by assumption) (by assumption) (by assumption) (by assumption) | exact miss_lo hQ' (by assumption) (by assumption))); intro x' t' tk' hx1 hx2 hx3; (try dsimp only)))
local macro_rules | `(tactic| walk_at "storeName") => `(tactic| (k_here; refine' store_len ?a ?b ?_; (case a => assumption); (case b => assumption); intro hl1 hl2))
local macro_rules | `(tactic| walk_at "loadName") => `(tactic| (k_here; k_dflt (first | (refine' loadX_C ?N ?c ?m ?d ?_ ?a ?b; (case a => rfl); (case b => rfl); (case N => k_asm); (case c => rfl); (case m => k_mem); (case d => k_asm)) | (refine' loadX_L ?F ?v ?_ ?a ?b; (case F => k_asm); (case a => rfl); (case b => rfl); (case v => rfl)))))
local macro_rules | `(tactic| walk_at "exec For Name Call cons nil") => `(tactic| (k_here; (rename Fr _ _ _ _ => lF'); (with_unfolding_all refine' For_invVF lF' ?k1 ?k2 ?_; (case k1 => exact rfl); (case k2 => exact rfl); k_whole)))
local macro_rules | `(tactic| walk_at "pyIter ref") => `(tactic| (k_here; (with_reducible show wpAny _ _ (pyIter (Value.ref _)) (fun it s₂ => LoopAtV _ _ _ _ _ _ _ _ _ it s₂) _ _); (with_unfolding_all refine' list_inv ?hh ?F ?N ?m ?c ?d ?fin ?step; (case hh => rfl); (case F => k_asm); (case N => k_asm); (case m => k_mem); (case c => rfl); (case d => rfl); (case' step => refine ⟨?_, ?_, ?_, ?_, ?_, ?_, ?_, ?_, ?_, True.intro⟩)); (case' fin => (intro v' h' tk' F' N'; (try dsimp only))); (all_goals try (intro I' it' h' tk' hit' hI' F' N'; (have l1 := hI'); (try k_lt l1); (try dsimp only)))))
local macro_rules | `(tactic| walk_at "last pyIter ref") => `(tactic| (k_here; (with_reducible show wpAny _ _ (pyIter (Value.ref _)) (fun it s₂ => LoopAtV _ _ _ _ _ _ _ _ _ it s₂) _ _); (with_unfolding_all refine' list_inv ?hh ?F ?N ?m ?c ?d ?fin ?step; (case hh => rfl); (case F => k_asm); (case N => k_asm); (case m => k_mem); (case c => rfl); (case d => rfl); (case' step => refine ⟨?_, ?_, ?_, ?_, ?_, ?_, ?_, ?_, ?_, True.intro⟩)); (case' fin => (intro v' h' tk' F' N'; (try dsimp only))); (all_goals try (intro I' it' h' tk' hit' hI' F' N'; (have l1 := hI'); (try k_lt l1); (try dsimp only)))))
local macro_rules | `(tactic| walk_at "UnrEnd") => `(tactic| (k_here; refine' keep_end ?hI ?F ?N ?i ?s ?m; (case hI => assumption); (case F => k_asm); (case N => k_asm); (case i => k_mem); (case s => kcj_all); (case m => (intro y hy; simp only [hy, if_false]))))
local macro_rules | `(tactic| walk_at "exec Assign cons DictComp") => `(tactic| (k_here; k_dflt (refine' assign_dcomp (knd := strKind _ _) ?F ?sw ?cl ?ce ?ki ?na ?x ?y ?p ?_; (case F => k_asm); (case sw => rfl); (case cl => with_unfolding_all rfl); (case ce => decide); (case ki => rfl); (case na => decide); (case x => rfl); (case y => rfl); (case p => rfl))))
local macro_rules | `(tactic| walk_at "DSrc") => `(tactic| (k_here; k_dflt (refine' DSrc.of ?hh ?F ?N ?m ?s ?_; (case hh => rfl); (case F => k_asm); (case N => k_asm); (case m => k_mem); (case s => first | size_fits | exact Nat.le_of_ble_eq_true rfl)); intro g'))
local macro_rules | `(tactic| walk_at "DRestL") => `(tactic| (k_here; with_unfolding_all first | (refine DRestL.succ ?_; intro I' oI' C' oC' D' oD' m' h' tk' E' hC' hx' hD' F' N' off' ne') | (refine DRestL.zero ?_; intro D' oD' h' tk' hD' F' N' off')))
local macro_rules | `(tactic| walk_at "DEnd") => `(tactic| (k_here; k_dflt (refine' dend ?F ?N ?l ?o ?S ?k ?_; (case F => k_asm); (case N => k_asm); (case l => assumption); (case o => assumption); (case S => exact Or.inr ⟨_, by k_mem, rfl, _, rfl⟩); (case k => exact strKind_is _ _ _ _))))
local macro_rules | `(tactic| walk_at "eval Call") => `(tactic| (k_here; (with_reducible show wpAny _ _ (eval (Expr.Call (Expr.Name _ _) _ [] _) _) _ _ _); k_dflt (refine Call_ ?_)))
local macro_rules | `(tactic| walk_at "compareOp GtE int int") => `(tactic| (k_here; refine' ge_t ?h ?_; (case h => assumption)))
local macro_rules | `(tactic| walk_at "compareOp Gt int int") => `(tactic| (k_here; refine' gt_hyp ?h ?_ ?_; (case h => assumption); (all_goals intros); (try dsimp only)))
local macro_rules | `(tactic| walk_at "newTuple") => `(tactic| (k_here; refine' new_tup ?F ?N ?z ?_; (case z => first | size_fits | exact Nat.le_of_ble_eq_true rfl); (case F => k_asm); (case N => k_asm); intro D' h' F' N' l1; (try dsimp only); (try k_sweep)))
local macro_rules | `(tactic| walk_at "newTuple") => `(tactic| (k_here; (with_reducible show wpAny _ _ (newTuple [Value.int _ _, Value.str _ _]) _ _ _); first | (k_dflt (refine' new_tupS haabA haabB ?F ?N ?_; (case F => k_asm); (case N => k_asm)); intro D' h' F' N' l1; (try dsimp only); (try k_sweep)) | (k_dflt (refine' new_tupS tz1_eq tzolB ?F ?N ?_; (case F => k_asm); (case N => k_asm)); intro D' h' F' N' l1; (try dsimp only); (try k_sweep))))
local macro_rules | `(tactic| walk_at "exec For Name Name cons nil") => `(tactic| (k_here; (rename Fr _ _ _ _ => lF'); (with_unfolding_all refine' For_invVF lF' ?k1 ?k2 ?_; (case k1 => exact rfl); (case k2 => exact rfl); k_whole)))
local macro_rules | `(tactic| walk_at "pyIter ref") => `(tactic| (k_here; (with_reducible show wpAny _ _ (pyIter (Value.ref _)) (fun it s₂ => LoopAtV _ _ _ _ _ _ _ _ _ it s₂) _ _); (with_unfolding_all refine' dict_invS [PySem.Str.ofString "loose", PySem.Str.ofString "fixed", PySem.Str.ofString "fourth", PySem.Str.ofString "romme", PySem.Str.ofString "madler", PySem.Str.ofString "long count"] ?hh ?F ?N ?m ?d ?lo ?hk ?fin ?step; (case hh => rfl); (case F => k_asm); (case N => k_asm); (case m => k_mem); (case d => k_asm); (case lo => k_asm); (case hk => rfl); (case' step => refine ⟨?_, ?_, ?_, ?_, ?_, ?_, True.intro⟩)); (case' fin => (intro v' h' tk' F' N'; (try dsimp only))); (all_goals try (intro t' I' it' h' tk' hit' hI' F' N'; (try dsimp only)))))
local macro_rules | `(tactic| walk_at "last pyIter ref") => `(tactic| (k_here; (with_reducible show wpAny _ _ (pyIter (Value.ref _)) (fun it s₂ => LoopAtV _ _ _ _ _ _ _ _ _ it s₂) _ _); (with_unfolding_all refine' dict_invS [PySem.Str.ofString "loose", PySem.Str.ofString "fixed", PySem.Str.ofString "fourth", PySem.Str.ofString "romme", PySem.Str.ofString "madler", PySem.Str.ofString "long count"] ?hh ?F ?N ?m ?d ?lo ?hk ?fin ?step; (case hh => rfl); (case F => k_asm); (case N => k_asm); (case m => k_mem); (case d => k_asm); (case lo => k_asm); (case hk => rfl); (case' step => refine ⟨?_, ?_, ?_, ?_, ?_, ?_, True.intro⟩)); (case' fin => (intro v' h' tk' F' N'; (try dsimp only))); (all_goals try (intro t' I' it' h' tk' hit' hI' F' N'; (try dsimp only)))))
local macro_rules | `(tactic| walk_at "compareOp NotEq ref ref") => `(tactic| (k_here; (with_reducible show wpAny _ _ (compareOp CmpOp.NotEq (Value.ref _) (Value.ref _)) _ _ _); k_dflt (refine' ne_tupS ?N ?a ?b ?e1 ?e2 ?hy ?u ?_; (case N => k_asm); (case a => k_mem); (case b => k_mem); (case u => ke_room)); (case e1 => first | with_reducible rfl | assumption | exact congrArg haab1 lc_back | exact congrArg tz1 lc_back); (case e2 => first | with_reducible rfl | assumption | exact congrArg haab2 lc_back | exact congrArg tz2 lc_back); (case hy => first | exact haab2_ok _ | exact tz2_ok _)))
local macro_rules | `(tactic| walk_at "compareOp NotEq ref ref") => `(tactic| (k_here; (with_reducible show wpAny _ _ (compareOp CmpOp.NotEq (Value.ref _) (Value.ref _)) _ _ _); k_dflt (refine' ne_tup5 ?N ?a ?b ?e1 ?e2 ?e3 ?e4 ?e5 ?u ?_; (case N => k_asm); (case a => k_mem); (case b => k_mem); (case u => ke_room)); (case e1 => first | with_reducible rfl | assumption); (case e2 => first | with_reducible rfl | assumption); (case e3 => first | with_reducible rfl | assumption); (case e4 => first | with_reducible rfl | assumption); (case e5 => first | with_reducible rfl | assumption)))
local macro_rules | `(tactic| walk_at "compareOp NotEq ref ref") => `(tactic| (k_here; (with_reducible show wpAny _ _ (compareOp CmpOp.NotEq (Value.ref _) (Value.ref _)) _ _ _); k_dflt (refine' ne_tup3 ?N ?a ?b ?e1 ?e2 ?e3 ?u ?_; (case N => k_asm); (case a => k_mem); (case b => k_mem); (case u => ke_room)); (case e1 => first | with_reducible rfl | assumption); (case e2 => first | with_reducible rfl | assumption); (case e3 => first | with_reducible rfl | assumption)))
local macro_rules | `(tactic| walk_at "UnrEnd") => `(tactic| (k_here; refine' law_end ?J ?I ?d1 ?d2 ?d3 ?F ?N ?m ?i ?s; (case J => assumption); (case I => assumption); (case d1 => assumption); (case d2 => assumption); (case d3 => assumption); (case F => k_asm); (case N => k_asm); (case m => with_unfolding_all rfl); (case i => k_mem); (case s => kcj_all)))
local macro_rules | `(tactic| walk_at "formatField int") => `(tactic| (k_here; first | (refine' fld_tz _ ?_; intro t' n'; (try dsimp only)) | (refine' fld_haab _ ?_; intro t' n'; (try dsimp only))))
local macro_rules | `(tactic| walk_at "formatField str") => `(tactic| (k_here; refine' fld_str ?x ?_; (case x => first | exact tz2_len _ | exact haab2_len _); intro t' n'; (try dsimp only)))
local macro_rules | `(tactic| walk_at "And") => `(tactic| ((with_reducible show PySem.Str.length (_ ++ _) ≤ sizeLine ∧ wpAny _ _ (joinParts _ _) _ _ _); refine' ⟨?ln, ?_⟩; (case ln => (refine' len_fin (a := 12000) ?a ?b; (case a => (repeat' (first | exact len_nil | (refine' len_app ?_ ?_; rotate_left; (first | with_reducible exact len_tz _ | with_reducible exact len_haab _ | with_reducible exact len_bl | with_reducible exact tz2_len _ | with_reducible exact haab2_len _ | exact len_bl | exact len_tz _ | exact len_haab _ | exact tz2_len _ | exact haab2_len _))))); (case b => exact len_big)))))
local macro_rules | `(tactic| walk_at "joinParts") => `(tactic| (k_here; (first | (with_reducible show wpAny _ _ (joinParts _ []) _ _ _) | (with_reducible show wpAny _ _ (joinParts _ (evalEach [] _)) _ _ _)); k_dflt (refine' joinParts_nil ?_ ?ln; (case ln => (refine' len_fin (a := 12000) ?a ?b; (case a => (repeat' (first | exact len_nil | (refine' len_app ?_ ?_; rotate_left; (first | with_reducible exact len_tz _ | with_reducible exact len_haab _ | with_reducible exact len_bl | with_reducible exact tz2_len _ | with_reducible exact haab2_len _ | exact len_bl | exact len_tz _ | exact len_haab _ | exact tz2_len _ | exact haab2_len _))))); (case b => exact len_big))))))
local macro_rules | `(tactic| walk_at "compareOp NotEq str str") => `(tactic| (k_here; k_dflt (refine' ne_same words_eq ?_)))
local macro_rules | `(tactic| walk_at "subscriptTail Name") => `(tactic| (k_here; (with_reducible show wpAny _ _ (subscriptTail _ _ (Value.ref _) (Value.str _ _)) _ _ _); k_dflt (refine' kda_item (knd := strKind _ _) ?N ?m ?d (strKind_is _ _ _ _) ?l ?_; (case N => k_asm); (case m => k_mem); (case d => k_asm); (case l => rfl))))
local macro_rules | `(tactic| walk_at "subscriptTail") => `(tactic| (k_here; (with_reducible show wpAny _ _ (subscriptTail _ _ (Value.ref _) (Value.str _ _)) _ _ _); k_dflt (refine' kda_item (knd := strKind _ _) ?N ?m ?d (strKind_is _ _ _ _) ?l ?_; (case N => k_asm); (case m => k_mem); (case d => k_asm); (case l => rfl))))

theorem Tail2 (w : World) : Tail2P w ((turnBody w).drop 24) (lawScope w) := by
  unfold Tail2P
  k_fill
  refine tail2_intro (P := Tail2P w) (by k_is) ?_
  unfold Tail2P
  intro h₀ L fa cdv mean mg mb m D I TD T1 T2 T3 T4 T5 T6 T7 UD U1 U2 U3 U4 U5 U6 it oT oU ws o1 o2 o3 x1 x2 x3 n fr r1 r2 r3 q1 q2 q3 tc tf tm a1 a2 a3 b1 b2 b3 c1 c2 c3 d1 d2 d3 e1 e2 e3 f1 f2 f3 g1 g2 g3 g4 g5 ua1 ua2 ua3 ub1 ub2 ub3 ud1 ud2 ud3 ue1 ue2 ue3 uf1 uf2 uf3 ug1 ug2 ug3 ug4 ug5 n1 n2 n3 n4 n5 n6 n7 k1 k2 k3 k4 k5 k6 J s Q E B X T hn hn2 hr hq hit hJ hlt z1 z2 z3 hE lo hT hU F N
  replace hT := told_dict hT
  have hc0 : 0 < n - 1922501 := by omega
  have hm0 : 0 ≤ n - 1922501 + 1338219 := by omega
  obtain ⟨⟨j1, j2, j3, j4⟩, j5, j6, j7, j8, j9, j10⟩ := lc_facts hn hn2
  have j11 := lc_sum hn
  (try k_fold)
  repeat' (first | (k_unfold; (try dsimp only)) | walk1 | (dsimp only; walk1) | (leave1; try dsimp only) | fail "no step")
local macro_rules | `(tactic| walk_at "binaryOp Mod int int") => `(tactic| (k_here; first | ((with_reducible show wpAny _ _ (binaryOp _ (Value.int _ _) (Value.int 1000000000 _)) _ _ _); refine' r_mod_year ?_; intro r' hr1 hr2 hr3; (try dsimp only)) | ((with_reducible show wpAny _ _ (binaryOp _ (Value.int _ _) (Value.int 12 _)) _ _ _); refine' r_mod_month ?_; intro r' hr1 hr2 hr3 hr4; (try dsimp only)) | ((with_reducible show wpAny _ _ (binaryOp _ (Value.int _ _) (Value.int 50 _)) _ _ _); refine' r_mod_any ?b ?_; (case b => decide); intro r' hr1 hr2; (try dsimp only))))
local macro_rules | `(tactic| walk_at "call builtin:divmod") => `(tactic| (k_here; refine' divmod_day ?F ?N ?a1 ?a2 ?a3 ?a4 ?_; (case F => k_asm); (case N => k_asm); (case a1 => assumption); (case a2 => assumption); (case a3 => assumption); (case a4 => assumption); intro D' q' r' t1' t2' h' tk' hr1 hr2 hr3 hr4 hr5 hr6 l1 F' N'; (try k_lt l1); (try dsimp only); (try k_sweep)))
local macro_rules | `(tactic| walk_at "eval IfExp") => `(tactic| (k_here; (with_reducible show wpAny _ _ (eval (Expr.IfExp (Expr.BoolOp _ _ _) _ _ _) _) _ _ _); k_dflt (refine' join_feb ?N ?c ?m ?d ?inner ?_; (case N => k_asm); (case c => rfl); (case m => k_mem); (case d => k_asm)); (case inner => (intro Q' hQ'; with_reducible refine IfExp_ ?_; (repeat' (first | (k_unfold; (try dsimp only)) | walk1 | fail "no step")); all_goals first | exact feb_yes hQ' (leap_A (by assumption) (by assumption)) | exact feb_yes hQ' (leap_B (by assumption)) | exact feb_no hQ' (leap_C (by assumption) (by assumption)) | exact feb_no hQ' (leap_D (by assumption)))); intro t' tk'; (try dsimp only)))
local macro_rules | `(tactic| walk_at "eval IfExp") => `(tactic| (k_here; (with_reducible show wpAny _ _ (eval (Expr.IfExp (Expr.Compare _ _ _ _) _ _ _) _) _ _ _); k_dflt (refine' join_miss ?F ?v ?inner ?_; (case F => k_asm); (case v => rfl)); (case inner => (intro Q' hQ'; with_reducible refine IfExp_ ?_; (repeat' (first | (k_unfold; (try dsimp only)) | walk1 | fail "no step")); all_goals first | exact miss_hi hQ' (by assumption) (by assumption) (by assumption) (by assumption) | exact miss_lo hQ' (by assumption) (by assumption))); intro x' t' tk' hx1 hx2 hx3; (try dsimp only)))
local macro_rules | `(tactic| walk_at "storeName") => `(tactic| (k_here; refine' store_len ?a ?b ?_; (case a => assumption); (case b => assumption); intro hl1 hl2))
local macro_rules | `(tactic| walk_at "loadName") => `(tactic| (k_here; k_dflt (first | (refine' loadX_C ?N ?c ?m ?d ?_ ?a ?b; (case a => rfl); (case b => rfl); (case N => k_asm); (case c => rfl); (case m => k_mem); (case d => k_asm)) | (refine' loadX_L ?F ?v ?_ ?a ?b; (case F => k_asm); (case a => rfl); (case b => rfl); (case v => rfl)))))
local macro_rules | `(tactic| walk_at "exec For Name Call cons nil") => `(tactic| (k_here; (rename Fr _ _ _ _ => lF'); (with_unfolding_all refine' For_invVF lF' ?k1 ?k2 ?_; (case k1 => exact rfl); (case k2 => exact rfl); k_whole)))
local macro_rules | `(tactic| walk_at "pyIter ref") => `(tactic| (k_here; (with_reducible show wpAny _ _ (pyIter (Value.ref _)) (fun it s₂ => LoopAtV _ _ _ _ _ _ _ _ _ it s₂) _ _); (with_unfolding_all refine' list_inv ?hh ?F ?N ?m ?c ?d ?fin ?step; (case hh => rfl); (case F => k_asm); (case N => k_asm); (case m => k_mem); (case c => rfl); (case d => rfl); (case' step => refine ⟨?_, ?_, ?_, ?_, ?_, ?_, ?_, ?_, ?_, True.intro⟩)); (case' fin => (intro v' h' tk' F' N'; (try dsimp only))); (all_goals try (intro I' it' h' tk' hit' hI' F' N'; (have l1 := hI'); (try k_lt l1); (try dsimp only)))))
local macro_rules | `(tactic| walk_at "last pyIter ref") => `(tactic| (k_here; (with_reducible show wpAny _ _ (pyIter (Value.ref _)) (fun it s₂ => LoopAtV _ _ _ _ _ _ _ _ _ it s₂) _ _); (with_unfolding_all refine' list_inv ?hh ?F ?N ?m ?c ?d ?fin ?step; (case hh => rfl); (case F => k_asm); (case N => k_asm); (case m => k_mem); (case c => rfl); (case d => rfl); (case' step => refine ⟨?_, ?_, ?_, ?_, ?_, ?_, ?_, ?_, ?_, True.intro⟩)); (case' fin => (intro v' h' tk' F' N'; (try dsimp only))); (all_goals try (intro I' it' h' tk' hit' hI' F' N'; (have l1 := hI'); (try k_lt l1); (try dsimp only)))))
local macro_rules | `(tactic| walk_at "UnrEnd") => `(tactic| (k_here; refine' keep_end ?hI ?F ?N ?i ?s ?m; (case hI => assumption); (case F => k_asm); (case N => k_asm); (case i => k_mem); (case s => kcj_all); (case m => (intro y hy; simp only [hy, if_false]))))
local macro_rules | `(tactic| walk_at "exec Assign cons DictComp") => `(tactic| (k_here; k_dflt (refine' assign_dcomp (knd := strKind _ _) ?F ?sw ?cl ?ce ?ki ?na ?x ?y ?p ?_; (case F => k_asm); (case sw => rfl); (case cl => with_unfolding_all rfl); (case ce => decide); (case ki => rfl); (case na => decide); (case x => rfl); (case y => rfl); (case p => rfl))))
local macro_rules | `(tactic| walk_at "DSrc") => `(tactic| (k_here; k_dflt (refine' DSrc.of ?hh ?F ?N ?m ?s ?_; (case hh => rfl); (case F => k_asm); (case N => k_asm); (case m => k_mem); (case s => first | size_fits | exact Nat.le_of_ble_eq_true rfl)); intro g'))
local macro_rules | `(tactic| walk_at "DRestL") => `(tactic| (k_here; with_unfolding_all first | (refine DRestL.succ ?_; intro I' oI' C' oC' D' oD' m' h' tk' E' hC' hx' hD' F' N' off' ne') | (refine DRestL.zero ?_; intro D' oD' h' tk' hD' F' N' off')))
local macro_rules | `(tactic| walk_at "DEnd") => `(tactic| (k_here; k_dflt (refine' dend ?F ?N ?l ?o ?S ?k ?_; (case F => k_asm); (case N => k_asm); (case l => assumption); (case o => assumption); (case S => exact Or.inr ⟨_, by k_mem, rfl, _, rfl⟩); (case k => exact strKind_is _ _ _ _))))
local macro_rules | `(tactic| walk_at "eval Call") => `(tactic| (k_here; (with_reducible show wpAny _ _ (eval (Expr.Call (Expr.Name _ _) _ [] _) _) _ _ _); k_dflt (refine Call_ ?_)))
local macro_rules | `(tactic| walk_at "compareOp LtE int int") => `(tactic| (k_here; refine' le_t ?h ?_; (case h => assumption)))
local macro_rules | `(tactic| walk_at "compareOp GtE int int") => `(tactic| (k_here; refine' ge_t ?h ?_; (case h => assumption)))
local macro_rules | `(tactic| walk_at "compareOp Gt int int") => `(tactic| (k_here; refine' gt_t ?h ?_; (case h => assumption)))
local macro_rules | `(tactic| walk_at "storeName") => `(tactic| (k_here; first | rw [place_eq] | rw [count_eq] | rw [(sark_core (by assumption)).1] | rw [(sark_core (by assumption)).2]))
local macro_rules | `(tactic| walk_at "newTuple") => `(tactic| (k_here; refine' new_tup ?F ?N ?z ?_; (case z => first | size_fits | exact Nat.le_of_ble_eq_true rfl); (case F => k_asm); (case N => k_asm); intro D' h' F' N' l1; (try k_lt l1); (try dsimp only); (try k_sweep)))
local macro_rules | `(tactic| walk_at "eval Dict") => `(tactic| (k_here; k_dflt (refine' kdn_str ?q ?F ?N ?b ?a ?l ?e ?n ?_; (case q => rfl); (case F => k_asm); (case N => k_asm); (case b => exact Top.nolimit (by k_asm)); (case a => rfl); (case l => rfl); (case e => exact List.cons_ne_nil _ _); (case n => exact Nat.le_of_ble_eq_true rfl)); intro d' h' o' F' N' l1 lo' hd'; (try k_lt l1)))
local macro_rules | `(tactic| walk_at "execs cons") => `(tactic| (k_here; (with_reducible show wpAny _ _ (execs (Stmt.For (Expr.Name _ _) (Expr.Name _ _) _ _ _ :: _) _) _ _ _); k_dflt (refine' Tail2P_use ?h ?p0 ?p1 ?p2 ?p3 ?p4 ?p5 ?p6 ?p7 ?p8 ?p9 ?p10 ?p11 ?p12 ?p13 ?p14 ?p15 ?p16 ?eU6 ?eU3 ?eU2 ?eU1 ?F ?fm0 ?fm1 ?fm2 ?fm3 ?fm4 ?fm5 ?N ?u0 ?u1 ?u2 ?u3 ?u4 ?u5 ?u6 ?u7 ?u8 ?u9 ?u10 ?u11 ?u12 ?u13 ?u14 ?u15 ?u16 ?u17 ?u18 ?u19 ?es; (case h => assumption); (case F => k_asm); (case N => k_asm); (case fm0 => rfl); (case fm1 => rfl); (case fm2 => rfl); (case fm3 => rfl); (case fm4 => rfl); (case fm5 => rfl); (case u0 => k_mem); (case u7 => k_mem); (case p16 => assumption); (case p15 => assumption); (case u1 => k_mem); (case u2 => k_mem); (case u3 => k_mem); (case u4 => k_mem); (case u5 => k_mem); (case u6 => k_mem); (case u8 => k_mem); (case u9 => k_mem); (case u10 => k_mem); (case u11 => k_mem); (case u12 => k_mem); (case u13 => k_mem); (case u14 => k_mem); (case u15 => k_mem); (case u16 => k_mem); (case u17 => k_mem); (case u18 => k_mem); (case u19 => k_mem); (case p0 => k_asm); (case p1 => k_asm); (case p2 => k_asm); (case p3 => assumption); (case p4 => assumption); (case p5 => exact romme_due (by assumption)); (case p6 => exact madler_due (by assumption)); (case p7 => assumption); (case p8 => assumption); (case p9 => assumption); (case p10 => assumption); (case p11 => assumption); (case p12 => assumption); (case p13 => assumption); (case p14 => assumption); (case eU6 => exact lc_due); (case eU3 => exact fourth_eq); (case eU2 => exact ⟨rfl, sark_eq⟩); (case eU1 => exact loose_eq); (case es => exact rfl))))

theorem Tail1 (w : World) : TailP w ((turnBody w).drop 11) (lawScope w) := by
  unfold TailP
  k_fill
  refine tail_intro (P := TailP w) (by k_is) ?_
  unfold TailP
  intro h₀ L fa cdv mean mg mb m D I TD T1 T2 T3 T4 T5 T6 T7 it oT ws o1 o2 o3 x1 x2 x3 n t1 t2 t3 a1 a2 a3 b1 b2 b3 c1 c2 c3 d1 d2 d3 e1 e2 e3 f1 f2 f3 g1 g2 g3 g4 g5 n1 n2 n3 n4 n5 n6 n7 J s Q E B X T hn hn3 hit hJ hlt z1 z2 z3 hE hT F N
  have hn2 : n ≤ 400000000000 := by omega
  obtain ⟨k1, k2⟩ := copt_2 hn
  obtain ⟨k3, k4⟩ := @copt_3 n
  obtain ⟨k5, k6, k7⟩ := coptR_le hn
  obtain ⟨k8, k9⟩ := copt1_le hn hn2
  have k10 : 0 < n - 1922501 := by omega
  have k11 : 533 ≤ sark1 n ∧ sark1 n < 1000000000000 := (sark1_ge hn).resolve_right (by omega)
  obtain ⟨k11, k12⟩ := k11
  obtain ⟨k13, k15, k16, k17, k18⟩ := mov_facts hn hn2
  obtain ⟨k19, k20⟩ := sarkR_facts hn
  have k21 : -1000000000000 < sark1 n := by omega
  have k14 : 0 ≤ n - 1922501 + 1338219 := by omega
  have tail2 := tail2_elim (P := Tail2P w) (by k_is) (Tail2 w)
  have hlt' := hlt
  k_lt hlt'
  (try k_fold)
  repeat' (first | (k_unfold; (try dsimp only)) | walk1 | (dsimp only; walk1) | (leave1; try dsimp only) | fail "no step")
theorem Turn (w : World) : TurnP w (turnBody w) (lawScope w) := TurnOf w (Tail1 w)
local macro_rules | `(tactic| walk_at "binaryOp Mod int int") => `(tactic| (k_here; first | ((with_reducible show wpAny _ _ (binaryOp _ (Value.int _ _) (Value.int 1000000000 _)) _ _ _); refine' r_mod_year ?_; intro r' hr1 hr2 hr3; (try dsimp only)) | ((with_reducible show wpAny _ _ (binaryOp _ (Value.int _ _) (Value.int 12 _)) _ _ _); refine' r_mod_month ?_; intro r' hr1 hr2 hr3 hr4; (try dsimp only)) | ((with_reducible show wpAny _ _ (binaryOp _ (Value.int _ _) (Value.int 50 _)) _ _ _); refine' r_mod_any ?b ?_; (case b => decide); intro r' hr1 hr2; (try dsimp only))))
local macro_rules | `(tactic| walk_at "call builtin:divmod") => `(tactic| (k_here; refine' divmod_day ?F ?N ?a1 ?a2 ?a3 ?a4 ?_; (case F => k_asm); (case N => k_asm); (case a1 => assumption); (case a2 => assumption); (case a3 => assumption); (case a4 => assumption); intro D' q' r' t1' t2' h' tk' hr1 hr2 hr3 hr4 hr5 hr6 l1 F' N'; (try k_lt l1); (try dsimp only); (try k_sweep)))
local macro_rules | `(tactic| walk_at "eval IfExp") => `(tactic| (k_here; (with_reducible show wpAny _ _ (eval (Expr.IfExp (Expr.BoolOp _ _ _) _ _ _) _) _ _ _); k_dflt (refine' join_feb ?N ?c ?m ?d ?inner ?_; (case N => k_asm); (case c => rfl); (case m => k_mem); (case d => k_asm)); (case inner => (intro Q' hQ'; with_reducible refine IfExp_ ?_; (repeat' (first | (k_unfold; (try dsimp only)) | walk1 | fail "no step")); all_goals first | exact feb_yes hQ' (leap_A (by assumption) (by assumption)) | exact feb_yes hQ' (leap_B (by assumption)) | exact feb_no hQ' (leap_C (by assumption) (by assumption)) | exact feb_no hQ' (leap_D (by assumption)))); intro t' tk'; (try dsimp only)))
local macro_rules | `(tactic| walk_at "eval IfExp") => `(tactic| (k_here; (with_reducible show wpAny _ _ (eval (Expr.IfExp (Expr.Compare _ _ _ _) _ _ _) _) _ _ _); k_dflt (refine' join_miss ?F ?v ?inner ?_; (case F => k_asm); (case v => rfl)); (case inner => (intro Q' hQ'; with_reducible refine IfExp_ ?_; (repeat' (first | (k_unfold; (try dsimp only)) | walk1 | fail "no step")); all_goals first | exact miss_hi hQ' (by assumption) (by assumption) (by assumption) (by assumption) | exact miss_lo hQ' (by assumption) (by assumption))); intro x' t' tk' hx1 hx2 hx3; (try dsimp only)))
local macro_rules | `(tactic| walk_at "storeName") => `(tactic| (k_here; refine' store_len ?a ?b ?_; (case a => assumption); (case b => assumption); intro hl1 hl2))
local macro_rules | `(tactic| walk_at "loadName") => `(tactic| (k_here; k_dflt (first | (refine' loadX_C ?N ?c ?m ?d ?_ ?a ?b; (case a => rfl); (case b => rfl); (case N => k_asm); (case c => rfl); (case m => k_mem); (case d => k_asm)) | (refine' loadX_L ?F ?v ?_ ?a ?b; (case F => k_asm); (case a => rfl); (case b => rfl); (case v => rfl)))))
local macro_rules | `(tactic| walk_at "exec For Name Call cons nil") => `(tactic| (k_here; (rename Fr _ _ _ _ => lF'); (with_unfolding_all refine' For_invVF lF' ?k1 ?k2 ?_; (case k1 => exact rfl); (case k2 => exact rfl); k_whole)))
local macro_rules | `(tactic| walk_at "pyIter ref") => `(tactic| (k_here; (with_reducible show wpAny _ _ (pyIter (Value.ref _)) (fun it s₂ => LoopAtV _ _ _ _ _ _ _ _ _ it s₂) _ _); (with_unfolding_all refine' list_inv ?hh ?F ?N ?m ?c ?d ?fin ?step; (case hh => rfl); (case F => k_asm); (case N => k_asm); (case m => k_mem); (case c => rfl); (case d => rfl); (case' step => refine ⟨?_, ?_, ?_, ?_, ?_, ?_, ?_, ?_, ?_, True.intro⟩)); (case' fin => (intro v' h' tk' F' N'; (try dsimp only))); (all_goals try (intro I' it' h' tk' hit' hI' F' N'; (have l1 := hI'); (try k_lt l1); (try dsimp only)))))
local macro_rules | `(tactic| walk_at "last pyIter ref") => `(tactic| (k_here; (with_reducible show wpAny _ _ (pyIter (Value.ref _)) (fun it s₂ => LoopAtV _ _ _ _ _ _ _ _ _ it s₂) _ _); (with_unfolding_all refine' list_inv ?hh ?F ?N ?m ?c ?d ?fin ?step; (case hh => rfl); (case F => k_asm); (case N => k_asm); (case m => k_mem); (case c => rfl); (case d => rfl); (case' step => refine ⟨?_, ?_, ?_, ?_, ?_, ?_, ?_, ?_, ?_, True.intro⟩)); (case' fin => (intro v' h' tk' F' N'; (try dsimp only))); (all_goals try (intro I' it' h' tk' hit' hI' F' N'; (have l1 := hI'); (try k_lt l1); (try dsimp only)))))
local macro_rules | `(tactic| walk_at "UnrEnd") => `(tactic| (k_here; refine' keep_end ?hI ?F ?N ?i ?s ?m; (case hI => assumption); (case F => k_asm); (case N => k_asm); (case i => k_mem); (case s => kcj_all); (case m => (intro y hy; simp only [hy, if_false]))))
local macro_rules | `(tactic| walk_at "exec Assign cons DictComp") => `(tactic| (k_here; k_dflt (refine' assign_dcomp (knd := strKind _ _) ?F ?sw ?cl ?ce ?ki ?na ?x ?y ?p ?_; (case F => k_asm); (case sw => rfl); (case cl => with_unfolding_all rfl); (case ce => decide); (case ki => rfl); (case na => decide); (case x => rfl); (case y => rfl); (case p => rfl))))
local macro_rules | `(tactic| walk_at "DSrc") => `(tactic| (k_here; k_dflt (refine' DSrc.of ?hh ?F ?N ?m ?s ?_; (case hh => rfl); (case F => k_asm); (case N => k_asm); (case m => k_mem); (case s => first | size_fits | exact Nat.le_of_ble_eq_true rfl)); intro g'))
local macro_rules | `(tactic| walk_at "DRestL") => `(tactic| (k_here; with_unfolding_all first | (refine DRestL.succ ?_; intro I' oI' C' oC' D' oD' m' h' tk' E' hC' hx' hD' F' N' off' ne') | (refine DRestL.zero ?_; intro D' oD' h' tk' hD' F' N' off')))
local macro_rules | `(tactic| walk_at "DEnd") => `(tactic| (k_here; k_dflt (refine' dend ?F ?N ?l ?o ?S ?k ?_; (case F => k_asm); (case N => k_asm); (case l => assumption); (case o => assumption); (case S => exact Or.inr ⟨_, by k_mem, rfl, _, rfl⟩); (case k => exact strKind_is _ _ _ _))))
local macro_rules | `(tactic| walk_at "eval Call") => `(tactic| (k_here; (with_reducible show wpAny _ _ (eval (Expr.Call (Expr.Name _ _) _ [] _) _) _ _ _); k_dflt (refine Call_ ?_)))


theorem Head : PySem.Challenge.rw_ad5037_01.Holds :=
  Mine.hd (by
    k_go0
    (all_goals try k_fold)
    (repeat' (first | (k_unfold; (try dsimp only)) | ((fail_if_success (with_reducible show wpAny _ _ (pyIter (Value.ref _)) (fun it s₂ => LoopAtV _ _ _ _ _ _ _ _ _ it s₂) _ _)); (first | walk1 | (dsimp only; walk1) | (leave1; try dsimp only)))))
    rename World => w'
    have turn := turn_elim (P := TurnP w') (by k_is) (Turn w')
    rename IsRange _ _ _ _ _ _ _ _ => lR
    rename Fr _ _ _ _ => lF
    rename News _ _ _ _ => lN
    with_unfolding_all refine' lawRng (N := (List.take 12 _).length) (by rfl) lR ?hN lF lN (by rfl) ?d1 ?d2 ?d3 ?fin ?step
    case hN => omega
    case d1 => assumption
    case d2 => assumption
    case d3 => assumption
    case fin =>
      intro m nw h tk F N
      k_steps
    case step =>
      intro I K J it m t h tk o1 o2 o3 x1 x2 x3 hK0 hKN hK hit hJ hI d1 d2 d3 F N
      refine' turn _ _ _ _ _ _ _ _ _ _ _ _ _ _ _ _ _ _ _ _ _ _ _ _ _ ?B ?X ?T ?hi ?k1 ?k2 ?k3 hit hJ hI ?hlD d1 d2 d3 ?hE F N
      case B => k_asm
      case X => k_asm
      case T => k_asm
      case hi => assumption
      case k1 => exact hK0
      case k2 => simp only [List.length_append, List.length_cons, List.length_nil]; omega
      case k3 => simp only [List.length_append, List.length_cons, List.length_nil]; omega
      case hlD =>
        intro p hp
        simp only [List.mem_cons, List.not_mem_nil, or_false] at hp
        rcases hp with rfl | rfl | rfl <;> (dsimp only; first | omega | (show @LT.lt Nat instLTNat _ _; omega) | (exact ktn_ltOf (by assumption)) | (with_unfolding_all show @LT.lt Nat instLTNat _ _; omega) | (set_option pp.explicit true in trace_state; fail))
      case hE => passes_own)
end Mine
theorem PySem.Challenge.cw_ad5037_01_holds : PySem.Challenge.rw_ad5037_01.Holds := by
  exact Mine.Head
