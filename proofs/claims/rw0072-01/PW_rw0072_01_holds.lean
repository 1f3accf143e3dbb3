import PyProof.Rows.All
import Wide.All
import OpenK.AllK
import Wide.FinOn
import PySem.Challenge.RW_rw0072_01
set_option Elab.async false
set_option linter.all false
section mFL
open PySem PySem.Float64
set_option exponentiation.threshold 3000
namespace Mine

@[irreducible] def U : Nat := 2 ^ 1066
theorem U_eq : 2 ^ 1074 = 256 * U := by unfold U; decide +kernel
theorem U_pos : 0 < U := by unfold U; exact Nat.two_pow_pos _
theorem U_is : U = 2 ^ 1066 := by unfold U; rfl
theorem U_big : ¬ ((2 ^ 54 - 1) * 2 ^ 2045 ≤ 2 * (2 ^ 53 * U)) := by rw [U_is]; decide +kernel
theorem UI_pos : (0 : Int) < (U : Int) := Int.ofNat_lt.mpr U_pos

/-- f is finite and its exact value is k / 256 -/
def FV (f : UInt64) (k : Int) : Prop := (∃ a m e, decode f = .fin a m e) ∧ val f = k * (U : Int)

theorem exists_V {n : Nat} (h : n < 2 ^ 53) : ∃ t, t < infMag ∧ V t = n * U := by
  by_cases h0 : n = 0
  · subst h0
    exact ⟨0, by decide, by rw [V_zero, Nat.zero_mul]⟩
  have hl : n.log2 ≤ 52 := by
    have := (Nat.log2_lt h0).2 h
    omega
  have h1 := Nat.log2_self_le h0
  have h2 := Nat.lt_log2_self (n := n)
  generalize n.log2 = l at *
  obtain ⟨j, hj⟩ : ∃ j, 52 = l + j := ⟨52 - l, by omega⟩
  have hq1 : 2 ^ 52 ≤ n * 2 ^ j := by
    have : 2 ^ l * 2 ^ j ≤ n * 2 ^ j := Nat.mul_le_mul_right _ h1
    rw [← Nat.pow_add, ← hj] at this
    exact this
  have hq2 : n * 2 ^ j < 2 ^ 53 := by
    have : n * 2 ^ j < 2 ^ (l + 1) * 2 ^ j := Nat.mul_lt_mul_of_pos_right h2 (Nat.two_pow_pos _)
    rw [← Nat.pow_add] at this
    have e : l + 1 + j = 53 := by omega
    rw [e] at this
    exact this
  refine ⟨(1066 - j) * 2 ^ 52 + n * 2 ^ j, ?_, ?_⟩
  · have : infMag = 2047 * 2 ^ 52 := rfl
    rw [this]
    have : (1066 - j) * 2 ^ 52 ≤ 1066 * 2 ^ 52 := Nat.mul_le_mul_right _ (by omega)
    omega
  · rw [V_at (Nat.le_of_lt hq2) (.inl hq1), Nat.mul_assoc, ← Nat.pow_add, U_is]
    congr 2
    omega

theorem right_exact {r : UInt64} {neg : Bool} {W D n : Nat} (hr : Right r neg W D) (hD : 0 < D) (hW : W = D * (n * U)) (hn : n < 2 ^ 53) :
    (∃ a m e, decode r = .fin a m e) ∧ val r = sgn neg (n * U) := by
  obtain ⟨t, rfl, ht, hov, hd⟩ := hr
  have hlt : t < infMag := by
    rcases Nat.lt_or_ge t infMag with h | h
    · exact h
    · exfalso
      have e : t = infMag := Nat.le_antisymm ht h
      have h2 := hov.mp e
      rw [show 2 * W = D * (2 * (n * U)) by rw [hW]; ac_rfl] at h2
      have h3 := Nat.le_of_mul_le_mul_left h2 hD
      exact U_big (Nat.le_trans h3 (Nat.mul_le_mul_left _ (Nat.mul_le_mul_right _ (Nat.le_of_lt hn))))
  obtain ⟨t₀, ht₀, hV₀⟩ := exists_V hn
  have h6 := (hd hlt t₀).1
  have e0 : dist W (D * V t₀) = 0 := by rw [hW, hV₀]; unfold dist; omega
  rw [e0] at h6
  have e1 : W = D * V t := by unfold dist at h6; omega
  have e2 : V t = n * U := by
    rw [hW] at e1
    exact (Nat.eq_of_mul_eq_mul_left hD e1).symm
  obtain ⟨m, e, hdec, _⟩ := decode_pack neg hlt
  exact ⟨⟨_, _, _, hdec⟩, by rw [val_pack neg hlt, e2]⟩

theorem sgn_dec (z : Int) : sgn (decide (z < 0)) z.natAbs = z := by
  unfold sgn
  by_cases h : z < 0
  · simp only [h, decide_true, if_true]; omega
  · simp only [h, decide_false, Bool.false_eq_true, if_false]; omega

theorem fv_zero (s : Bool) : FV (zero s) 0 := by
  have h := decode_pack s (t := 0) (by decide)
  obtain ⟨m, e, hd, _⟩ := h
  have hv := val_pack s (t := 0) (by decide)
  refine ⟨⟨_, _, _, hd⟩, hv.trans ?_⟩
  rw [V_zero, Int.zero_mul]
  cases s <;> rfl

theorem fv_inj {f : UInt64} {k k' : Int} (h : FV f k) (h' : FV f k') : k = k' :=
  Int.eq_of_mul_eq_mul_right (Int.ne_of_gt UI_pos) (h.2.symm.trans h'.2)

theorem neg_mul_pos {k : Int} {p : Int} (hp : 0 < p) : (k * p < 0) ↔ k < 0 := by
  constructor
  · intro h
    rcases Int.lt_or_le k 0 with hl | hl
    · exact hl
    · exact absurd (Int.mul_nonneg hl (Int.le_of_lt hp)) (by omega)
  · exact fun h => Int.mul_neg_of_neg_of_pos h hp

theorem fv_of_right {r : UInt64} {z k : Int} (hr : Right r (decide (z < 0)) z.natAbs 1) (hz : z = k * (U : Int)) (hk : k.natAbs < 2 ^ 53) : FV r k := by
  obtain ⟨h1, h2⟩ := right_exact (n := k.natAbs) hr (by decide) (by rw [Nat.one_mul, hz, Int.natAbs_mul]; rfl) hk
  refine ⟨h1, h2.trans ?_⟩
  have e : k.natAbs * U = z.natAbs := by rw [hz, Int.natAbs_mul]; rfl
  rw [e, sgn_dec, hz]

theorem fv_ofInt {i : Int} (h : (256 * i).natAbs < 2 ^ 53) : FV (ofInt i) (256 * i) := by
  have hr := ofInt_right i
  rw [U_eq] at hr
  have e : (256 * i * (U : Int)).natAbs = i.natAbs * (256 * U) := by
    rw [Int.natAbs_mul, Int.natAbs_mul]
    show 256 * i.natAbs * U = _
    ac_rfl
  have ed : decide (i < 0) = decide (256 * i * (U : Int) < 0) := by
    rw [decide_eq_decide, neg_mul_pos UI_pos]
    omega
  rw [← e, ed] at hr
  exact fv_of_right hr rfl h

theorem fv_add {x y : UInt64} {a b : Int} (hx : FV x a) (hy : FV y b) (h : (a + b).natAbs < 2 ^ 53) : FV (add x y) (a + b) := by
  obtain ⟨⟨_, _, _, dx⟩, vx⟩ := hx
  obtain ⟨⟨_, _, _, dy⟩, vy⟩ := hy
  have hr := add_right dx dy
  have hz : val x + val y = (a + b) * (U : Int) := by rw [vx, vy, Int.add_mul]
  by_cases h0 : val x + val y = 0
  · rw [hr.1 h0]
    have : a + b = 0 := by
      rw [hz] at h0
      exact (Int.mul_eq_zero.mp h0).resolve_right (Int.ne_of_gt UI_pos)
    rw [this]
    exact fv_zero _
  · exact fv_of_right (hr.2 h0) hz h

theorem fv_neg {y : UInt64} {b : Int} (hy : FV y b) : FV (neg y) (-b) := by
  obtain ⟨⟨_, _, _, dy⟩, vy⟩ := hy
  exact ⟨⟨_, _, _, neg_decode dy⟩, by rw [neg_val dy, vy, Int.neg_mul]⟩

theorem fv_sub {x y : UInt64} {a b : Int} (hx : FV x a) (hy : FV y b) (h : (a - b).natAbs < 2 ^ 53) : FV (sub x y) (a - b) := by
  unfold Float64.sub
  rw [Int.sub_eq_add_neg] at h ⊢
  exact fv_add hx (fv_neg hy) h

theorem sgn_xor (a b : Bool) (m k : Nat) : sgn (a != b) (m * k) = sgn a m * sgn b k := by
  cases a <;> cases b <;> simp only [sgn, bne_self_eq_false, Bool.false_eq_true, if_false, if_true, Int.natCast_mul, Bool.bne_true, Bool.bne_false, Bool.not_false, Bool.not_true, Int.neg_mul, Int.mul_neg, Int.neg_neg]

/-- what a sign and a size say of an Int that has that size -/
theorem sgn_of {s : Bool} {M : Nat} {z : Int} (h : sgn s M = z) (c : Int) (hc : ∃ p : Int, 0 < p ∧ z = c * p) : sgn s c.natAbs = c := by
  obtain ⟨p, hp, hz⟩ := hc
  cases s
  · simp only [sgn, Bool.false_eq_true, if_false] at h ⊢
    rcases Int.lt_or_le c 0 with hl | hl
    · have := Int.mul_neg_of_neg_of_pos hl hp
      omega
    · omega
  · simp only [sgn, if_true] at h ⊢
    rcases Int.lt_or_le 0 c with hl | hl
    · have := Int.mul_pos hl hp
      omega
    · omega

theorem sgn_times (s : Bool) (n u : Nat) : sgn s (n * u) = sgn s n * (u : Int) := sgn_mul s n u

theorem fv_mul {x y : UInt64} {a b c : Int} (hx : FV x a) (hy : FV y b) (hc : a * b = 256 * c) (h : c.natAbs < 2 ^ 53) : FV (mul x y) c := by
  obtain ⟨⟨s, m, e, dx⟩, vx⟩ := hx
  obtain ⟨⟨s', m', e', dy⟩, vy⟩ := hy
  have hr := mul_right dx dy
  have hab : a.natAbs * b.natAbs = 256 * c.natAbs := by rw [← Int.natAbs_mul, hc, Int.natAbs_mul]; rfl
  rw [U_eq] at hr
  obtain ⟨h1, h2⟩ := right_exact (n := c.natAbs) hr (Nat.mul_pos (by decide) U_pos) (by
    rw [vx, vy, Int.natAbs_mul, Int.natAbs_mul]
    show a.natAbs * U * (b.natAbs * U) = _
    calc a.natAbs * U * (b.natAbs * U) = (a.natAbs * b.natAbs) * (U * U) := by ac_rfl
      _ = 256 * c.natAbs * (U * U) := by rw [hab]
      _ = 256 * U * (c.natAbs * U) := by ac_rfl) h
  refine ⟨h1, h2.trans ?_⟩
  have hs : sgn (s != s') (m * 2 ^ (e + 1074).toNat * (m' * 2 ^ (e' + 1074).toNat)) = val x * val y := by rw [sgn_xor, val_eq dx, val_eq dy]
  rw [sgn_times, sgn_of hs c ⟨256 * ((U : Int) * (U : Int)), Int.mul_pos (by decide) (Int.mul_pos UI_pos UI_pos), by
    rw [vx, vy]
    calc a * (U : Int) * (b * (U : Int)) = (a * b) * ((U : Int) * (U : Int)) := by ac_rfl
      _ = 256 * c * ((U : Int) * (U : Int)) := by rw [hc]
      _ = c * (256 * ((U : Int) * (U : Int))) := by ac_rfl⟩]

theorem fv_div {x y : UInt64} {a b c : Int} (hx : FV x a) (hy : FV y b) (hb : 0 < b) (hc : a * 256 = c * b) (h : c.natAbs < 2 ^ 53) : FV (div x y) c := by
  obtain ⟨⟨s, m, e, dx⟩, vx⟩ := hx
  obtain ⟨⟨s', m', e', dy⟩, vy⟩ := hy
  have hvy : 0 < val y := by rw [vy]; exact Int.mul_pos hb UI_pos
  have hm' : m' ≠ 0 := by
    intro h0
    rw [val_eq dy, h0] at hvy
    cases s' <;> simp [sgn] at hvy
  have hs' : s' = false := by
    rw [val_eq dy] at hvy
    cases s'
    · rfl
    · simp only [sgn, if_true] at hvy
      omega
  subst hs'
  have hr := div_right dx dy hm'
  have hab : a.natAbs * 256 = c.natAbs * b.natAbs := by
    have := congrArg Int.natAbs hc
    rw [Int.natAbs_mul, Int.natAbs_mul] at this
    exact this
  rw [U_eq] at hr
  obtain ⟨h1, h2⟩ := right_exact (n := c.natAbs) hr (by omega) (by
    rw [vx, vy, Int.natAbs_mul, Int.natAbs_mul]
    show a.natAbs * U * (256 * U) = b.natAbs * U * (c.natAbs * U)
    calc a.natAbs * U * (256 * U) = (a.natAbs * 256) * (U * U) := by ac_rfl
      _ = (c.natAbs * b.natAbs) * (U * U) := by rw [hab]
      _ = b.natAbs * U * (c.natAbs * U) := by ac_rfl) h
  refine ⟨h1, h2.trans ?_⟩
  have hs : sgn (s != false) (m * 2 ^ (e + 1074).toNat) = val x := by rw [val_eq dx]; cases s <;> rfl
  have hq : sgn (s != false) (m * 2 ^ (e + 1074).toNat * 256) = val x * 256 := by rw [sgn_times, hs]; rfl
  rw [sgn_times, sgn_of hq c ⟨b * (U : Int), Int.mul_pos hb UI_pos, by
    rw [vx]
    calc a * (U : Int) * 256 = (a * 256) * (U : Int) := by ac_rfl
      _ = c * b * (U : Int) := by rw [hc]
      _ = c * (b * (U : Int)) := by ac_rfl⟩]

theorem fv_frac {a b c : Int} (hb : 0 < b) (hc : 256 * a = c * b) (h : c.natAbs < 2 ^ 53) : FV (ofFrac (decide (a < 0) != decide (b < 0)) a.natAbs b.natAbs) c := by
  have hb0 : 0 < b.natAbs := by omega
  have hr : Right (ofFrac (decide (a < 0) != decide (b < 0)) a.natAbs b.natAbs) (decide (a < 0) != decide (b < 0)) (a.natAbs * 2 ^ 1074) b.natAbs := ofFrac_right hb0 rfl hb0
  have hab : 256 * a.natAbs = c.natAbs * b.natAbs := by
    have := congrArg Int.natAbs hc
    rw [Int.natAbs_mul, Int.natAbs_mul] at this
    exact this
  rw [U_eq] at hr
  obtain ⟨h1, h2⟩ := right_exact (n := c.natAbs) hr hb0 (by
    calc a.natAbs * (256 * U) = (256 * a.natAbs) * U := by ac_rfl
      _ = (c.natAbs * b.natAbs) * U := by rw [hab]
      _ = b.natAbs * (c.natAbs * U) := by ac_rfl) h
  refine ⟨h1, h2.trans ?_⟩
  have hbn : decide (b < 0) = false := decide_eq_false (by omega)
  rw [hbn, sgn_times]
  congr 1
  have ha : sgn (decide (a < 0) != false) a.natAbs = a := by
    have : (decide (a < 0) != false) = decide (a < 0) := by cases decide (a < 0) <;> rfl
    rw [this]; exact sgn_dec a
  have hq : sgn (decide (a < 0) != false) (a.natAbs * 256) = a * 256 := by rw [sgn_times, ha]; rfl
  exact sgn_of hq c ⟨b, hb, by rw [← hc]; omega⟩

theorem fv_finite {f : UInt64} {k : Int} (h : FV f k) : isFinite f = true := by
  obtain ⟨⟨a, m, e, hd⟩, _⟩ := h
  unfold isFinite
  rw [hd]
theorem fv_notNaN {f : UInt64} {k : Int} (h : FV f k) : isNaN f = false := by
  obtain ⟨⟨a, m, e, hd⟩, _⟩ := h
  unfold isNaN
  rw [hd]
theorem fv_notInf {f : UInt64} {k : Int} (h : FV f k) : isInf f = false := by
  obtain ⟨⟨a, m, e, hd⟩, _⟩ := h
  unfold isInf
  rw [hd]
theorem fv_isZero {f : UInt64} {k : Int} (h : FV f k) : isZero f = decide (k = 0) := by
  obtain ⟨⟨a, m, e, hd⟩, hv⟩ := h
  unfold isZero
  rw [hd]
  rw [val_eq hd] at hv
  cases m with
  | zero =>
    have : k * (U : Int) = 0 := by rw [← hv, Nat.zero_mul]; cases a <;> rfl
    have := (Int.mul_eq_zero.mp this).resolve_right (Int.ne_of_gt UI_pos)
    simp [this]
  | succ m =>
    have hne : k ≠ 0 := by
      intro h0
      subst h0
      rw [Int.zero_mul] at hv
      have hp : 0 < (m + 1) * 2 ^ (e + 1074).toNat := Nat.mul_pos (by omega) (Nat.two_pow_pos _)
      cases a
      · simp only [sgn, Bool.false_eq_true, if_false] at hv; omega
      · simp only [sgn, if_true] at hv; omega
    simp [hne]
theorem fv_cmpInt {f : UInt64} {k : Int} (h : FV f k) (i : Int) : cmpInt f i = some (compare k (256 * i)) := by
  obtain ⟨⟨a, m, e, hd⟩, hv⟩ := h
  rw [cmpInt_right hd, hv]
  congr 1
  have e1 : i * 2 ^ 1074 = 256 * i * (U : Int) := by
    have := congrArg (fun n : Nat => (n : Int)) U_eq
    simp only [Int.natCast_pow, Int.natCast_mul] at this
    rw [show ((2 : Nat) : Int) = 2 from rfl, show ((256 : Nat) : Int) = 256 from rfl] at this
    rw [this]
    ac_rfl
  rw [e1]
  have hp := UI_pos
  generalize (U : Int) = u at *
  show compareOfLessAndEq _ _ = compareOfLessAndEq _ _
  unfold compareOfLessAndEq
  have h1 : (k * u < 256 * i * u) ↔ k < 256 * i := ⟨fun h => Int.lt_of_mul_lt_mul_right h (Int.le_of_lt hp), fun h => Int.mul_lt_mul_of_pos_right h hp⟩
  have h2 : (k * u = 256 * i * u) ↔ k = 256 * i := ⟨fun h => Int.eq_of_mul_eq_mul_right (Int.ne_of_gt hp) h, fun h => by rw [h]⟩
  simp only [h1, h2]
end Mine
end mFL
section mFL2
open PySem PySem.Float64 PySem.Builtin.Math
set_option exponentiation.threshold 3000
namespace Mine

theorem natAbs_lt {z : Int} (h1 : -9000000000000000 < z) (h2 : z < 9000000000000000) : z.natAbs < 2 ^ 53 := by omega

theorem exp_one {e f x : Int} (h1 : x ≤ e + f) (h2 : -2148 ≤ x) (he : -1074 ≤ e) (hf : -1074 ≤ f) : (e + f - x).toNat + (x + 2148).toNat = (e + 1074).toNat + (f + 1074).toNat := by
  refine Int.ofNat_inj.mp ?_
  rw [Int.natCast_add, Int.natCast_add, Int.toNat_of_nonneg (by omega), Int.toNat_of_nonneg (by omega), Int.toNat_of_nonneg (by omega), Int.toNat_of_nonneg (by omega)]
  omega
theorem exp_two {g x : Int} (h1 : x ≤ g) (h2 : -2148 ≤ x) (hg : -1074 ≤ g) : (g - x).toNat + (x + 2148).toNat = (g + 1074).toNat + 1074 := by
  refine Int.ofNat_inj.mp ?_
  rw [Int.natCast_add, Int.natCast_add, Int.toNat_of_nonneg (by omega), Int.toNat_of_nonneg (by omega), Int.toNat_of_nonneg (by omega)]
  omega
theorem fv_fma0 {x y z : UInt64} {a b c : Int} (hx : FV x a) (hy : FV y b) (hz : FV z c) (hc : a * b = 256 * c) : FV (fma x y (neg z)) 0 := by
  have hn := fv_neg hz
  obtain ⟨⟨s, m, e, dx⟩, vx⟩ := hx
  obtain ⟨⟨s', k, f, dy⟩, vy⟩ := hy
  obtain ⟨⟨s'', n, g, dz⟩, vz⟩ := hn
  have he := decode_ge dx
  have hf := decode_ge dy
  have hg := decode_ge dz
  have key : sgn (s != s') (m * k * 2 ^ (e + f - min (e + f) g).toNat) + sgn s'' (n * 2 ^ (g - min (e + f) g).toNat) = 0 := by
    have hp : (0 : Int) < ((2 ^ (min (e + f) g + 2148).toNat : Nat) : Int) := Int.ofNat_lt.mpr (Nat.two_pow_pos _)
    have h1 : sgn (s != s') (m * k * 2 ^ (e + f - min (e + f) g).toNat) * ((2 ^ (min (e + f) g + 2148).toNat : Nat) : Int) = val x * val y := by
      rw [← sgn_mul, Nat.mul_assoc, ← Nat.pow_add, val_eq dx, val_eq dy, ← sgn_xor]
      have e1 : (e + f - min (e + f) g).toNat + (min (e + f) g + 2148).toNat = (e + 1074).toNat + (f + 1074).toNat := exp_one (Int.min_le_left _ _) (Int.le_min.mpr ⟨by omega, by omega⟩) he hf
      rw [e1, Nat.pow_add]
      congr 1
      ac_rfl
    have h2 : sgn s'' (n * 2 ^ (g - min (e + f) g).toNat) * ((2 ^ (min (e + f) g + 2148).toNat : Nat) : Int) = val (neg z) * ((2 ^ 1074 : Nat) : Int) := by
      rw [← sgn_mul, Nat.mul_assoc, ← Nat.pow_add, val_eq dz, ← sgn_mul, Nat.mul_assoc, ← Nat.pow_add]
      have e1 : (g - min (e + f) g).toNat + (min (e + f) g + 2148).toNat = (g + 1074).toNat + 1074 := exp_two (Int.min_le_right _ _) (Int.le_min.mpr ⟨by omega, by omega⟩) hg
      rw [e1]
    have h3 : (sgn (s != s') (m * k * 2 ^ (e + f - min (e + f) g).toNat) + sgn s'' (n * 2 ^ (g - min (e + f) g).toNat)) * ((2 ^ (min (e + f) g + 2148).toNat : Nat) : Int) = 0 := by
      rw [Int.add_mul, h1, h2, vx, vy, vz, U_eq, Int.natCast_mul]
      show a * (U : Int) * (b * (U : Int)) + -c * (U : Int) * (256 * (U : Int)) = 0
      have : a * (U : Int) * (b * (U : Int)) = 256 * c * ((U : Int) * (U : Int)) := by
        calc a * (U : Int) * (b * (U : Int)) = (a * b) * ((U : Int) * (U : Int)) := by ac_rfl
          _ = _ := by rw [hc]
      rw [this, Int.neg_mul, Int.neg_mul, show c * (U : Int) * (256 * (U : Int)) = 256 * c * ((U : Int) * (U : Int)) by ac_rfl]
      omega
    exact (Int.mul_eq_zero.mp h3).resolve_right (Int.ne_of_gt hp)
  unfold fma
  rw [dx, dy, dz]
  have hb : ((align (s != s') (m * k) (e + f) s'' n g).1 + (align (s != s') (m * k) (e + f) s'' n g).2.1 == 0) = true := by
    rw [beq_iff_eq]
    exact key
  show FV (if ((align (s != s') (m * k) (e + f) s'' n g).1 + (align (s != s') (m * k) (e + f) s'' n g).2.1 == 0) = true then zero _ else _) 0
  rw [if_pos hb]
  exact fv_zero _

theorem fv_dlSum {x y : UInt64} {p q : Int} (hx : FV x p) (hy : FV y q) (h1 : p.natAbs < 2 ^ 53) (h2 : q.natAbs < 2 ^ 53) (h3 : (p + q).natAbs < 2 ^ 53) :
    FV (dlSum x y).1 (p + q) ∧ FV (dlSum x y).2 0 := by
  have a1 := fv_add hx hy h3
  have a2 := fv_sub a1 hx (by rw [show p + q - p = q by omega]; exact h2)
  rw [show p + q - p = q by omega] at a2
  have a3 := fv_sub a1 a2 (by rw [show p + q - q = p by omega]; exact h1)
  rw [show p + q - q = p by omega] at a3
  have a4 := fv_sub hx a3 (by rw [Int.sub_self]; decide)
  have a5 := fv_sub hy a2 (by rw [Int.sub_self]; decide)
  rw [Int.sub_self] at a4 a5
  exact ⟨a1, fv_add a4 a5 (by decide)⟩

theorem fv_tlFma {x y t1 t2 t3 : UInt64} {a b c S : Int} (hx : FV x a) (hy : FV y b) (hc : a * b = 256 * c) (h1 : FV t1 S) (h2 : FV t2 0) (h3 : FV t3 0)
    (hcb : c.natAbs < 2 ^ 53) (hS : S.natAbs < 2 ^ 53) (hSc : (S + c).natAbs < 2 ^ 53) :
    FV (tlFma x y (t1, t2, t3)).1 (S + c) ∧ FV (tlFma x y (t1, t2, t3)).2.1 0 ∧ FV (tlFma x y (t1, t2, t3)).2.2 0 := by
  have hz := fv_mul hx hy hc hcb
  have he := fv_fma0 hx hy hz hc
  have s1 := fv_dlSum h1 hz hS hcb hSc
  have s2 := fv_dlSum h2 he (by decide) (by decide) (by decide)
  have s3 := fv_dlSum s2.1 s1.2 (by decide) (by decide) (by decide)
  exact ⟨s1.1, s3.1, fv_add (fv_add h3 s2.2 (by decide)) s3.2 (by decide)⟩

theorem fv_tlToFloat {t1 t2 t3 : UInt64} {S : Int} (h1 : FV t1 S) (h2 : FV t2 0) (h3 : FV t3 0) (hS : S.natAbs < 2 ^ 53) : FV (tlToFloat (t1, t2, t3)) S := by
  have s1 := fv_dlSum h2 h1 (by decide) hS (by rw [Int.zero_add]; exact hS)
  rw [Int.zero_add] at s1
  have s2 := fv_add h3 s1.2 (by decide)
  have s3 := fv_add s2 s1.1 (by rw [Int.add_zero, Int.zero_add]; exact hS)
  rw [Int.add_zero, Int.zero_add] at s3
  exact s3

/-- fsum's partial sums stand for S -/
def PS (ps : List UInt64) (S : Int) : Prop := (ps = [] ∧ S = 0) ∨ ∃ f, ps = [f] ∧ FV f S

theorem fsumAdd_is {ps : List UInt64} {S a : Int} {x : UInt64} (hp : PS ps S) (hx : FV x a) (h1 : S.natAbs < 2 ^ 53) (h2 : a.natAbs < 2 ^ 53) (h3 : (S + a).natAbs < 2 ^ 53) :
    (fsumAdd ps x).1 = [] ∧ FV (fsumAdd ps x).2 (S + a) := by
  rcases hp with ⟨rfl, rfl⟩ | ⟨f, rfl, hf⟩
  · rw [Int.zero_add]
    exact ⟨rfl, hx⟩
  · have body : ∀ u v : UInt64, ∀ p q : Int, FV u p → FV v q → p.natAbs < 2 ^ 53 → q.natAbs < 2 ^ 53 → (p + q).natAbs < 2 ^ 53 → FV (add u v) (p + q) ∧ isZero (sub v (sub (add u v) u)) = true := by
      intro u v p q hu hv b1 b2 b3
      have a1 := fv_add hu hv b3
      have a2 := fv_sub a1 hu (by rw [show p + q - p = q by omega]; exact b2)
      rw [show p + q - p = q by omega] at a2
      have a3 := fv_sub hv a2 (by rw [Int.sub_self]; decide)
      rw [Int.sub_self] at a3
      exact ⟨a1, by rw [fv_isZero a3]; rfl⟩
    unfold fsumAdd
    by_cases hlt : lt (abs x) (abs f) = true
    · simp only [hlt, if_true]
      obtain ⟨b1, b2⟩ := body f x S a hf hx h1 h2 h3
      simp only [b2, if_true]
      exact ⟨rfl, b1⟩
    · have hlt' : lt (abs x) (abs f) = false := by simpa using hlt
      simp only [hlt', Bool.false_eq_true, if_false]
      obtain ⟨b1, b2⟩ := body x f a S hx hf h2 h1 (by rw [Int.add_comm]; exact h3)
      simp only [b2, if_true]
      rw [Int.add_comm S a]
      exact ⟨rfl, b1⟩

theorem ps_next {ps : List UInt64} {S a : Int} {x : UInt64} (hp : PS ps S) (hx : FV x a) (h1 : S.natAbs < 2 ^ 53) (h2 : a.natAbs < 2 ^ 53) (h3 : (S + a).natAbs < 2 ^ 53) :
    isFinite (fsumAdd ps x).2 = true ∧ PS (if isZero (fsumAdd ps x).2 then (fsumAdd ps x).1 else (fsumAdd ps x).1 ++ [(fsumAdd ps x).2]) (S + a) := by
  obtain ⟨e, hf⟩ := fsumAdd_is hp hx h1 h2 h3
  refine ⟨fv_finite hf, ?_⟩
  rw [e, fv_isZero hf]
  by_cases h0 : S + a = 0
  · rw [h0]
    exact .inl ⟨rfl, rfl⟩
  · rw [decide_eq_false h0]
    exact .inr ⟨_, rfl, hf⟩

theorem fsumEnd_is {ps : List UInt64} {S : Int} (hp : PS ps S) : FV (fsumEnd ps) S := by
  rcases hp with ⟨rfl, rfl⟩ | ⟨f, rfl, hf⟩
  · exact fv_zero _
  · exact hf
end Mine
end mFL2
section mRL
open PySem PySem.Calls PySem.Spec PyProof.Rows
set_option maxRecDepth 100000
namespace Mine
theorem kind_fsum : builtinKind "math.fsum" = none := by decide +kernel
theorem plain_fsum : plainId "math.fsum" = true := by decide +kernel
theorem entry_fsum : entryFor table "math.fsum" = some Builtin.«math.fsum» := entryFor_of_fast (by kernel_rfl)
theorem args_fsum (a : Value) : argsOk "math.fsum" ⟨[a], []⟩ := by unfold argsOk; kernel_rfl
theorem plain_fsum_loop : plainId "math.fsum.loop" = true := by decide +kernel
theorem entry_fsum_loop : entryFor table "math.fsum.loop" = some Builtin.«math.fsum.loop» := entryFor_of_fast (by kernel_rfl)

theorem toNat_back (c : UInt64) : ((c.toNat : Int)).toNat.toUInt64 = c := by simp

/-- the tuple that fsum keeps its sums in -/
def Bits (h : Heap) (a : Addr) (ps : List UInt64) : Prop := h.get? a = some { cls := .type "tuple", data := .seq (ps.map fun x => rawInt x.toNat).toArray }

theorem notOver {n : Int} (h : n.natAbs < 2 ^ 60) : ¬ Flt.Over n := by
  intro o
  unfold Flt.Over at o
  have : (2 : Nat) ^ 60 < 2 ^ 1024 - 2 ^ 970 := by decide +kernel
  omega

theorem bits_gen (ps : List UInt64) (f : Value → UInt64) (hf : ∀ x : UInt64, f (rawInt (x.toNat : Int)) = x) : (List.map f ((some (ps.map fun x => rawInt (x.toNat : Int)).toArray).getD #[]).toList) = ps := by
  simp only [Option.getD_some, List.map_map]
  induction ps with
  | nil => rfl
  | cons x ps ih =>
    rw [List.map_cons, ih]
    congr 1
    exact hf x
theorem zero_zero : (!Float64.isZero ((Float64.zero false).toNat : Int).toNat.toUInt64) = false := by decide +kernel

section
variable {prog : Program} {w : World} {A : Around} {R : Result → Shared → Prop} {I : Addr} {fp wr : List Addr} {n : Nat} {P : Nat → Value → Prop} {St : Nat → Heap → Prop}

theorem codeAny_fsum_loop (hh : A.handled = none) (W : Walks prog w A.in1 I fp wr n P St) (val : Nat → Int) (hval : ∀ i v, P i v → ∃ t, v = .int (val i) t)
    (hb : ∀ i, i < n → (val i).natAbs < 2 ^ 40) (hsum : ∀ i, i ≤ n → (256 * preSum val i).natAbs < 2 ^ 53) (hW : ∀ i h, St i h → ∀ b ∈ wr, b < h.objs.size) (D : Addr) (hDf : D ∉ wr) :
    ∀ (k i : Nat) (s : Shared) (C : Addr) (ps : List UInt64), n - i = k → i ≤ n → St i s.heap → C ∉ wr → Bits s.heap C ps → PS ps (256 * preSum val i) → Bits s.heap D [Float64.zero false, Float64.zero false] →
      (∀ f t h' tk, FV f (256 * preSum val n) → (∀ b o, b ∉ wr → s.heap.get? b = some o → h'.get? b = some o) → R (.ok (.ret (.float f t))) { s with heap := h', toks := tk }) →
      codeAny (model prog w) A (.builtin "math.fsum.loop" ⟨[.ref I, .ref C, .ref D], []⟩) R s := by
  intro k
  induction k with
  | zero =>
    intro i s C ps hk hi hst hCw hC hps hD hR
    have hin : i = n := by omega
    subst hin
    refine codeAny_builtin entry_fsum_loop ?_
    rw [Around.under_plainId plain_fsum_loop _]
    show wpAny _ A.in1 ((seqItems? (.ref C) >>= _) >>= _) _ _ s
    refine wpAny_bind (wpAny_bind (wpAny_seqItems hC rfl (wpAny_pure ?_)))
    show wpAny _ A.in1 ((seqItems? (.ref D) >>= _) >>= _) _ _ s
    refine wpAny_bind (wpAny_bind (wpAny_seqItems hD rfl (wpAny_pure ?_)))
    show wpAny _ A.in1 (pyNext (.ref I) >>= _) _ _ s
    refine wpAny_bind (W.done s _ _ hst fun h' tk hk' => ?_)
    show wpAny _ A.in1 (if (!Float64.isZero ((Float64.zero false).toNat : Int).toNat.toUInt64) = true then _ else Builtin.Float.retFloat (Float64.fsumEnd (List.map (fun v : Value => match v with | .int i _ => i.toNat.toUInt64 | _ => 0) ((some (ps.map fun x => rawInt (x.toNat : Int)).toArray).getD #[]).toList))) _ _ _
    rw [if_neg (by rw [zero_zero]; decide), bits_gen _ _ fun x => toNat_back x]
    exact wpAny_bind (fun _ _ _ => fun _ _ _ => hR _ _ h' _ (fsumEnd_is hps) hk')
  | succ k ih =>
    intro i s C ps hk hi hst hCw hC hps hD hR
    have hlt : i < n := by omega
    refine codeAny_builtin entry_fsum_loop ?_
    rw [Around.under_plainId plain_fsum_loop _]
    show wpAny _ A.in1 ((seqItems? (.ref C) >>= _) >>= _) _ _ s
    refine wpAny_bind (wpAny_bind (wpAny_seqItems hC rfl (wpAny_pure ?_)))
    show wpAny _ A.in1 ((seqItems? (.ref D) >>= _) >>= _) _ _ s
    refine wpAny_bind (wpAny_bind (wpAny_seqItems hD rfl (wpAny_pure ?_)))
    show wpAny _ A.in1 (pyNext (.ref I) >>= _) _ _ s
    refine wpAny_bind (W.item i s _ _ hlt hst fun v h' tk hP hst' hk' => ?_)
    obtain ⟨t, rfl⟩ := hval i v hP
    have hbi := hb i hlt
    show wpAny _ A.in1 (Builtin.Math.realArg (.int (val i) t) >>= _) _ _ _
    refine wpAny_bind (Flt.realArg_int (A := A.in1) hh (fun o => absurd o (notOver (by omega))) fun _ => ?_)
    have hx : FV (Float64.ofInt (val i)) (256 * val i) := fv_ofInt (by omega)
    have s1 := hsum i (by omega)
    have s2 := hsum (i + 1) (by omega)
    obtain ⟨hfin, hps'⟩ := ps_next hps hx s1 (by omega) (by
      have e : 256 * preSum val i + 256 * val i = 256 * preSum val (i + 1) := by show _ = 256 * (preSum val i + val i); omega
      rw [e]; exact s2)
    have e : 256 * preSum val i + 256 * val i = 256 * preSum val (i + 1) := by show _ = 256 * (preSum val i + val i); omega
    rw [e] at hps'
    rw [bits_gen ps _ ?hf]
    case hf => intro x; exact toNat_back x
    show wpAny _ A.in1 (if Float64.isFinite (Float64.fsumAdd ps (Float64.ofInt (val i))).2 = true then _ else _) _ _ _
    rw [if_pos hfin]
    generalize (if Float64.isZero (Float64.fsumAdd ps (Float64.ofInt (val i))).snd = true then (Float64.fsumAdd ps (Float64.ofInt (val i))).fst else (Float64.fsumAdd ps (Float64.ofInt (val i))).fst ++ [(Float64.fsumAdd ps (Float64.ofInt (val i))).snd]) = ps' at hps' ⊢
    show wpAny _ A.in1 (newTuple (ps'.map fun x => rawInt (x.toNat : Int)) >>= _) _ _ _
    unfold newTuple
    have hlen : ps'.length ≤ 1 := by
      rcases hps' with ⟨rfl, _⟩ | ⟨f, rfl, _⟩
      · exact Nat.zero_le _
      · exact Nat.le_refl _
    refine wpAny_bind (wpAny_newObj_type ?_ (by
      show (ps'.map fun x => rawInt (x.toNat : Int)).toArray.size ≤ _
      rw [List.size_toArray, List.length_map, sizeLine_eq]
      omega))
    refine wpAny_pure ⟨plainId_quiet plain_fsum_loop _, ih (i + 1) _ _ ps' (by omega) hlt (W.frame _ _ _ hst' fun b _ o e => Heap.get?_push_of_some _ e) (fun hm => Nat.lt_irrefl _ (hW _ _ hst' _ hm)) (Heap.get?_push_size _ rfl) hps' (Heap.get?_push_of_some _ (hk' _ _ hDf hD)) ?_⟩
    exact fun f t h'' tk'' hf hk'' => hR f t h'' tk'' hf fun b o hb e => hk'' b o hb (Heap.get?_push_of_some _ (hk' b o hb e))
end

theorem sum_preSum (xs : List Int) : ∀ j, preSum (fun i => xs.getD i 0) j = (xs.take j).sum := preSum_getD xs

section
variable {prog : Program} {w : World} {A : Around} {E : Value → Shared → Prop} {s : Shared} {Q : Value → Shared → Prop}

theorem listIter_lt {h : Heap} {I l : Addr} {i : Nat} (x : h.IsListIter I l i) : I < h.objs.size := by
  obtain ⟨o, ho, _⟩ := x
  exact Heap.lt_size ho

theorem call_again {id : String} {b : Builtin} {args : List Value} (hk : builtinKind id = none) (hp : plainId id = true) (hb : entryFor table id = some b) (ha : argsOk id ⟨args, []⟩)
    (hc : wpAny (model prog w) A.in1 (b ⟨args, []⟩) (fun fin s' => match fin with
      | .done f => (match (Except.ok f : Result) with | .ok (.ret v) => Q v s' | .ok _ => False | .error e => E e s')
      | .again c' => c'.quiet = true ∧ codeAny (model prog w) A c' (fun r s' => match r with | .ok (.ret v) => Q v s' | .ok _ => False | .error e => E e s') s') E s) :
    wpAny (model prog w) A (call (.builtin id) args) Q E s := call_function_tree hk hp hb ha hc

/-- fsum of a list of ints: their sum, exactly -/
theorem fsum_list (hh : A.handled = none) {l : Addr} {vs : List Value} {xs : List Int} (hl : s.heap.IsList l vs.toArray) (hi : IntsAre vs xs)
    (hb : ∀ x ∈ xs, -(2 ^ 30) ≤ x ∧ x ≤ 2 ^ 30) (hn : xs.length ≤ 100)
    (hQ : ∀ f t h' tk, FV f (256 * xs.sum) → (∀ b o, s.heap.get? b = some o → h'.get? b = some o) → Q (.float f t) { s with heap := h', toks := tk }) :
    wpAny (model prog w) A (call (.builtin "math.fsum") [.ref l]) Q E s := by
  refine call_again kind_fsum plain_fsum entry_fsum (args_fsum _) ?_
  show wpAny _ A.in1 (pyIter (.ref l) >>= _) _ _ s
  refine wpAny_bind (wpAny_pyIter_list hl ?_)
  show wpAny _ A.in1 (newTuple (([] : List UInt64).map fun x => rawInt (x.toNat : Int)) >>= _) _ _ _
  unfold newTuple
  refine wpAny_bind (wpAny_newObj_type ?_ (by size_fits))
  show wpAny _ A.in1 (newTuple (([Float64.zero false, Float64.zero false] : List UInt64).map fun x => rawInt (x.toNat : Int)) >>= _) _ _ _
  unfold newTuple
  refine wpAny_bind (wpAny_newObj_type ?_ (by size_fits))
  have hlen : vs.toArray.size = xs.length := by rw [List.size_toArray, hi.length]
  have hln : l < s.heap.objs.size := by
    obtain ⟨o, ho, _⟩ := hl
    exact Heap.lt_size ho
  have pre : ∀ j i : Nat, i ≤ j → j ≤ 100 → -(2 ^ 30 * (i : Int)) ≤ preSum (fun i => xs.getD i 0) i ∧ preSum (fun i => xs.getD i 0) i ≤ 2 ^ 30 * (i : Int) := by
    intro j i hij hj
    induction i with
    | zero => simp [preSum]
    | succ i ih =>
      have h1 := ih (by omega)
      have h2 : -(2 ^ 30) ≤ xs.getD i 0 ∧ xs.getD i 0 ≤ 2 ^ 30 := by
        rw [List.getD_eq_getElem?_getD]
        cases hx : xs[i]? with
        | none => exact ⟨by decide, by decide⟩
        | some x => exact hb x (List.mem_of_getElem? hx)
      show _ ≤ preSum _ i + xs.getD i 0 ∧ preSum _ i + xs.getD i 0 ≤ _
      omega
  have hxs : preSum (fun i => xs.getD i 0) vs.toArray.size = xs.sum := by
    rw [sum_preSum, hlen, List.take_of_length_le (Nat.le_refl _)]
  refine wpAny_pure ⟨plainId_quiet plain_fsum_loop _, codeAny_fsum_loop (A := A) hh (Walks.list (A := A.in1) hh s.heap.objs.size l (Nat.ne_of_lt hln) vs.toArray) (fun i => xs.getD i 0)
    (fun i v hv => hi.int_at i v (by simpa using hv)) (fun i hlt => ?_) (fun i hle => ?_) (fun i h st b hb => ?_) _ (fun hm => ?_) vs.toArray.size 0 _ _ [] (Nat.sub_zero _) (Nat.zero_le _) ⟨?_, ?_⟩ (fun hm => ?_) ?_ (.inl ⟨rfl, rfl⟩) ?_ ?_⟩
  · rw [List.getD_eq_getElem?_getD]
    cases hx : xs[i]? with
    | none => decide
    | some x =>
      have := hb x (List.mem_of_getElem? hx)
      show x.natAbs < _
      omega
  · have := pre 100 i (by omega) (Nat.le_refl _)
    omega
  · rw [List.mem_singleton.mp hb]
    exact listIter_lt st.1
  · have h1 := List.mem_singleton.mp hm
    simp only [Heap.size_push] at h1
    have h2 : (s.heap.objs.size + 1 + 1 : Nat) = s.heap.objs.size := h1
    omega
  · exact ⟨_, Heap.get?_push_of_some _ (Heap.get?_push_of_some _ (Heap.get?_push_size _ rfl)), rfl, rfl⟩
  · obtain ⟨o, ho, r⟩ := hl
    exact ⟨o, Heap.get?_push_of_some _ (Heap.get?_push_of_some _ (Heap.get?_push_of_some _ ho)), r⟩
  · have h1 := List.mem_singleton.mp hm
    simp only [Heap.size_push] at h1
    have h2 : (s.heap.objs.size + 1 : Nat) = s.heap.objs.size := h1
    omega
  · exact Heap.get?_push_of_some _ (Heap.get?_push_size _ rfl)
  · exact Heap.get?_push_size _ rfl
  · intro f t h' tk hf hk
    rw [hxs] at hf
    exact hQ f t h' tk hf fun b o e => hk b o (fun hm => by
      have h1 := Heap.lt_size e
      rw [List.mem_singleton.mp hm] at h1
      exact Nat.lt_irrefl _ h1) (Heap.get?_push_of_some _ (Heap.get?_push_of_some _ (Heap.get?_push_of_some _ e)))
end
end Mine
end mRL
section mSP
open PySem PySem.Calls PySem.Spec PyProof.Rows
set_option maxRecDepth 100000
namespace Mine
theorem kind_sumprod : builtinKind "math.sumprod" = none := by decide +kernel
theorem plain_sumprod : plainId "math.sumprod" = true := by decide +kernel
theorem entry_sumprod : entryFor table "math.sumprod" = some Builtin.«math.sumprod» := entryFor_of_fast (by kernel_rfl)
theorem args_sumprod (a b : Value) : argsOk "math.sumprod" ⟨[a, b], []⟩ := by unfold argsOk; kernel_rfl
theorem plain_sumprod_loop : plainId "math.sumprod.loop" = true := by decide +kernel
theorem entry_sumprod_loop : entryFor table "math.sumprod.loop" = some Builtin.«math.sumprod.loop» := entryFor_of_fast (by kernel_rfl)

def three (t : UInt64 × UInt64 × UInt64) : List Value := [rawInt (t.1.toNat : Int), rawInt (t.2.1.toNat : Int), rawInt (t.2.2.toNat : Int)]
def Tri (h : Heap) (a : Addr) (t : UInt64 × UInt64 × UInt64) : Prop := h.get? a = some { cls := .type "tuple", data := .seq (three t).toArray }
def FTri (t : UInt64 × UInt64 × UInt64) (S : Int) : Prop := FV t.1 S ∧ FV t.2.1 0 ∧ FV t.2.2 0

section
variable {prog : Program} {w : World} {A : Around} {R : Result → Shared → Prop} {p q : Addr} {fp₁ wr₁ fp₂ wr₂ : List Addr} {G₁ G₂ : Array GenState → Array GenState → Prop} {n : Nat} {St₁ St₂ : Nat → Shared → Prop} {a b c : Nat → Int}
  {P₁ P₂ : Nat → Value → Prop}

theorem codeAny_sumprod_loop (W₁ : WalksS prog w A.in1 p fp₁ wr₁ G₁ n P₁ St₁) (W₂ : WalksS prog w A.in1 q fp₂ wr₂ G₂ n P₂ St₂)
    (hP₁ : ∀ i v, P₁ i v → ∃ f t, v = .float f t ∧ FV f (a i)) (hP₂ : ∀ i v, P₂ i v → ∃ f t, v = .float f t ∧ FV f (b i))
    (c₁₂ : ∀ i s s', St₂ i s → Moved wr₁ G₁ s s' → St₂ i s') (c₂₁ : ∀ i s s', St₁ i s → Moved wr₂ G₂ s s' → St₁ i s')
    (hc : ∀ i, i < n → a i * b i = 256 * c i) (hcb : ∀ i, i < n → (c i).natAbs < 2 ^ 53) (hS : ∀ i, i ≤ n → (preSum c i).natAbs < 2 ^ 53)
    (hh : A.handled = none) (hg₁ : ∀ a b, G₁ a b → (∀ y ∈ a, y.bare = true) → ∀ y ∈ b, y.bare = true) (hg₂ : ∀ a b, G₂ a b → (∀ y ∈ a, y.bare = true) → ∀ y ∈ b, y.bare = true) (hw : ∀ i j s, St₁ i s → St₂ j s → ∀ x, x ∈ wr₁ ∨ x ∈ wr₂ → x < s.heap.objs.size) (hn : 0 < n) :
    ∀ (k i : Nat) (s : Shared) (C : Addr) (t : UInt64 × UInt64 × UInt64) (tot : Tok) (io fu : Bool), n - i = k → i ≤ n → St₁ i s → St₂ i s → C ∉ wr₁ → C ∉ wr₂ → Tri s.heap C t → FTri t (preSum c i) → (i = 0 ∨ (io = false ∧ fu = true)) →
      (∀ f u s', FV f (preSum c n) → (∀ x o, x ∉ wr₁ → x ∉ wr₂ → s.heap.get? x = some o → s'.heap.get? x = some o) → ((∀ y ∈ s.gens, y.bare = true) → ∀ y ∈ s'.gens, y.bare = true) → s'.drawn = s.drawn → s'.os = s.os → R (.ok (.ret (.float f u))) s') →
      codeAny (model prog w) A (.builtin "math.sumprod.loop" ⟨[.ref p, .ref q, .int 0 tot, .bool io, rawInt 0, .bool false, .bool true, .ref C, .bool fu], []⟩) R s := by
  intro k
  induction k with
  | zero =>
    intro i s C t tot io fu hk hi hs₁ hs₂ hC₁ hC₂ hC ht hf hR
    have hin : i = n := by omega
    subst hin
    obtain ⟨rfl, rfl⟩ : io = false ∧ fu = true := hf.resolve_left (by omega)
    refine codeAny_builtin entry_sumprod_loop ?_
    rw [Around.under_plainId plain_sumprod_loop _]
    show wpAny _ A.in1 (seqItems? (.ref C) >>= _) _ _ s
    refine wpAny_bind (wpAny_seqItems hC rfl ?_)
    show wpAny _ A.in1 (pyNext (.ref p) >>= _) _ _ s
    refine wpAny_bind (W₁.done s _ _ hs₁ fun s₁ m₁ => ?_)
    refine wpAny_bind (wpAny_holding (W₂.done s₁ _ _ (c₁₂ _ _ _ hs₂ m₁) fun s₂ m₂ => ?_))
    obtain ⟨t₁, t₂, t₃⟩ := t
    obtain ⟨g₁, g₂, g₃⟩ := ht
    have hfl : FV (Builtin.Math.tlToFloat (t₁, t₂, t₃)) (preSum c i) := fv_tlToFloat g₁ g₂ g₃ (hS i hi)
    show wpAny _ A.in1 (rule "math.sumprod.leaves-floats" >>= fun _ => _) _ _ _
    refine wpAny_bind (wpAny_rule ?_)
    show wpAny _ A.in1 (mkFloat (Builtin.Math.tlToFloat (((t₁.toNat : Int)).toNat.toUInt64, ((t₂.toNat : Int)).toNat.toUInt64, ((t₃.toNat : Int)).toNat.toUInt64)) >>= _) _ _ _
    rw [toNat_back, toNat_back, toNat_back]
    refine wpAny_bind (wpAny_mkFloat (wpAny_bind (wpAny_holding (add_if_fits ?_ ?_))))
    · decide
    show wpAny _ A.in1 (ret _) _ _ _
    refine wpAny_pure ?_
    have hfin : FV (Float64.add (Float64.ofInt 0) (Builtin.Math.tlToFloat (t₁, t₂, t₃))) (preSum c i) := by
      have h := fv_add (fv_ofInt (i := 0) (by decide)) hfl (by rw [Int.mul_zero, Int.zero_add]; exact hS i hi)
      rw [Int.mul_zero, Int.zero_add] at h
      exact h
    exact hR _ _ _ hfin (fun x o h1 h2 e => m₂.heap x o h2 (m₁.heap x o h1 e)) (fun hb => hg₂ _ _ m₂.gens (hg₁ _ _ m₁.gens hb)) (m₂.drawn.trans m₁.drawn) (m₂.os.trans m₁.os)
  | succ k ih =>
    intro i s C t tot io fu hk hi hs₁ hs₂ hC₁ hC₂ hC ht hf hR
    have hlt : i < n := by omega
    refine codeAny_builtin entry_sumprod_loop ?_
    rw [Around.under_plainId plain_sumprod_loop _]
    show wpAny _ A.in1 (seqItems? (.ref C) >>= _) _ _ s
    refine wpAny_bind (wpAny_seqItems hC rfl ?_)
    show wpAny _ A.in1 (pyNext (.ref p) >>= _) _ _ s
    refine wpAny_bind (W₁.item i s _ _ hlt hs₁ fun v₁ s₁ hv₁ hs₁' m₁ => ?_)
    refine wpAny_bind (wpAny_holding (W₂.item i s₁ _ _ hlt (c₁₂ _ _ _ hs₂ m₁) fun v₂ s₂ hv₂ hs₂' m₂ => ?_))
    obtain ⟨f₁, t₁, rfl, h₁⟩ := hP₁ i v₁ hv₁
    obtain ⟨f₂, t₂, rfl, h₂⟩ := hP₂ i v₂ hv₂
    obtain ⟨t₁, t₂, t₃⟩ := t
    obtain ⟨g₁, g₂, g₃⟩ := ht
    have e1 : preSum c (i + 1) = preSum c i + c i := rfl
    have b1 := hS (i + 1) hlt
    rw [e1] at b1
    obtain ⟨n₁, n₂, n₃⟩ := fv_tlFma h₁ h₂ (hc i hlt) g₁ g₂ g₃ (hcb i hlt) (hS i hi) b1
    have core : ∀ X : Sem Fin, wpAny (model prog w) A.in1 (if Float64.isFinite (Builtin.Math.tlFma f₁ f₂ (t₁, t₂, t₃)).1 = true then
        (newTuple [rawInt (Builtin.Math.tlFma f₁ f₂ (t₁, t₂, t₃)).1.toNat, rawInt (Builtin.Math.tlFma f₁ f₂ (t₁, t₂, t₃)).2.1.toNat, rawInt (Builtin.Math.tlFma f₁ f₂ (t₁, t₂, t₃)).2.2.toNat] >>= fun t =>
          again (.builtin "math.sumprod.loop" ⟨[.ref p, .ref q, .int 0 tot, .bool false, rawInt 0, .bool false, .bool true, t, .bool true], []⟩)) else X)
        (fun fin s' => match fin with | .done f => R (.ok f) s' | .again c' => c'.quiet = true ∧ codeAny (model prog w) A c' R s') (fun e s' => R (.error e) s') s₂ := by
      intro X
      rw [if_pos (fv_finite n₁)]
      unfold newTuple
      refine wpAny_bind (wpAny_newObj_type ?_ (by size_fits))
      refine wpAny_pure ⟨plainId_quiet plain_sumprod_loop _, ?_⟩
      have up : ∀ b o, s₂.heap.get? b = some o → (s₂.heap.push ({ cls := .type "tuple", data := .seq (three (Builtin.Math.tlFma f₁ f₂ (t₁, t₂, t₃))).toArray } : Obj)).get? b = some o := fun b o e => Heap.get?_push_of_some _ e
      have hs₁'' := c₂₁ _ _ _ hs₁' m₂
      refine ih (i + 1) _ _ (Builtin.Math.tlFma f₁ f₂ (t₁, t₂, t₃)) tot false true (by omega) hlt (W₁.frame _ _ _ _ hs₁'' (Nat.le_refl _) fun b _ o e => up b o e) (W₂.frame _ _ _ _ hs₂' (Nat.le_refl _) fun b _ o e => up b o e)
        (fun hm => Nat.lt_irrefl _ (hw _ _ _ hs₁'' hs₂' _ (.inl hm))) (fun hm => Nat.lt_irrefl _ (hw _ _ _ hs₁'' hs₂' _ (.inr hm))) (Heap.get?_push_size _ rfl) ⟨by rw [e1]; exact n₁, n₂, n₃⟩ (.inr ⟨rfl, rfl⟩) ?_
      intro f u s' hf' hk' hg' hd' ho'
      exact hR f u s' hf' (fun x o h1 h2 e => hk' x o h1 h2 (up x o (m₂.heap x o h2 (m₁.heap x o h1 e)))) (fun hb => hg' (hg₂ _ _ m₂.gens (hg₁ _ _ m₁.gens hb))) (hd'.trans (m₂.drawn.trans m₁.drawn)) (ho'.trans (m₂.os.trans m₁.os))
    cases io with
    | false =>
      show wpAny _ A.in1 (if Float64.isFinite (Builtin.Math.tlFma f₁ f₂ (((t₁.toNat : Int)).toNat.toUInt64, ((t₂.toNat : Int)).toNat.toUInt64, ((t₃.toNat : Int)).toNat.toUInt64)).1 = true then _ else _) _ _ _
      simp only [toNat_back]
      exact core _
    | true =>
      show wpAny _ A.in1 (rule "math.sumprod.leaves-ints" >>= fun _ => if Float64.isFinite (Builtin.Math.tlFma f₁ f₂ (((t₁.toNat : Int)).toNat.toUInt64, ((t₂.toNat : Int)).toNat.toUInt64, ((t₃.toNat : Int)).toNat.toUInt64)).1 = true then _ else _) _ _ _
      refine wpAny_bind (wpAny_rule ?_)
      simp only [toNat_back]
      exact core _
end

section
variable {prog : Program} {w : World} {A : Around} {E : Value → Shared → Prop} {s : Shared} {Q : Value → Shared → Prop} {p q : Addr} {fp₁ wr₁ fp₂ wr₂ : List Addr} {G₁ G₂ : Array GenState → Array GenState → Prop} {n : Nat} {St₁ St₂ : Nat → Shared → Prop} {a b c : Nat → Int}
  {P₁ P₂ : Nat → Value → Prop}
theorem call_sumprod (hh : A.handled = none) (W₁ : WalksS prog w A.in1.in1 p fp₁ wr₁ G₁ n P₁ St₁) (W₂ : WalksS prog w A.in1.in1 q fp₂ wr₂ G₂ n P₂ St₂)
    (hP₁ : ∀ i v, P₁ i v → ∃ f t, v = .float f t ∧ FV f (a i)) (hP₂ : ∀ i v, P₂ i v → ∃ f t, v = .float f t ∧ FV f (b i))
    (c₁₂ : ∀ i s s', St₂ i s → Moved wr₁ G₁ s s' → St₂ i s') (c₂₁ : ∀ i s s', St₁ i s → Moved wr₂ G₂ s s' → St₁ i s')
    (hc : ∀ i, i < n → a i * b i = 256 * c i) (hcb : ∀ i, i < n → (c i).natAbs < 2 ^ 53) (hS : ∀ i, i ≤ n → (preSum c i).natAbs < 2 ^ 53)
    (hg₁ : ∀ a b, G₁ a b → (∀ y ∈ a, y.bare = true) → ∀ y ∈ b, y.bare = true) (hg₂ : ∀ a b, G₂ a b → (∀ y ∈ a, y.bare = true) → ∀ y ∈ b, y.bare = true)
    (hw : ∀ i j s, St₁ i s → St₂ j s → ∀ x, x ∈ wr₁ ∨ x ∈ wr₂ → x < s.heap.objs.size) (hn : 0 < n) (hs₁ : St₁ 0 s) (hs₂ : St₂ 0 s)
    (hQ : ∀ f u s', FV f (preSum c n) → (∀ x o, x ∉ wr₁ → x ∉ wr₂ → s.heap.get? x = some o → s'.heap.get? x = some o) → ((∀ y ∈ s.gens, y.bare = true) → ∀ y ∈ s'.gens, y.bare = true) → s'.drawn = s.drawn → s'.os = s.os → Q (.float f u) s') :
    wpAny (model prog w) A (call (.builtin "math.sumprod") [.ref p, .ref q]) Q E s := by
  refine call_again kind_sumprod plain_sumprod entry_sumprod (args_sumprod _ _) ?_
  show wpAny _ A.in1 (pyIter (.ref p) >>= _) _ _ s
  refine wpAny_bind (wpAny_of_in1 (W₁.self 0 s _ _ hs₁ ?_))
  refine wpAny_bind (wpAny_holding (wpAny_of_in1 (W₂.self 0 s _ _ hs₂ ?_)))
  refine wpAny_bind (wpAny_mkInt ?_)
  show wpAny _ A.in1 (newTuple [rawInt ((Float64.zero false).toNat : Int), rawInt ((Float64.zero false).toNat : Int), rawInt ((Float64.zero false).toNat : Int)] >>= _) _ _ _
  unfold newTuple
  refine wpAny_bind (wpAny_newObj_type ?_ (by size_fits))
  refine wpAny_pure ⟨plainId_quiet plain_sumprod_loop _, ?_⟩
  have up : ∀ b o, s.heap.get? b = some o → (s.heap.push ({ cls := .type "tuple", data := .seq (three (Float64.zero false, Float64.zero false, Float64.zero false)).toArray } : Obj)).get? b = some o := fun b o e => Heap.get?_push_of_some _ e
  refine codeAny_sumprod_loop (a := a) (b := b) (c := c) (W₁.of_in1) (W₂.of_in1) hP₁ hP₂ c₁₂ c₂₁ hc hcb hS hh hg₁ hg₂ hw hn n 0 _ _ (Float64.zero false, Float64.zero false, Float64.zero false) _ true false (Nat.sub_zero _) (Nat.zero_le _)
    (W₁.frame 0 s _ (s.toks + 1) hs₁ (Nat.le_succ _) fun b _ o e => up b o e) (W₂.frame 0 s _ (s.toks + 1) hs₂ (Nat.le_succ _) fun b _ o e => up b o e)
    (fun hm => Nat.lt_irrefl _ (hw _ _ _ hs₁ hs₂ _ (.inl hm))) (fun hm => Nat.lt_irrefl _ (hw _ _ _ hs₁ hs₂ _ (.inr hm))) (Heap.get?_push_size _ rfl) ⟨fv_zero _, fv_zero _, fv_zero _⟩ (.inl rfl) ?_
  intro f u s' hf' hk' hg' hd' ho'
  exact hQ f u s' hf' (fun x o h1 h2 e => hk' x o h1 h2 (up x o e)) hg' hd' ho'
end
end Mine
end mSP
section mGN
open PySem PySem.Spec PySem.Calls PySem.W PyProof.Rows
set_option maxRecDepth 100000
namespace Mine

theorem natLt {a b : Nat} (h : a < b) : a < b := h
theorem natEq {a b : Nat} (h : a = b) : a = b := h
/-- a code object's table of inner codes -/
def CodeTab (o : Obj) : Prop := ∃ ps, o = tabObj ps ∧ TriplesOk ps.toList
/-- a code object whose table lies at P -/
def CodeHas (h : Heap) (c P : Addr) : Prop := ∃ o vs, h.get? c = some o ∧ o.cls = .type "code" ∧ o.data = .fields vs ∧ vs[11]? = some (.ref P) ∧ vs.getD 11 .none = .ref P ∧ (∃ a b, vs.getD 18 .none = .str a b) ∧ (∃ a b, vs.getD 7 .none = .int a b) ∧ (∃ a, vs.getD 9 .none = .bool a) ∧ (∃ a b, vs.getD 10 .none = .int a b) ∧ c ≠ P

theorem isCode_of {h₀ h : Heap} {c P : Addr} {o : Obj} (C : CodeHas h₀ c P) (hk : ∀ b o, h₀.get? b = some o → h.get? b = some o) (ho : h.get? P = some o) (ht : CodeTab o) : ∃ ps, h.IsCode c P ps ∧ h.TableAt c P ps := by
  obtain ⟨oc, vs, g, cc, d, h11', h11, ⟨f, ft, h18⟩, ⟨fl, flt, h7⟩, ⟨b, h9⟩, ⟨t, tt, h10⟩, hne⟩ := C
  obtain ⟨ps, rfl, htr⟩ := ht
  exact ⟨ps, ⟨oc, vs, f, ft, fl, flt, b, t, tt, _, hk _ _ g, d, h11, h18, h7, h9, h10, ho, rfl, htr, hne⟩, ⟨oc, vs, hk _ _ g, cc, d, h11'⟩, ho⟩

theorem tab_of {h : Heap} {c P : Addr} {ps : Array Value} (x : h.IsCode c P ps) (hp : h.get? P = some (tabObj ps)) : ∃ o, h.get? P = some o ∧ CodeTab o := by
  obtain ⟨o, vs, file, tf, flags, tg, inF, text, tt, op, _, _, _, _, _, _, _, hop, hpd, htr, _⟩ := x
  exact ⟨_, hp, ps, rfl, htr⟩
theorem genexprCode_tab {M : Model} {A : Around} {E : Value → Shared → Prop} {s : Shared} {env : Env} {c P : Addr} {ps : Array Value} {pos : Pos} {qualname : Str} {scope : Scope} {Q : Value → Shared → Prop} (hc : env.code = .ref c) (hok : s.heap.IsCode c P ps) (htab : s.heap.TableAt c P ps)
    (hQ : ∀ code h' tk ps', Heap.ExtBut P s.heap h' → h'.IsCode c P ps' → h'.get? P = some (tabObj ps') → Q code { s with heap := h', toks := tk }) :
    wpAny M A (genexprCode env pos qualname scope) Q E s := by
  cases hnf : codeAmong pos ps.toList with
  | some cv => exact wpAny_genexprCode_hit hc hok hnf (hQ cv s.heap s.toks ps (Heap.ExtBut.refl _ _) hok htab.2)
  | none => exact wpAny_genexprCodeX hc hok htab hnf (fun c' h' tk he _ _ hi _ ht _ => hQ _ h' tk _ he hi ht.2)

theorem genAt_up {prog : Program} {w : World} {A : Around} {a : Addr} {g : Nat} {C : Addr} {fp wr : List Addr} {pz : Nat → Bool} {n₀ : Nat} {F : Nat → Value → Prop} {j : Nat} {s s' : Shared}
    (x : GenAt prog w A a g C fp wr pz n₀ F j s) (hcs : cStatics ∈ fp) (hk : ∀ b ∈ a :: C :: fp, ∀ o, s.heap.get? b = some o → s'.heap.get? b = some o) (hg : ∀ y, s.gens[g]? = some y → s'.gens[g]? = some y) :
    GenAt prog w A a g C fp wr pz n₀ F j s' := by
  obtain ⟨⟨o, nm, qn, ho, r⟩, ⟨mc, hns, hnn⟩, gs, hgs, hgo⟩ := x
  exact ⟨⟨o, nm, qn, hk a (List.mem_cons_self ..) o ho, r⟩, ⟨mc, hns.at' fun o e => hk cStatics (List.mem_cons_of_mem _ (List.mem_cons_of_mem _ hcs)) o e, hnn⟩, gs, hg _ hgs,
    fun s'' hal => hgo s'' fun b hb o e => hal b hb o (hk b (List.mem_cons_of_mem _ hb) o e)⟩

theorem passing_all (n : Nat) : passing (fun _ => true) n 0 = List.range n := by
  unfold passing
  rw [List.drop_zero, List.filter_eq_self.mpr fun _ _ => rfl]

abbrev FloatAt (d : Nat → Int) (i : Nat) (v : Value) : Prop := ∃ f t, v = .float f t ∧ FV f (d i)

section
variable {prog : Program} {w : World} {A : Around} {E : Value → Shared → Prop} {s : Shared} {h₀ : Heap} {L a : Addr} {m : Str → Option Value} {news : List (Addr × Obj)} {Q : Value → Shared → Prop}
  {cn : Str} {cs : Scope} {cl : List (Str × Addr)} {p : Program} {loose : List Str} {mean : ExcName → Option Value} {mg mb : Str → Option Value}
  {xi xb x : Str} {px pxi p1 p2 : Pos} {scope : Scope} {pos : Pos} {c P l cb : Addr} {vs : List Value} {k : Nat} {oc ot : Obj} {f : UInt64} {t : Tok} {g : Obj → List (Addr × Obj)} {p3 : Pos} {cl' : List (Str × Addr)}

theorem quiet_sub {cenv : Env} {I : Addr} {href : Heap} {d : Nat → Int} {cx : Int} {xs : List Int} (hfx : FV f cx) (hxs : IntsAre vs xs) (hb : ∀ x ∈ xs, -(2 ^ 30) ≤ x ∧ x ≤ 2 ^ 30)
    (hd : ∀ i, i < xs.length → 256 * xs.getD i 0 - cx = d i) (hdb : ∀ i, i < xs.length → (d i).natAbs < 2 ^ 53)
    (hkx : cenv.kindOf xi = some .local) (hkb : cenv.kindOf xb = some .free) (hsk : cenv.scope.kind = .function) (hcb : cenv.cells.lookup xb = some cb) (hoc : href.get? cb = some oc) (hdc : oc.data = .cell (some (.float f t)))
    (hcbI : cb ≠ I) (hd1 : (xi == ("__debug__" : Str)) = false) (hd2 : (xb == ("__debug__" : Str)) = false) (hd3 : (xb == ("__classdict__" : Str)) = false) :
    QuietGen prog w cenv xi [] (.BinOp (.Name xi p1) .Sub (.Name xb p2) p3) [I, l, cb, cStatics] [I] (fun i v => vs.toArray[i]? = some v) (fun _ => true) (FloatAt d) href where
  tests := fun A' E' i v s₂ m₂ hh hP hn hm hk => by
    refine wpAny_pure ⟨rfl, s₂.heap, s₂.toks, rfl, fun _ _ e => e⟩
  elt := fun A' E' i v s₂ m₂ hh hP _ hn hm hk => by
    have hcell : s₂.heap.get? cb = some oc := hk cb (by simp) (by simpa using hcbI) oc hoc
    obtain ⟨tv, rfl⟩ := hxs.int_at i v (by simpa using hP)
    have hi : i < xs.length := by
      have h1 := Array.getElem?_eq_some_iff.mp hP
      obtain ⟨h1, _⟩ := h1
      rw [← hxs.length]
      simpa using h1
    have hbi : -(2 ^ 30) ≤ xs.getD i 0 ∧ xs.getD i 0 ≤ 2 ^ 30 := by
      rw [List.getD_eq_getElem?_getD, List.getElem?_eq_getElem hi]
      exact hb _ (List.getElem_mem hi)
    refine wpAny_BinOp (wpAny_Name (wpAny_loadName_local hsk hkx hn hm ?_) hd1)
    refine wpAny_Name (wpAny_loadName_free hsk hkb hcb ⟨oc, hcell, hdc⟩ ?_ hd3) hd2
    refine sub_if_fits ?_ ?_
    · have : (2 : Nat) ^ 31 < 2 ^ 1023 := by decide +kernel
      omega
    · refine ⟨⟨_, _, rfl, ?_⟩, s₂.heap, s₂.toks + 1, rfl, fun _ _ e => e⟩
      have h1 := fv_sub (fv_ofInt (i := xs.getD i 0) (by omega)) hfx (by rw [hd i hi]; exact hdb i hi)
      rw [hd i hi] at h1
      exact h1

theorem gen_is {d : Nat → Int} {cx : Int} {xs : List Int} (hh : A.handled = none) (hroom : A.depth < recursionLimit)
    (F : Fr h₀ L s.heap m) (N : News h₀ L s.heap news) (T : Top p loose mean mg mb h₀) (C : CodeHas h₀ c P) (U : UpdF P ot news g) (ht : CodeTab ot)
    (hx : m x = some (.ref l)) (hl : (l, listOf vs.toArray k) ∈ news) (hcl : cl.lookup xb = some cb) (hcm : (cb, oc) ∈ news) (hdc : oc.data = .cell (some (.float f t))) (hPc : cb ≠ P) (hPl : l ≠ P)
    (hfx : FV f cx) (hxs : IntsAre vs xs) (hb : ∀ x ∈ xs, -(2 ^ 30) ≤ x ∧ x ≤ 2 ^ 30) (hd : ∀ i, i < xs.length → 256 * xs.getD i 0 - cx = d i) (hdb : ∀ i, i < xs.length → (d i).natAbs < 2 ^ 53)
    {n : Nat} (hn : vs.toArray.size = n) (hclos : closureFor scope (envX cn cs L a (.ref c) cl) = pure cl') (hcl' : cl'.lookup xb = some cb)
    (hQ : ∀ (I C' a' : Addr) (h' : Heap) (tk : Nat) (gs : GenState) (ot' : Obj), s.heap.objs.size ≤ I → I < C' → C' < a' → a' < h'.objs.size → gs.bare = true → CodeTab ot' → Fr h₀ L h' m → News h₀ L h' (g ot') →
      (∀ b o, b ≠ P → s.heap.get? b = some o → h'.get? b = some o) → L < I → (∀ q ∈ news, q.1 < I) → (∀ q ∈ g ot', q.1 < I) → P < I →
      (∀ s' : Shared, (∀ b o, b ≠ P → h'.get? b = some o → s'.heap.get? b = some o) → (∀ (i : Nat) (y : GenState), (s.gens.push gs)[i]? = some y → s'.gens[i]? = some y) →
        GenAt prog w A.in1.in1 a' s.gens.size C' [I, l, cb, cStatics] [I] (fun _ => true) n (FloatAt d) 0 s') →
      Q (.ref a') { s with heap := h', gens := s.gens.push gs, toks := tk })
    (hxk : (envX cn cs L a (.ref c) cl).kindOf x = some .local := by rfl) (hsk : cs.kind = .function := by rfl) (hxd : (x == ("__debug__" : Str)) = false := by decide)
    (hd1 : (xi == ("__debug__" : Str)) = false := by decide) (hd2 : (xb == ("__debug__" : Str)) = false := by decide) (hd3 : (xb == ("__classdict__" : Str)) = false := by decide)
    (hco : scope.isCoroutine = false := by rfl) (hcell : ∀ y ∈ scope.names, y.2 ≠ .cell := by decide) (h0 : scope.names.lookup (".0" : Str) = some NameKind.local := by rfl) (hkind : scope.kind = .function := by rfl)
    (hki : scope.names.lookup xi = some .local := by rfl) (hkb : scope.names.lookup xb = some .free := by rfl) :
    wpAny (model prog w) A (eval (.GeneratorExp (.BinOp (.Name xi p1) .Sub (.Name xb p2) p3) [⟨.Name xi px, .Name x pxi, [], 0⟩] scope pos) (envX cn cs L a (.ref c) cl)) Q E s := by
  subst hn
  obtain ⟨bm, ob, B1, B2, B3, B4, B5, B6, B7⟩ := bmod_of_top T
  have hPo : (P, ot) ∈ news := by
    obtain ⟨pre, post, rfl, -, -, -⟩ := U.split
    exact List.mem_append_right _ (.head _)
  have hPg := N.get hPo
  refine wpAny_GeneratorExp_make hco hclos hcell h0 hkind hroom ?_ (fun _ => rfl)
  refine nameX_L F hx ?_ hsk hxk hxd
  have hll := N.isList hl
  refine wpAny_pyIter_list hll ?_
  have k1 : ∀ b o, s.heap.get? b = some o → (s.heap.push { cls := .type "list_iterator", data := .fields #[.ref l, .int 0 0] }).get? b = some o := fun b o e => Heap.get?_push_of_some _ e
  have nl : s.heap.NoLimit := T.nolimit.keeps F.keep
  refine ⟨nl.keeps k1, ?_⟩
  obtain ⟨ps, ic, ict⟩ := isCode_of C (fun b o e => k1 b o (F.keep b o e)) (k1 _ _ hPg) ht
  refine genexprCode_tab rfl ic ict fun code h₂ tk₂ ps' he ic' hpt' => ?_
  have hnP : ∀ b o, h₀.get? b = some o → b ≠ P := fun b o e q => by
    rw [q, (N _ hPo).2.2] at e; cases e
  have k2 : ∀ b o, b ≠ P → s.heap.get? b = some o → h₂.get? b = some o := fun b o hb e => he b o hb (k1 b o e)
  have kP : ∀ b o, h₀.get? b = some o → h₂.get? b = some o := fun b o e => k2 b o (hnP b o e) (F.keep b o e)
  refine wpAny_builtinsFor (B1.keeps kP) B2 B3 (kP _ _ B4) B5 B6 B7 ?_
  intro h₃ hn₃ hs₃
  have hI : s.heap.objs.size < h₂.objs.size := by
    have h1 : h₂.get? s.heap.objs.size = some _ := he _ _ (fun q => by rw [← q, show s.heap.get? s.heap.objs.size = none from by
      cases hq : s.heap.get? s.heap.objs.size with
      | none => rfl
      | some o => exact absurd (Heap.lt_size hq) (Nat.lt_irrefl _)] at hPg; cases hPg) (Heap.get?_push_size _ rfl)
    exact Heap.lt_size h1
  have hsz : h₃.objs.size = h₂.objs.size + 1 := by rw [hs₃.1, Heap.size_push]
  have k3 : ∀ b o, h₂.get? b = some o → h₃.get? b = some o := fun b o e => hs₃.extBut b o (Nat.ne_of_lt (Heap.lt_size e)) (Heap.get?_push_of_some _ e)
  obtain ⟨ot', ho', ht'⟩ := tab_of ic' hpt'
  have hcbg := N.get hcm
  obtain ⟨ol, hol, hol'⟩ := id hll
  have k23 : ∀ b o, b ≠ P → s.heap.get? b = some o → h₃.get? b = some o := fun b o hb e => k3 b o (k2 b o hb e)
  have k24 : ∀ (og : Obj) b o, b ≠ P → s.heap.get? b = some o → (h₃.push og).get? b = some o := fun og b o hb e => Heap.get?_push_of_some _ (k23 b o hb e)
  have hLP : L ≠ P := fun q => N.ne hPo q.symm
  have hIat : h₂.get? s.heap.objs.size = some { cls := .type "list_iterator", data := .fields #[.ref l, .int 0 0] } := he _ _ (fun q => by
    have h1 := Heap.lt_size hPg
    rw [← q] at h1
    exact Nat.lt_irrefl _ h1) (Heap.get?_push_size _ rfl)
  have hlI : l ≠ s.heap.objs.size := Nat.ne_of_lt (Heap.lt_size hol)
  have hcI : cb ≠ s.heap.objs.size := Nat.ne_of_lt (Heap.lt_size hcbg)
  obtain ⟨mc, hmc, hmn⟩ := id T.nolimit
  have hPs : cStatics ≠ P := by
    obtain ⟨os, _, _, hos, _⟩ := hmc
    exact hnP _ _ hos
  have hmc := hmc.keeps F.keep
  have hclt : cStatics < s.heap.objs.size := hmc.lt
  refine hQ s.heap.objs.size h₂.objs.size h₃.objs.size _ _ _ ot' (Nat.le_refl _) hI (hsz ▸ Nat.lt_succ_self _) (by rw [Heap.size_push]; exact Nat.lt_succ_self _) rfl ht' ?_ ?_ (k24 _) F.ns.lt (fun q hq => Heap.lt_size (N q hq).1) ?_ (Heap.lt_size hPg) ?_
  · exact ⟨F.ns.at fun o e => k24 _ _ _ hLP e, fun b o e => k24 _ _ _ (hnP b o e) (F.keep b o e), F.above⟩
  · obtain ⟨pre, post, hnews, hg, h1, h2⟩ := U.split
    rw [hg ot']
    intro q hq
    rcases List.mem_append.mp hq with hq | hq
    · have hm : q ∈ news := hnews ▸ List.mem_append_left _ hq
      exact ⟨k24 _ _ _ (h1 q hq) (N q hm).1, (N q hm).2⟩
    · rcases List.mem_cons.mp hq with rfl | hq
      · exact ⟨Heap.get?_push_of_some _ (k3 _ _ ho'), (N _ hPo).2⟩
      · have hm : q ∈ news := hnews ▸ List.mem_append_right _ (List.mem_cons_of_mem _ hq)
        exact ⟨k24 _ _ _ (h2 q hq) (N q hm).1, (N q hm).2⟩
  · obtain ⟨pre, post, hnews, hg, h1, h2⟩ := U.split
    rw [hg ot']
    intro q hq
    have up : ∀ q ∈ news, q.1 < s.heap.objs.size := fun q hq => Heap.lt_size (N q hq).1
    rcases List.mem_append.mp hq with hq | hq
    · exact up q (hnews ▸ List.mem_append_left _ hq)
    · rcases List.mem_cons.mp hq with rfl | hq
      · exact up (P, ot) hPo
      · exact up q (hnews ▸ List.mem_append_right _ (List.mem_cons_of_mem _ hq))
  · intro s' hs1 hs2
    have hlow : ∀ b : Nat, s.heap.objs.size ≤ b → b ≠ P := fun b hb q => by
      have h1 := natLt (Heap.lt_size hPg)
      have h2 := natEq q
      omega
    refine genAt_up (s := { s with heap := h₃.push _, gens := s.gens.push _, toks := s.toks }) ?_ (by simp) (fun b hb o e => hs1 b o ?_ e) (fun y e => hs2 _ y e)
    rotate_left
    · rcases List.mem_cons.mp hb with rfl | hb
      · exact hlow _ (by rw [hsz]; exact Nat.le_trans (Nat.le_of_lt hI) (Nat.le_succ _))
      rcases List.mem_cons.mp hb with rfl | hb
      · exact hlow _ (Nat.le_of_lt hI)
      rcases List.mem_cons.mp hb with rfl | hb
      · exact hlow _ (Nat.le_refl _)
      rcases List.mem_cons.mp hb with rfl | hb
      · exact hPl
      rcases List.mem_cons.mp hb with rfl | hb
      · exact hPc
      · rw [List.mem_singleton.mp hb]; exact hPs
    refine GenAt.fresh (A := A.in1.in1) (cenv := genEnv scope cl' h₂.objs.size code builtinsNs (envX cn cs L a (.ref c) cl)) (m := fun y => if y = ".0" then some (.ref s.heap.objs.size) else none) (P := fun i v => vs.toArray[i]? = some v)
      (St₀ := fun i h => h.IsListIter s.heap.objs.size l i ∧ h.IsList l vs.toArray) hh
      (fun A' hA => (Walks.list hA s.heap.objs.size l hlI vs.toArray).mono_fp (fun b hb => by
        rcases List.mem_cons.mp hb with rfl | hb
        · exact .head _
        · rw [List.mem_singleton.mp hb]; exact .tail _ (.head _))) (fun _ => true) (FloatAt d) hki (by simp [genEnv, hkind]) hco ?_ ?_ ⟨_, _, _, Heap.get?_push_size _ rfl, rfl, rfl, rfl⟩ (Array.getElem?_push_size ..) ?_ (hn₃.push _) ⟨mc, hmc.at' fun o e => k24 _ _ _ hPs e, hmn⟩
    · intro hm
      have hm : h₂.objs.size ∈ [s.heap.objs.size, l, cb, cStatics] := hm
      have e1 := Heap.lt_size hol
      have e2 := Heap.lt_size hcbg
      simp only [List.mem_cons, List.not_mem_nil, or_false] at hm
      have hI' := natLt hI
      have e1' := natLt e1
      have e2' := natLt e2
      have e3' := natLt hclt
      rcases hm with hm | hm | hm | hm
      all_goals (have hm' := natEq hm; omega)
    · exact quiet_sub hfx hxs hb hd hdb hki hkb hkind hcl' (k24 _ _ _ hPc hcbg) hdc hcI hd1 hd2 hd3
    · exact ⟨⟨_, Heap.get?_push_of_some _ (k3 _ _ hIat), rfl, rfl⟩, ⟨ol, k24 _ _ _ hPl hol, hol'⟩⟩

theorem sumprod_is {newsA : List (Addr × Obj)} {I1 C1 a1 I2 C2 a2 l1 cb1 l2 cb2 hA : Nat} {o1 o2 q1 q2 : Obj} {n g1 g2 : Nat} {d1 d2 e : Nat → Int} (hh : A.handled = none) (hroom : A.depth < recursionLimit)
    (F : Fr h₀ L s.heap m) (N : News h₀ L s.heap news) (T : Top p loose mean mg mb h₀)
    (G1 : GenAt prog w A.in1.in1 a1 g1 C1 [I1, l1, cb1, cStatics] [I1] (fun _ => true) n (FloatAt d1) 0 s)
    (G2 : GenAt prog w A.in1.in1 a2 g2 C2 [I2, l2, cb2, cStatics] [I2] (fun _ => true) n (FloatAt d2) 0 s)
    (z1 : I1 < C1) (z2 : C1 < a1) (z3 : a1 < hA) (z4 : hA ≤ I2) (z5 : I2 < C2) (z6 : C2 < a2) (hg : g1 ≠ g2) (hLI : L < I1)
    (lA : ∀ q ∈ newsA, q.1 < I1) (lB : ∀ q ∈ news, q.1 < I1) (m1 : (l1, o1) ∈ newsA) (m2 : (l2, o2) ∈ newsA) (m3 : (cb1, q1) ∈ newsA) (m4 : (cb2, q2) ∈ newsA)
    (hc : ∀ i, i < n → d1 i * d2 i = 256 * e i) (hcb : ∀ i, i < n → (e i).natAbs < 2 ^ 53) (hS : ∀ i, i ≤ n → (preSum e i).natAbs < 2 ^ 53) (hn : 0 < n)
    (hQ : ∀ f u s', FV f (preSum e n) → Fr h₀ L s'.heap m → News h₀ L s'.heap news → ((∀ y ∈ s.gens, y.bare = true) → ∀ y ∈ s'.gens, y.bare = true) → s'.drawn = s.drawn → s'.os = s.os → Q (.float f u) s') :
    wpAny (model prog w) A (call (.builtin "math.sumprod") [.ref a1, .ref a2]) Q E s := by
  have b1 := natLt (lA _ m1)
  have b2 := natLt (lA _ m2)
  have b3 := natLt (lA _ m3)
  have b4 := natLt (lA _ m4)
  have b5 : cStatics < I1 := by
    obtain ⟨mc, hmc, _⟩ := T.nolimit
    exact Nat.lt_trans (Nat.lt_of_lt_of_le hmc.lt F.above) hLI
  have b5 := natLt b5
  dsimp only at b1 b2 b3 b4
  have len : (passing (fun _ => true) n 0).length = n := by rw [passing_all, List.length_range]
  have W₁ := WalksS.genexpQ (prog := prog) (w := w) (A := A.in1.in1) hh a1 g1 C1 [I1, l1, cb1, cStatics] [I1] (fun _ => true) n (FloatAt d1) (by intro h; have := natEq h; omega)
    (by intro h; simp only [List.mem_cons, List.not_mem_nil, or_false] at h; rcases h with h | h | h | h <;> (have := natEq h; omega)) (by intro b hb; rw [List.mem_singleton.mp hb]; exact .head _) hroom (by simp) (by intro h; have := natEq h; omega) (by intro h; have := natEq (List.mem_singleton.mp h); omega)
  have W₂ := WalksS.genexpQ (prog := prog) (w := w) (A := A.in1.in1) hh a2 g2 C2 [I2, l2, cb2, cStatics] [I2] (fun _ => true) n (FloatAt d2) (by intro h; have := natEq h; omega)
    (by intro h; simp only [List.mem_cons, List.not_mem_nil, or_false] at h; rcases h with h | h | h | h <;> (have := natEq h; omega)) (by intro b hb; rw [List.mem_singleton.mp hb]; exact .head _) hroom (by simp) (by intro h; have := natEq h; omega) (by intro h; have := natEq (List.mem_singleton.mp h); omega)
  rw [len] at W₁ W₂
  have look : ∀ (d : Nat → Int) (j : Nat) (v : Value), (∃ i, (passing (fun _ => true) n 0)[j]? = some i ∧ FloatAt d i v) → ∃ f t, v = .float f t ∧ FV f (d j) := by
    rintro d j v ⟨i, hi, hf⟩
    rw [passing_all] at hi
    obtain ⟨h1, h2⟩ := List.getElem?_eq_some_iff.mp hi
    rw [List.getElem_range] at h2
    subst h2
    exact hf
  have off : ∀ (x I C : Nat), x ≠ C → x ≠ I → x ∉ (C :: [I] : List Addr) := fun x I C h1 h2 h => by
    rcases List.mem_cons.mp h with h | h
    · exact h1 h
    · exact h2 (List.mem_singleton.mp h)
  refine call_sumprod (A := A) hh W₁ W₂ (look d1) (look d2) (fun i s s' st mv => ?_) (fun i s s' st mv => ?_) hc hcb hS (fun _ _ x => x.bare) (fun _ _ x => x.bare) (fun i j s st₁ st₂ x hx => ?_) hn G1 G2 ?_
  · refine genAt_up st (by simp) (fun b hb o e => mv.heap b o (off b I1 C1 ?_ ?_) e) (fun y hy => ?_)
    · intro h
      rw [h] at hb
      simp only [List.mem_cons, List.not_mem_nil, or_false] at hb
      rcases hb with hb | hb | hb | hb | hb | hb <;> (have := natEq hb; omega)
    · intro h
      rw [h] at hb
      simp only [List.mem_cons, List.not_mem_nil, or_false] at hb
      rcases hb with hb | hb | hb | hb | hb | hb <;> (have := natEq hb; omega)
    · rcases mv.gens with h | ⟨⟨_, h⟩, _⟩
      · rw [h]; exact hy
      · rw [h g2 (Ne.symm hg)]; exact hy
  · refine genAt_up st (by simp) (fun b hb o e => mv.heap b o (off b I2 C2 ?_ ?_) e) (fun y hy => ?_)
    · intro h
      rw [h] at hb
      simp only [List.mem_cons, List.not_mem_nil, or_false] at hb
      rcases hb with hb | hb | hb | hb | hb | hb <;> (have := natEq hb; omega)
    · intro h
      rw [h] at hb
      simp only [List.mem_cons, List.not_mem_nil, or_false] at hb
      rcases hb with hb | hb | hb | hb | hb | hb <;> (have := natEq hb; omega)
    · rcases mv.gens with h | ⟨⟨_, h⟩, _⟩
      · rw [h]; exact hy
      · rw [h g1 hg]; exact hy
  · obtain ⟨⟨_, _, _, k1, _⟩, _⟩ := st₁
    obtain ⟨⟨_, _, _, k2, _⟩, _⟩ := st₂
    have k1 := natLt (Heap.lt_size k1)
    have k2 := natLt (Heap.lt_size k2)
    simp only [List.mem_cons, List.not_mem_nil, or_false] at hx
    refine natLt (b := s.heap.objs.size) (a := x) ?_
    rcases hx with (hx | hx) | (hx | hx) <;> (have := natEq hx; omega)
  · intro f u s' hf hk hb hd ho
    have keep : ∀ b o, (b : Nat) < I1 → s.heap.get? b = some o → s'.heap.get? b = some o := fun b o hb e => hk b o (off b I1 C1 (by omega) (by omega)) (off b I2 C2 (by omega) (by omega)) e
    refine hQ f u s' hf ⟨F.ns.at fun o e => keep L o hLI e, fun b o e => keep b o ?_ (F.keep b o e), F.above⟩ (fun q hq => ⟨keep _ _ (lB q hq) (N q hq).1, (N q hq).2⟩) hb hd ho
    exact Nat.lt_trans (Nat.lt_of_lt_of_le (Heap.lt_size e) F.above) hLI

theorem gens_push {gs : Array GenState} {y z : GenState} {i : Nat} (h : gs[i]? = some y) : (gs.push z)[i]? = some y := by
  obtain ⟨h1, h2⟩ := Array.getElem?_eq_some_iff.mp h
  rw [Array.getElem?_push_lt h1, ← h2]

theorem sumprod_are {newsA newsB : List (Addr × Obj)} {hA hB : Heap} {gA gB : GenState} {I1 C1 a1 I2 C2 a2 l1 cb1 l2 cb2 : Addr} {o1 o2 q1 q2 : Obj} {n : Nat} {d1 d2 e : Nat → Int} {gs : Array GenState} {dr os' : _} {tk : Nat} (hh : A.handled = none) (hroom : A.depth < recursionLimit)
    (F : Fr h₀ L hB m) (N : News h₀ L hB newsB) (T : Top p loose mean mg mb h₀)
    (G1 : ∀ s' : Shared, (∀ b o, b ≠ P → hA.get? b = some o → s'.heap.get? b = some o) → (∀ (i : Nat) (y : GenState), (gs.push gA)[i]? = some y → s'.gens[i]? = some y) → GenAt prog w A.in1.in1 a1 gs.size C1 [I1, l1, cb1, cStatics] [I1] (fun _ => true) n (FloatAt d1) 0 s')
    (G2 : ∀ s' : Shared, (∀ b o, b ≠ P → hB.get? b = some o → s'.heap.get? b = some o) → (∀ (i : Nat) (y : GenState), ((gs.push gA).push gB)[i]? = some y → s'.gens[i]? = some y) → GenAt prog w A.in1.in1 a2 (gs.push gA).size C2 [I2, l2, cb2, cStatics] [I2] (fun _ => true) n (FloatAt d2) 0 s')
    (hk : ∀ b o, b ≠ P → hA.get? b = some o → hB.get? b = some o)
    (z1 : I1 < C1) (z2 : C1 < a1) (z3 : a1 < hA.objs.size) (z4 : hA.objs.size ≤ I2) (z5 : I2 < C2) (z6 : C2 < a2) (hLI : L < I1)
    (lA : ∀ q ∈ newsA, q.1 < I1) (hkeys : newsB.map (·.1) = newsA.map (·.1)) (m1 : (l1, o1) ∈ newsA) (m2 : (l2, o2) ∈ newsA) (m3 : (cb1, q1) ∈ newsA) (m4 : (cb2, q2) ∈ newsA)
    (hb1 : gA.bare = true) (hb2 : gB.bare = true)
    (hc : ∀ i, i < n → d1 i * d2 i = 256 * e i) (hcb : ∀ i, i < n → (e i).natAbs < 2 ^ 53) (hS : ∀ i, i ≤ n → (preSum e i).natAbs < 2 ^ 53) (hn : 0 < n)
    (hQ : ∀ f u s', FV f (preSum e n) → Fr h₀ L s'.heap m → News h₀ L s'.heap newsB → ((∀ y ∈ gs, y.bare = true) → ∀ y ∈ s'.gens, y.bare = true) → s'.drawn = dr → s'.os = os' → Q (.float f u) s') :
    wpAny (model prog w) A (call (.builtin "math.sumprod") [.ref a1, .ref a2]) Q E { heap := hB, gens := (gs.push gA).push gB, drawn := dr, toks := tk, os := os' } := by
  refine sumprod_is (s := { heap := hB, gens := (gs.push gA).push gB, drawn := dr, toks := tk, os := os' }) hh hroom F N T (G1 _ hk fun i y h => gens_push h) (G2 _ (fun _ _ _ e => e) fun _ _ e => e) z1 z2 z3 z4 z5 z6
    (by rw [Array.size_push]; exact Nat.ne_of_lt (Nat.lt_succ_self _)) hLI lA (fun q hq => ?_) m1 m2 m3 m4 hc hcb hS hn (fun f u s' hf F' N' hb hd ho => hQ f u s' hf F' N' (fun h => hb ?_) hd ho)
  · have h1 : q.1 ∈ newsB.map (·.1) := List.mem_map.mpr ⟨q, hq, rfl⟩
    rw [hkeys] at h1
    obtain ⟨r, hr, e⟩ := List.mem_map.mp h1
    exact e ▸ lA r hr
  · intro y hy
    rcases Array.mem_push.mp hy with hy | rfl
    · rcases Array.mem_push.mp hy with hy | rfl
      · exact h y hy
      · exact hb1
    · exact hb2
end
end Mine
end mGN
section mTX
open PySem PySem.Spec PySem.Calls PySem.W PyProof.Rows
set_option maxRecDepth 100000
namespace Mine

theorem memX {env : Env} {L b : Addr} {outer : List Env} (hf : env.frame = some L) (hm : b ∈ (env :: outer).filterMap (·.frame)) : b = L ∨ b ∈ outer.filterMap (·.frame) := by
  obtain ⟨e, he, hfe⟩ := List.mem_filterMap.mp hm
  rcases List.mem_cons.mp he with rfl | he
  · rw [hf] at hfe; exact .inl (Option.some.inj hfe).symm
  · exact .inr (List.mem_filterMap.mpr ⟨e, he, hfe⟩)

section
variable {M : Model} {A : Around} {E : Value → Shared → Prop} {s' : Shared} {base g g₂ h : Heap} {outer : List Env} {L a e t : Addr} {m : Str → Option Value} {Q : Unit → Shared → Prop} {news : List (Addr × Obj)} {env : Env}
theorem leave_raiseX {cls : Value} {vs : List Value} (K : Below A base outer g) (hx : Heap.MadeExcOf h s'.heap e cls vs) (F : Fr g L h m) (N : News g L h news)
    (hQ : ∀ h' t, RaisedS base g outer e cls t vs news h' → RaisedK base outer e cls t vs news h' → g.UpToSlots h' → Q () { s' with heap := h' }) (hf : env.frame = some L := by rfl) (hk : env.scope.kind = .function := by rfl) :
    wpAny M (A.deeper env) (leaving env (.ref e)) Q E s' := by
  have K' := pushX K F hf hk
  have hin : ∀ env' ∈ (env :: outer), ∀ b, env'.frame = some b → b ∈ (env :: outer).filterMap (·.frame) := fun env' he b hb => List.mem_filterMap.mpr ⟨env', he, hb⟩
  have st : base.StaysIn (hideAll h ((env :: outer).filterMap (·.frame))) := fun b o q => hideAll_get _ (K'.stays b o q) fun hm => by
    rw [(K'.frames.mem hm).1] at q; cases q
  have sg : ∀ b o, g.get? b = some o → b ∉ outer.filterMap (·.frame) → (hideAll h ((env :: outer).filterMap (·.frame))).get? b = some o := fun b o q nm => hideAll_get _ (F.keep b o q) fun hm => by
    rcases memX hf hm with z | z
    · rw [z, kts_self F] at q
      cases q
    · exact nm z
  have hl : ∀ q ∈ news, (hideAll h ((env :: outer).filterMap (·.frame))).get? q.1 = some q.2 ∧ g.get? q.1 = none ∧ base.get? q.1 = none := fun q hq => by
    refine ⟨hideAll_get _ (N q hq).1 fun hm => ?_, (N q hq).2.2, fresh_of_stays K.stays (N q hq).2.2⟩
    obtain ⟨env', he, hf'⟩ := List.mem_filterMap.mp hm
    rcases List.mem_cons.mp he with rfl | he
    · rw [hf] at hf'; exact (N q hq).2.1 (Option.some.inj hf').symm
    · obtain ⟨o, ho, _⟩ := (K.frames.mem (List.mem_filterMap.mpr ⟨env', he, hf'⟩)).2
      rw [(N q hq).2.2] at ho; cases ho
  exact wpAny_leaves_madeW K'.stack hf (fun b o q => of_hideAll _ q) (funFrames_hide K'.frames hin) hx fun h' t x1 x2 x3 x4 =>
    have R : RaisedS base g outer e cls t vs news h' := ⟨⟨_, st, sg, hl, x1, x3⟩, x2⟩
    hQ h' t R R.toK (((Heap.UpToSlots.of_keeps F.keep).trans (Heap.UpToSlots.of_keeps hx.keeps)).trans x4)
end

section
variable {prog : Program} {w : World} {A₀ A : Around} {s : Shared} {base h₀ g₀ : Heap} {outer : List Env} {L a : Addr} {m : Str → Option Value} {news : List (Addr × Obj)} {K : Frag} {p : Program} {loose : List Str} {mean : ExcName → Option Value} {mg mb : Str → Option Value}
    {R : Result → Shared → Prop} {name qual : Str} {params : Arguments} {body : List Stmt} {scope : Scope} {dV kV doc pm cdv ct oc : Value} {an od : Option Addr} {osl : Array (Option Value)} {f : Addr} {args : Args} {binds : List (Str × Value)} {env : Env}

theorem enterX (B : Below A₀ base outer h₀) (F : Fr h₀ L s.heap m) (N : News h₀ L s.heap news) (hA : A.frames = some (env :: outer)) (hf : env.frame = some L) (hck : env.scope.kind = .function) :
    ∃ oL es ep, (hideAll s.heap (news.map (·.1))).get? L = some oL ∧ oL.data = .dict es ep ∧ (∀ h', h'.get? L = some oL → Heap.Ns h' L m) ∧ (∀ (sl : Array (Option Value)) h', h'.get? L = some { oL with slots := sl } → Heap.Ns h' L m) ∧
      h₀.StaysIn (hideAll s.heap (news.map (·.1))) ∧ Below A base (env :: outer) (hideAll s.heap (news.map (·.1))) := by
  have nm : ∀ b o, h₀.get? b = some o → b ∉ news.map (·.1) := fun b o e q => by
    obtain ⟨p, hp, rfl⟩ := List.mem_map.mp q
    rw [(N p hp).2.2] at e; cases e
  have st : h₀.StaysIn (hideAll s.heap (news.map (·.1))) := fun b o e => hideAll_get _ (F.keep b o e) (nm b o e)
  obtain ⟨oL, es, ep, hL, hLd, hLk, hLf⟩ := F.ns
  have nL : L ∉ news.map (·.1) := fun q => by
    obtain ⟨p, hp, e⟩ := List.mem_map.mp q
    exact (N p hp).2.1 e
  have hLg := hideAll_get (news.map (·.1)) hL nL
  have B₁ := pushX B F hf hck
  exact ⟨oL, es, ep, hLg, hLd, fun h' e => ⟨oL, es, ep, e, hLd, hLk, hLf⟩, fun sl h' e => ⟨_, es, ep, e, hLd, hLk, hLf⟩, st, ⟨hA, fun b o e => st b o (B.stays b o e), funFrames_hideAll B₁.frames fun env' he b hb hf' => by
    cases he with
    | head => rw [hf] at hf'; exact nL ((Option.some.inj hf' : L = b) ▸ hb)
    | tail _ he =>
      obtain ⟨L₁, o₁, hf₁, ho₁⟩ := funFrames_in B.frames env' he
      rw [hf₁] at hf'
      exact nm L₁ o₁ ho₁ ((Option.some.inj hf' : L₁ = b) ▸ hb)⟩⟩

theorem code_defX0 (B : Below A₀ base [] h₀) (F : Fr h₀ L s.heap m) (X₀ : K.In h₀) (N : News h₀ L s.heap news) (T : Top p loose mean mg mb h₀) (hA : A.frames = some [env]) (hf : env.frame = some L)
    (ho : K.lookup f = some ⟨oc, od, .func (fnOf name qual params body scope dV kV doc pm an cdv ct), osl⟩) (hcd : codeIn K cdv qual = true) (hroom : A.depth < recursionLimit)
    (hbind : BindsTo s (fnOf name qual params body scope dV kV doc pm an cdv ct) args binds) (hloc : ∀ y ∈ binds, scope.names.lookup y.1 = some .local)
    (h : ∀ g L' h₁, Fr h₀ L g m → Fr g L' h₁ (fun y => binds.reverse.lookup y) → News g L' h₁ news → Below A base [env] g → K.In g → Top p loose mean mg mb g → KtsDicts ([env].filterMap (·.frame)) g →
      wpAny (model prog w) (A.deeper (envOf qual scope L' f cdv)) (execs body (envOf qual scope L' f cdv))
        (fun fl s' => LeaveS0 ([env].filterMap (·.frame)) h₀ L m g R (match fl with | .ret v => v | _ => .none) s')
        (fun e s' => wpAny (model prog w) (A.deeper (envOf qual scope L' f cdv)) (leaving (envOf qual scope L' f cdv) e) (fun _ s'' => R (.error e) s'') (fun e' s'' => R (.error e') s'') s')
        { s with heap := h₁, toks := s.toks + binds.length })
    (hck : env.scope.kind = .function) (hco : scope.isCoroutine = false) (hgen : scope.isGenerator = false) (hk : scope.kind = .function)
    (hcell : ∀ x ∈ scope.names, x.2 ≠ .cell) : codeAny (model prog w) A (.call (.ref f) args) R s := by
  have X := X₀.keeps F.keep
  refine codeAny_call_def (fd := fnOf name qual params body scope dV kV doc pm an cdv ct) (body := body) (binds := binds) hroom (X _ _ ho) rfl (T.nolimit.keeps F.keep) (codeRec_of X hcd) rfl hbind hcell hloc (fun h₁ hns hk₁ => ?_) hco hgen hk
  obtain ⟨oL, es, ep, hLg, hLd, hN, hNs, st, B₂⟩ := enterX B F N hA hf hck
  refine wpAny_mono (h _ s.heap.objs.size h₁ ⟨hN _ hLg, st, F.above⟩ ⟨hns, fun b o e => hk₁ b o (of_hideAll _ e), Nat.le_of_eq (hideAll_size _ _)⟩
    (fun p hp => ⟨hk₁ _ _ (N p hp).1, Nat.ne_of_lt (Heap.lt_size (N p hp).1), hideAll_none _ (List.mem_map_of_mem hp)⟩) B₂ (X₀.keeps st) (T.keeps st) (fun b hb => by
      rcases memX hf hb with rfl | z
      · exact ⟨oL, es, ep, hLg, hLd⟩
      · simp at z)) (fun fl s' hl => ?_) fun _ _ y => y
  obtain ⟨g', L', m', news', T', F', N', k⟩ := hl
  have nL₀ : h₀.get? L = none := kts_self F
  obtain ⟨sl, hs⟩ := T'.up hLg
  refine k ⟨hNs sl _ (F'.keep _ _ hs), fun b o e => F'.keep b o (T'.other b o (st b o e) (fun q => by
    rcases memX hf q with z | z
    · rw [z, nL₀] at e
      cases e
    · simp at z)), F.above⟩ fun p hp => ⟨(N' p hp).1, fun q => ?_, ?_⟩
  · have := (N' p hp).2.2; rw [q, hs] at this; cases this
  · cases q : h₀.get? p.1 with
    | none => rfl
    | some o =>
      obtain ⟨sl', hs'⟩ := T'.up (st _ _ q)
      have := (N' p hp).2.2
      rw [hs'] at this
      cases this
end

section
variable {prog : Program} {w : World} {A : Around} {E : Value → Shared → Prop} {s : Shared} {h₀ : Heap} {L a : Addr} {m : Str → Option Value} {cn : Str} {cs : Scope} {ccd : Value} {cl : List (Str × Addr)} {Q : Flow → Shared → Prop} {K : Frag}
  {p : Program} {loose : List Str} {mg mb : Str → Option Value} {x : Str} {C : Addr} {bm : List Value} {newId initId : String} {B : String} {np pos cpos : Pos}
theorem Raise_ownX {e₀ : Expr} {rest : List Expr} (F : Fr h₀ L s.heap m) (X : K.In h₀) (T : TopRead p loose mg mb h₀) (ex : nsIn K mainGlobals x = some (some (.ref C))) (O : OwnCls x C bm newId mg h₀) (FB : ExcBaseFacts B newId initId bm) (hh : A.handled = none)
    (h : wpAny (model prog w) A (spliced (backTo cpos (starEach (e₀ :: rest) (envX cn cs L a ccd cl)))) (fun vs s₂ => vs.length ≤ sizeLine ∧ (∀ b o, h₀.get? b = some o → s₂.heap.get? b = some o) ∧
      ∀ h' e, Heap.MadeExcOf s₂.heap h' e (.ref C) vs → E (.ref e) { s₂ with heap := h' }) E s)
    (he : starEach (e₀ :: rest) (envX cn cs L a ccd cl) = (false, eval e₀ (envX cn cs L a ccd cl)) :: starEach rest (envX cn cs L a ccd cl) := by rfl)
    (hplain : (backTo cpos (starEach rest (envX cn cs L a ccd cl))).any (·.1) = false := by rfl)
    (hk : cs.kind = .function := by rfl) (hx : (envX cn cs L a ccd cl).kindOf x = some .globalImplicit := by rfl) (hd : (x == ("__debug__" : Str)) = false := by decide) :
    wpAny (model prog w) A (exec (.Raise (some (.Call (.Name x np) (e₀ :: rest) [] cpos)) none pos) (envX cn cs L a ccd cl)) Q E s := by
  obtain ⟨tl, N, nm, q, bs, hdct, sn, sub, ab, col, dd, k0, k1, k2, k3, k5, mN, hC, hN, hni, T'⟩ := O.obj
  refine wpAny_Raise_call_subT (C := C) (nm := nm) (q := q) (N := N) (bs := bs) (bm := tl) (hdct := hdct) (sn := sn) (sub := sub) (ab := ab) (col := col) (dd := dd) (k0 := k0) (k1 := k1) (k2 := k2) (k3 := k3) (k5 := k5)
    FB (mN := mN) (T'.hasType FB.hasBase) hh (by rw [he]; show (false || (backTo cpos (starEach rest (envX cn cs L a ccd cl))).any (·.1)) = false; rw [hplain]; rfl) hni (nameX_K F X T ex ⟨rfl, ?_⟩ hk hx hd)
  rw [he] at h ⊢
  exact Calls.evalArgs_plain (wpAny_mono h (fun vs s₂ h₂ => ⟨rfl, h₂.1, h₂.2.1 _ _ hC, hN.keeps h₂.2.1, T'.keeps h₂.2.1, h₂.2.2⟩) fun _ _ y => y)
end
end Mine
end mTX
section mRU
open PySem PySem.Spec PySem.Calls PySem.W PyProof.Rows
set_option maxRecDepth 100000
namespace Mine

section
variable {prog : Program} {w : World} {A : Around} {E : Value → Shared → Prop} {s : Shared} {h₀ : Heap} {L : Addr} {m : Str → Option Value} {news : List (Addr × Obj)} {Q : Value → Shared → Prop}
theorem fsum_is (hh : A.handled = none) {l : Addr} {vs : List Value} {xs : List Int} {c : Nat} (F : Fr h₀ L s.heap m) (N : News h₀ L s.heap news) (hl : (l, listOf vs.toArray c) ∈ news) (hi : IntsAre vs xs)
    (hb : ∀ x ∈ xs, -(2 ^ 30) ≤ x ∧ x ≤ 2 ^ 30) (hn : xs.length ≤ 100)
    (hQ : ∀ f t h' tk, FV f (256 * xs.sum) → Fr h₀ L h' m → News h₀ L h' news → Q (.float f t) { s with heap := h', toks := tk }) :
    wpAny (model prog w) A (call (.builtin "math.fsum") [.ref l]) Q E s :=
  fsum_list hh (N.isList hl) hi hb hn fun f t h' tk hf hk => hQ f t h' tk hf (F.keeps hk) (N.grown hk)
theorem div_fi_is (hh : A.handled = none) {f : UInt64} {t u : Tok} {a c n : Int} (hf : FV f a) (hn : 0 < n ∧ n < 2 ^ 40) (hc : a = c * n) (hcb : c.natAbs < 2 ^ 53)
    (hQ : ∀ f t, FV f c → Q (.float f t) { s with toks := s.toks + 1 }) : wpAny (model prog w) A (binaryOp .Div (.float f t) (.int n u)) Q E s := by
  refine Flt.truediv_fi hh (fun o => absurd o (notOver (by omega))) (fun h => absurd h (by omega)) fun _ _ => hQ _ _ (fv_div hf (fv_ofInt (i := n) (by omega)) (by omega) ?_ hcb)
  rw [hc, Int.mul_assoc, Int.mul_comm 256 n]
theorem ref_len {l : Addr} {vs : List Value} {n c : Nat} (N : News h₀ L s.heap news) (hl : (l, listOf vs.toArray c) ∈ news) (hn : vs.toArray.size = n) (hn2 : n ≤ 1000) (hQ : ∀ t, Q (.int (n : Int) t) { s with toks := s.toks + 1 + 1 }) : wpAny (model prog w) A (call (.builtin "len") [.ref l]) Q E s := by
  refine len_list (N.isList hl) (by rw [hn]; omega) ?_
  rw [hn]
  exact hQ _
theorem ne_int_same {a : Int} {t u : Tok} (hQ : Q (.bool false) s) : wpAny (model prog w) A (compareOp .NotEq (.int a t) (.int a u)) Q E s := by
  refine ne_int ?_
  rw [show (a != a) = false by simp]; exact hQ
theorem div_ii_is (hh : A.handled = none) {a b c : Int} {t u : Tok} (hn : 0 < b ∧ a.natAbs < 2 ^ 60) (hc : 256 * a = c * b) (hcb : c.natAbs < 2 ^ 53)
    (hQ : ∀ f t, FV f c → Q (.float f t) { s with toks := s.toks + 1 }) : wpAny (model prog w) A (binaryOp .Div (.int a t) (.int b u)) Q E s := by
  refine Flt.div_ii_fits hh ?_ (fun h => absurd h (by omega)) fun _ _ => hQ _ _ (fv_frac hn.1 hc hcb)
  have : (2 : Nat) ^ 60 < 2 ^ 1023 := by decide +kernel
  omega
structure Tag (k : Nat) (c : Int) : Prop where
theorem div_ii_tag (k : Nat) (hh : A.handled = none) {a b c : Int} {t u : Tok} (_T : Tag k c) (hn : 0 < b ∧ a.natAbs < 2 ^ 60) (hc : 256 * a = c * b) (hcb : c.natAbs < 2 ^ 53)
    (hQ : ∀ f t, FV f c → Q (.float f t) { s with toks := s.toks + 1 }) : wpAny (model prog w) A (binaryOp .Div (.int a t) (.int b u)) Q E s := div_ii_is hh hn hc hcb hQ
theorem sort_unique {a b : List Int} (p : a.Perm b) (ha : a.Pairwise (· ≤ ·)) (hb : b.Pairwise (· ≤ ·)) : a = b := List.Perm.eq_of_pairwise (fun _ _ _ _ h1 h2 => Int.le_antisymm h1 h2) ha hb p
def SortOf (ys xs : List Int) : Prop := ys.Perm xs ∧ ys.Pairwise (· ≤ ·)
theorem sorted_is {l : Addr} {vs : List Value} {xs ys : List Int} {n c : Nat} (F : Fr h₀ L s.heap m) (N : News h₀ L s.heap news) (hm : (l, listOf vs.toArray c) ∈ news) (hi : IntsAre vs xs) (hn : vs.toArray.size = n) (h64 : n < 64) (hs : SortOf ys xs)
    (hQ : ∀ D vs' c' h', Fr h₀ L h' m → News h₀ L h' ((D, listOf vs'.toArray c') :: news) → IntsAre vs' ys → vs'.toArray.size = n → Q (.ref D) { s with heap := h' }) :
    wpAny (model prog w) A (call (.builtin "sorted") [.ref l]) Q E s := by
  have e1 := hi.length
  rw [List.size_toArray] at hn
  refine kso_sorted F N (N.isList hm) hi (by omega) fun D vs' ns' c' h' F' N' _ i' e' p' o' _ => ?_
  have e := sort_unique (p'.trans hs.1.symm) o' hs.2
  subst e
  refine hQ D vs' c' h' F' N' i' ?_
  rw [List.size_toArray, i'.length, e', ← e1, hn]
structure At0 (ys : List Int) (i v : Int) : Prop where
  mk :: (out : 0 ≤ i ∧ i < ys.length ∧ ys.getD i.toNat 0 = v)
structure At1 (ys : List Int) (i v : Int) : Prop where
  mk :: (out : At0 ys i v)
structure AtN (k : Nat) (ys : List Int) (i v : Int) : Prop where
  mk :: (out : At0 ys i v)
theorem item_l {value slice : PySem.Expr} {l : Addr} {vs : List Value} {ys : List Int} {c : Nat} {i j v : Int} {u : Tok} (N : News h₀ L s.heap news) (hm : (l, listOf vs.toArray c) ∈ news) (hi : IntsAre vs ys) (ha : At0 ys j v) (hij : i = j) (hl : ys.length ≤ 1000)
    (hQ : ∀ t, Q (.int v t) s) (hs : subscripted slice false (.ref l) (.int i u) = operate [.ref l, .int i u] (getItem (.ref l) (.int i u)) := by with_unfolding_all rfl) :
    wpAny (model prog w) A (subscriptTail value slice (.ref l) (.int i u)) Q E s := by
  subst hij
  exact item_list_intsR (N.isList hm) hi ha.out.1 ha.out.2.1 (by have := ha.out.2.1; omega) (fun t => by rw [ha.out.2.2]; exact hQ t) hs
theorem fdiv_is {a b : Int} {t u : Tok} (hb : 0 < b) (hp : Builtin.divisionGoesByPylong a b = false) (hQ : ∀ t, Q (.int (a / b) t) { s with toks := s.toks + 1 }) : wpAny (model prog w) A (binaryOp .FloorDiv (.int a t) (.int b u)) Q E s :=
  floordiv_int (by omega) (by rw [Int.fdiv_eq_ediv_of_nonneg _ (by omega)]; exact hQ _) (.inl hp)
theorem fdiv_fact {a b c : Int} {t u : Tok} (hc : a / b = c) (hb : 0 < b) (hp : Builtin.divisionGoesByPylong a b = false) (hQ : ∀ t, Q (.int c t) { s with toks := s.toks + 1 }) : wpAny (model prog w) A (binaryOp .FloorDiv (.int a t) (.int b u)) Q E s :=
  fdiv_is hb hp (fun t => by rw [hc]; exact hQ t)
theorem fmod_is {a b : Int} {t u : Tok} (hb : 0 < b) (hQ : ∀ t, Q (.int (a % b) t) { s with toks := s.toks + 1 }) : wpAny (model prog w) A (binaryOp .Mod (.int a t) (.int b u)) Q E s :=
  mod_int (by omega) (by rw [Int.fmod_eq_emod_of_nonneg _ (by omega)]; exact hQ _)
theorem eq_no {a b : Int} {t u : Tok} (h : a ≠ b) (hQ : Q (.bool false) s) : wpAny (model prog w) A (compareOp .Eq (.int a t) (.int b u)) Q E s := by
  refine eq_int ?_
  rw [show (a == b) = false by simpa using h]; exact hQ
theorem eq_yes {a b : Int} {t u : Tok} (h : a = b) (hQ : Q (.bool true) s) : wpAny (model prog w) A (compareOp .Eq (.int a t) (.int b u)) Q E s := by
  refine eq_int ?_
  rw [show (a == b) = true by simpa using h]; exact hQ
theorem lt_no {a b : Int} {t u : Tok} (h : b ≤ a) (hQ : Q (.bool false) s) : wpAny (model prog w) A (compareOp .Lt (.int a t) (.int b u)) Q E s := by
  refine lt_int ?_
  rw [show decide (a < b) = false by simpa using h]; exact hQ
theorem lt_yes {a b : Int} {t u : Tok} (h : a < b) (hQ : Q (.bool true) s) : wpAny (model prog w) A (compareOp .Lt (.int a t) (.int b u)) Q E s := by
  refine lt_int ?_
  rw [show decide (a < b) = true by simpa using h]; exact hQ
theorem gt_no {a b : Int} {t u : Tok} (h : a ≤ b) (hQ : Q (.bool false) s) : wpAny (model prog w) A (compareOp .Gt (.int a t) (.int b u)) Q E s := by
  refine gt_int ?_
  rw [show decide (b < a) = false by simpa using h]; exact hQ
theorem gt_yes {a b : Int} {t u : Tok} (h : b < a) (hQ : Q (.bool true) s) : wpAny (model prog w) A (compareOp .Gt (.int a t) (.int b u)) Q E s := by
  refine gt_int ?_
  rw [show decide (b < a) = true by simpa using h]; exact hQ
theorem truthy_yes {a : Int} {t : Tok} {Q : Bool → Shared → Prop} (h : a ≠ 0) (hQ : Q true s) : wpAny (model prog w) A (truthy (.int a t)) Q E s := by
  refine truthy_int ?_
  rw [show (a != 0) = true by simpa using h]; exact hQ
theorem sub_news {r ns : List (Addr × Obj)} {h : Heap} (N : News h₀ L h r) (hs : ∀ q ∈ ns, q ∈ r) : News h₀ L h ns := fun q hq => N q (hs q hq)
theorem ne_allLt {I : Addr} : ∀ {ns : List (Addr × Obj)}, AllLt I ns → ∀ p ∈ ns, p.1 ≠ I
  | [], _, _, h => nomatch h
  | _ :: _, x, p, h => by
    rcases List.mem_cons.mp h with rfl | h
    · exact Nat.ne_of_lt x.1
    · exact ne_allLt x.2 p h
theorem lt_allLt {I : Addr} : ∀ {ns : List (Addr × Obj)}, AllLt I ns → ∀ p ∈ ns, p.1 < I
  | [], _, _, h => nomatch h
  | _ :: _, x, p, h => by
    rcases List.mem_cons.mp h with rfl | h
    · exact x.1
    · exact lt_allLt x.2 p h
theorem unrEnd_head {I : Addr} {it : Obj} {rest : (Str → Option Value) → List (Addr × Obj) → Prop} {s₁ : Shared} {h' : Heap} {tk : Nat} {m' : Str → Option Value} {news' : List (Addr × Obj)} (F : Fr h₀ L h' m') (N : News h₀ L h' ((I, it) :: news'))
    (off : ∀ p ∈ news', p.1 ≠ I) (r : rest m' news') : UnrEnd h₀ L s₁ I it rest { s₁ with heap := h', toks := tk } := UnrEnd.intro F N news' (fun _ hp => hp) off r
theorem drop_news {x : Addr × Obj} {r ns : List (Addr × Obj)} {h : Heap} (N : News h₀ L h (x :: r)) (hs : ∀ q ∈ ns, q ∈ r) : News h₀ L h (x :: ns) := fun q hq => by
  rcases List.mem_cons.mp hq with rfl | hq
  · exact N _ (.head _)
  · exact N q (.tail _ (hs q hq))
theorem ne_all {ns : List (Addr × Obj)} {L d : Nat} (h : ∀ p ∈ ns, p.1 < L) (hd : L ≤ d) : ∀ p ∈ ns, p.1 ≠ d := fun p hp e => by
  have h1 : p.1 < L := h p hp
  rw [e] at h1
  exact absurd h1 (Nat.not_lt.mpr hd)

theorem ne_int_diff {a b : Int} {t u : Tok} (h : a ≠ b) (hQ : Q (.bool true) s) : wpAny (model prog w) A (compareOp .NotEq (.int a t) (.int b u)) Q E s := by
  refine ne_int ?_
  rw [show (a != b) = true by simpa using h]; exact hQ
end

section
variable {prog : Program} {w : World} {A : Around} {E : Value → Shared → Prop} {s : Shared} {h₀ : Heap} {L : Addr} {m : Str → Option Value} {news : List (Addr × Obj)} {Q : Value → Shared → Prop}
theorem find_is {x y : Str} {t u : Tok} {k : Int} (h : Txt.find x y = k) (hQ : Q (.int k s.toks) { s with toks := s.toks + 1 }) :
    wpAny (model prog w) A (call (.builtin "str.find") [.str x t, .str y u]) Q E s := by
  refine SC.find ?_
  rw [h]; exact hQ
theorem find3_is {x y : Str} {t u v : Tok} {i k : Int} (h : Txt.find3 x y i = k) (hQ : Q (.int k s.toks) { s with toks := s.toks + 1 }) :
    wpAny (model prog w) A (call (.builtin "str.find") [.str x t, .str y u, .int i v]) Q E s := by
  refine SC.find3 ?_
  rw [h]; exact hQ
theorem item_is {value slice : PySem.Expr} {x v : Str} {t u : Tok} {i : Int} (h : Txt.item x i = v) (h0 : 0 ≤ i) (h1 : i < x.length) (h2 : x.length ≤ 1000) (hQ : Q (.str v s.toks) { s with toks := s.toks + 1 })
    (hs : subscripted slice false (.str x t) (.int i u) = operate [.str x t, .int i u] (getItem (.str x t) (.int i u)) := by with_unfolding_all rfl)
    (ht : ∀ r, letTemporaryGo value (.str x t) r = pure () := by intro _; with_unfolding_all rfl) :
    wpAny (model prog w) A (subscriptTail value slice (.str x t) (.int i u)) Q E s := by
  refine KXi.item (n := x.length) rfl (by omega) h1 (by omega) (fun _ => ?_) hs ht
  rw [h]; exact hQ
theorem slice_is {value slice : PySem.Expr} {x y : Str} {t : Tok} {i j : Int} {ui uj : Tok} (hy : Txt.slice x (some i) (some j) = y) (h2 : x.length ≤ 1000) (F : Fr h₀ L s.heap m) (N : News h₀ L s.heap news)
    (hQ : ∀ (h' : Heap) (t' : Tok) (k : Nat), Fr h₀ L h' m → News h₀ L h' news → Q (.str y t') { s with heap := h', toks := k })
    (hs : subscripted slice false (.str x t) (.ref s.heap.objs.size) = operate [.ref s.heap.objs.size, .str x t] (getItem (.str x t) (.ref s.heap.objs.size)) := by with_unfolding_all rfl)
    (ht : ∀ r, letTemporaryGo value (.str x t) r = pure () := by intro _; with_unfolding_all rfl) :
    wpAny (model prog w) A (subscriptTail value slice (.str x t) (.ref s.heap.objs.size)) Q E { s with heap := s.heap.push { cls := .type "slice", data := .fields #[.int i ui, .int j uj, .none] } } :=
  slice_strN_ss F N (fun h' t' k F' N' => by rw [hy]; exact hQ h' t' k F' N') hs ht (by rw [sizeLine_eq]; omega)
theorem slice3_is {value slice : PySem.Expr} {x y : Str} {t : Tok} {j : Int} {uj : Tok} (hy : Txt.slice x none (some j) = y) (h2 : x.length ≤ 1000) (F : Fr h₀ L s.heap m) (N : News h₀ L s.heap news)
    (hQ : ∀ (h' : Heap) (t' : Tok) (k : Nat), Fr h₀ L h' m → News h₀ L h' news → Q (.str y t') { s with heap := h', toks := k })
    (hs : subscripted slice false (.str x t) (.ref s.heap.objs.size) = operate [.ref s.heap.objs.size, .str x t] (getItem (.str x t) (.ref s.heap.objs.size)) := by with_unfolding_all rfl)
    (ht : ∀ r, letTemporaryGo value (.str x t) r = pure () := by intro _; with_unfolding_all rfl) :
    wpAny (model prog w) A (subscriptTail value slice (.str x t) (.ref s.heap.objs.size)) Q E { s with heap := s.heap.push { cls := .type "slice", data := .fields #[.none, .int j uj, .none] } } :=
  slice_strN_ns F N (fun h' t' k F' N' => by rw [hy]; exact hQ h' t' k F' N') hs ht (by rw [sizeLine_eq]; omega)
theorem split5_is {x y : Str} {t u : Tok} {a b c d e : Str} (h : Txt.split x y = [a, b, c, d, e]) (hy : y.length = 1) (hx : x.length ≤ 1000) (F : Fr h₀ L s.heap m) (N : News h₀ L s.heap news)
    (hQ : ∀ (D : Addr) (t1 t2 t3 t4 t5 : Tok) (h' : Heap) (k : Nat), Fr h₀ L h' m → News h₀ L h' ((D, listOf #[.str a t1, .str b t2, .str c t3, .str d t4, .str e t5] 0) :: news) → (∀ p ∈ news, p.1 < D) → Q (.ref D) { s with heap := h', toks := k }) :
    wpAny (model prog w) A (call (.builtin "str.split") [.str x t, .str y u]) Q E s := by
  refine KSpl.split1 F N (by rw [hy]; rfl) (fun D l h' k hl _ F' N' hD => ?_) (by rw [sizeLine_eq]; omega)
  rw [h] at hl
  match l, hl with
  | [(a', t1), (b', t2), (c', t3), (d', t4), (e', t5)], hl =>
    simp only [List.map_cons, List.map_nil, List.cons.injEq, and_true] at hl
    obtain ⟨rfl, rfl, rfl, rfl, rfl⟩ := hl
    exact hQ D t1 t2 t3 t4 t5 h' k F' N' hD
theorem ne_diff {x y : Str} {t u : Tok} (h : x ≠ y) (hQ : Q (.bool true) s) : wpAny (model prog w) A (compareOp .NotEq (.str x t) (.str y u)) Q E s := by
  refine ne_str ?_
  rw [show (x != y) = true by simpa using h]; exact hQ
theorem ne_same {x : Str} {t u : Tok} (hQ : Q (.bool false) s) : wpAny (model prog w) A (compareOp .NotEq (.str x t) (.str x u)) Q E s := by
  refine ne_str ?_
  rw [show (x != x) = false by simp]; exact hQ
end
end Mine
end mRU
section mLP
open PySem PySem.Spec PySem.Calls PySem.W PyProof.Rows
set_option maxRecDepth 100000
namespace Mine
section
variable {prog : Program} {w : World} {A : Around} {E : Value → Shared → Prop} {s : Shared} {env : Env} {h₀ : Heap} {x : Str} {body : List Stmt} {Q : Flow → Shared → Prop}
theorem rangeRest_of {I : Addr} {a : Int} {n : Nat} (J : Nat → (Str → Option Value) → List (Addr × Obj) → Prop)
    (step : ∀ i m news t h tk, i < n → J i m news → Fr h₀ env.locals h (fun y => if y = x then some (.int (a + (i : Int)) t) else m y) → News h₀ env.locals h ((I, itR (a + ((i + 1 : Nat) : Int)) ((n : Int) - ((i + 1 : Nat) : Int))) :: news) →
      wpAny (model prog w) A (execs body env) (UnrPost h₀ env.locals { s with heap := h, toks := tk } I (itR (a + ((i + 1 : Nat) : Int)) ((n : Int) - ((i + 1 : Nat) : Int))) (J (i + 1)) Q) E { s with heap := h, toks := tk })
    (fin : ∀ m news h tk, J n m news → Fr h₀ env.locals h m → News h₀ env.locals h news → Q .next { s with heap := h, toks := tk }) :
    ∀ k i m news, i + k = n → J i m news → RangeRest prog w A E h₀ env x body Q s I a n k i m news := by
  intro k
  induction k with
  | zero =>
    intro i m news hi hJ h tk F N
    have : i = n := by omega
    subst this
    exact fin m news h tk hJ F N
  | succ k ih =>
    intro i m news hi hJ t h tk F N
    refine wpAny_mono (step i m news t h tk (by omega) hJ F N) (fun f s₂ p => ?_) fun _ _ e => e
    have up : UnrEnd h₀ env.locals { s with heap := h, toks := tk } I (itR (a + ((i + 1 : Nat) : Int)) ((n : Int) - ((i + 1 : Nat) : Int))) (J (i + 1)) s₂ →
        UnrEnd h₀ env.locals { s with heap := h, toks := tk } I (itR (a + ((i + 1 : Nat) : Int)) ((n : Int) - ((i + 1 : Nat) : Int))) (RangeRest prog w A E h₀ env x body Q s I a n k (i + 1)) s₂ := by
      rintro ⟨h', tk', m', news', e, F', N', o, r⟩
      exact ⟨h', tk', m', news', e, F', N', o, ih (i + 1) m' news' (by omega) r⟩
    cases f with
    | ret v => exact p
    | brk => exact p
    | next => exact up p
    | cont => exact up p
end

/-- a list of floats whose values, in 256ths, are these -/
inductive FlAre : List Value → List Int → Prop
  | nil : FlAre [] []
  | snoc {vs : List Value} {cs : List Int} {f : UInt64} {t : Tok} {c : Int} : FlAre vs cs → FV f c → FlAre (vs ++ [.float f t]) (cs ++ [c])
theorem FlAre.length {vs : List Value} {cs : List Int} (h : FlAre vs cs) : vs.length = cs.length := by
  induction h with
  | nil => rfl
  | snoc _ _ ih => simp [ih]

def mm (m0 : Str → Option Value) (a b c d : Option Value) : Str → Option Value :=
  fun y => if y = Str.ofString "interpolated" then a else if y = Str.ofString "delta" then b else if y = Str.ofString "j" then c else if y = Str.ofString "i" then d else m0 y
theorem mm_none {m0 : Str → Option Value} (h1 : m0 (Str.ofString "interpolated") = none) (h2 : m0 (Str.ofString "delta") = none) (h3 : m0 (Str.ofString "j") = none) (h4 : m0 (Str.ofString "i") = none) : m0 = mm m0 none none none none := by
  funext y
  unfold mm
  by_cases e1 : y = Str.ofString "interpolated"
  · rw [if_pos e1, e1, h1]
  rw [if_neg e1]
  by_cases e2 : y = Str.ofString "delta"
  · rw [if_pos e2, e2, h2]
  rw [if_neg e2]
  by_cases e3 : y = Str.ofString "j"
  · rw [if_pos e3, e3, h3]
  rw [if_neg e3]
  by_cases e4 : y = Str.ofString "i"
  · rw [if_pos e4, e4, h4]
  rw [if_neg e4]
theorem mm_up {m0 : Str → Option Value} {a b c d v1 v2 v3 v4 v5 : Option Value} : (fun y => if y = Str.ofString "interpolated" then v1 else if y = Str.ofString "delta" then v2 else if y = Str.ofString "j" then v3 else if y = Str.ofString "j" then v4 else if y = Str.ofString "i" then v5 else mm m0 a b c d y) = mm m0 v1 v2 v3 v5 := by
  funext y
  unfold mm
  by_cases e1 : y = Str.ofString "interpolated"
  · simp only [e1, if_true]
  simp only [e1, if_false]
  by_cases e2 : y = Str.ofString "delta"
  · simp only [e2, if_true]
  simp only [e2, if_false]
  by_cases e3 : y = Str.ofString "j"
  · simp only [e3, if_true]
  simp only [e3, if_false]
  by_cases e4 : y = Str.ofString "i"
  · simp only [e4, if_true]
  simp only [e4, if_false]

def CutStep (ys : List Int) (N : Int) (n i : Nat) (c : Int) : Prop :=
  ∃ j0 j va vb : Int, (1 + (i : Int)) * ((n : Int) + 1) / N = j0 ∧ 1 ≤ j0 ∧ ((j0 ≤ (n : Int) - 1 ∧ j = j0) ∨ ((n : Int) - 1 < j0 ∧ j = (n : Int) - 1)) ∧ At0 ys (j - 1) va ∧ At1 ys j vb ∧
    256 * (va * (N - ((1 + (i : Int)) * ((n : Int) + 1) - j * N)) + vb * ((1 + (i : Int)) * ((n : Int) + 1) - j * N)) = c * N ∧ c.natAbs < 2 ^ 53 ∧
    (va * (N - ((1 + (i : Int)) * ((n : Int) + 1) - j * N)) + vb * ((1 + (i : Int)) * ((n : Int) + 1) - j * N)).natAbs < 2 ^ 60 ∧ (-(2 ^ 30) ≤ va ∧ va ≤ 2 ^ 30) ∧ (-(2 ^ 30) ≤ vb ∧ vb ≤ 2 ^ 30)
def QJ (m0 : Str → Option Value) (R : Addr) (news : List (Addr × Obj)) (cuts : List Int) (i : Nat) (m₁ : Str → Option Value) (news₁ : List (Addr × Obj)) : Prop :=
  ∃ vr c a b cc d, FlAre vr (cuts.take i) ∧ m₁ = mm m0 a b cc d ∧ news₁ = (R, listOf vr.toArray c) :: news
theorem QJ_next {m0 : Str → Option Value} {R : Addr} {news : List (Addr × Obj)} {cuts : List Int} {i : Nat} {vr : List Value} {k : Nat} {f : UInt64} {t : Tok} {v2 v3 v4 v5 a b c d : Option Value} (hi : i < cuts.length) (hfl : FlAre vr (cuts.take i)) (hf : FV f (cuts.getD i 0)) :
    QJ m0 R news cuts (i + 1) (fun y => if y = Str.ofString "interpolated" then some (.float f t) else if y = Str.ofString "delta" then v2 else if y = Str.ofString "j" then v3 else if y = Str.ofString "j" then v4 else if y = Str.ofString "i" then v5 else mm m0 a b c d y)
      ((R, listOf (vr.toArray.push (.float f t)) k) :: news) := by
  refine ⟨vr ++ [.float f t], k, _, v2, v3, v5, ?_, mm_up, by rw [List.push_toArray]⟩
  have e : cuts.take (i + 1) = cuts.take i ++ [cuts.getD i 0] := by
    rw [List.take_succ, List.getElem?_eq_getElem hi, List.getD_eq_getElem?_getD, List.getElem?_eq_getElem hi]
    rfl
  rw [e]
  exact .snoc hfl hf
/-- a frame's map: some names anew, the others as before -/
def over (names : List Str) (vals m0 : Str → Option Value) : Str → Option Value := fun y => if y ∈ names then vals y else m0 y
theorem over_self {names : List Str} {m0 : Str → Option Value} : m0 = over names m0 m0 := by
  funext y
  unfold over
  split <;> rfl
theorem over_of {names : List Str} {m1 m0 : Str → Option Value} (h : ∀ y, y ∉ names → m1 y = m0 y) : m1 = over names m1 m0 := by
  funext y
  unfold over
  split
  · rfl
  · exact h y (by assumption)
def pick {α : Type} (a b : α) (k : Int) : α := if k = 0 then a else b
section
variable {prog : Program} {w : World} {A : Around} {E : Value → Shared → Prop} {s : Shared} {h₀ : Heap} {L : Addr} {m : Str → Option Value} {news : List (Addr × Obj)} {Q : Value → Shared → Prop}
theorem pick_at {α : Type} {a b : α} {i : Int} (h : 0 ≤ i ∧ i < 2) {f : α → Value} : (#[f a, f b] : Array Value)[i.toNat]? = some (f (pick a b i)) := by
  have hi : i = 0 ∨ i = 1 := by omega
  rcases hi with rfl | rfl
  · rfl
  · rfl
theorem item2_str {value slice : PySem.Expr} {l : Addr} {a b : Str} {ta tb u : Tok} {c : Nat} {i : Int} (N : News h₀ L s.heap news) (hm : (l, listOf #[.str a ta, .str b tb] c) ∈ news) (h : 0 ≤ i ∧ i < 2)
    (hQ : ∀ t, Q (.str (pick a b i) t) s) (hs : subscripted slice false (.ref l) (.int i u) = operate [.ref l, .int i u] (getItem (.ref l) (.int i u)) := by with_unfolding_all rfl) :
    wpAny (model prog w) A (subscriptTail value slice (.ref l) (.int i u)) Q E s := by
  have hi : i = 0 ∨ i = 1 := by omega
  rcases hi with rfl | rfl
  · exact item_listR (N.isList hm) (by decide) (by decide) rfl (hQ ta) hs
  · exact item_listR (N.isList hm) (by decide) (by decide) rfl (hQ tb) hs
theorem item2_int {value slice : PySem.Expr} {l : Addr} {a b lo hi' : Int} {ta tb u : Tok} {c : Nat} {i : Int} (N : News h₀ L s.heap news) (hm : (l, listOf #[.int a ta, .int b tb] c) ∈ news) (h : 0 ≤ i ∧ i < 2) (ha : lo ≤ a ∧ a < hi') (hb : lo ≤ b ∧ b < hi')
    (hQ : ∀ v t, v = pick a b i → lo ≤ v → v < hi' → Q (.int v t) s) (hs : subscripted slice false (.ref l) (.int i u) = operate [.ref l, .int i u] (getItem (.ref l) (.int i u)) := by with_unfolding_all rfl) :
    wpAny (model prog w) A (subscriptTail value slice (.ref l) (.int i u)) Q E s := by
  have hi : i = 0 ∨ i = 1 := by omega
  rcases hi with rfl | rfl
  · exact item_listR (N.isList hm) (by decide) (by decide) rfl (hQ a ta rfl ha.1 ha.2) hs
  · exact item_listR (N.isList hm) (by decide) (by decide) rfl (hQ b tb rfl hb.1 hb.2) hs
theorem add_v {x y : Str} {t u : Tok} {a b : Nat} (hx : x.length ≤ a) (hy : y.length ≤ b) (hab : a + b ≤ 100000) (hQ : ∀ z t k, z = x ++ y → z.length ≤ a + b → Q (.str z t) { s with toks := k }) :
    wpAny (model prog w) A (binaryOp .Add (.str x t) (.str y u)) Q E s := by
  refine SB.add (fun t' k => hQ _ t' k rfl ?_) (by rw [sizeLine_eq]; omega)
  rw [Str.length_append]
  omega
theorem mul3_v {x : Str} {t u : Tok} (hx : x.length = 1) (hQ : ∀ z t k, z = Txt.mul x 3 → z.length ≤ 3 → Q (.str z t) { s with toks := k }) :
    wpAny (model prog w) A (binaryOp .Mult (.str x t) (.int 3 u)) Q E s := by
  have e1 : ((3 : Int) == 1 || x.length == 0) = false := by rw [hx]; decide
  have e2 : ¬ (3 : Int) < 1 := by decide
  refine SB.mul ⟨by decide, fun _ _ => ?_, fun _ _ => ?_⟩ fun t' k => hQ _ t' k rfl ?_
  · rw [hx]; decide
  · rw [hx]; decide +kernel
  · unfold Txt.mul
    rw [if_neg e2, e1]
    have hs : x.cps.size = 1 := hx
    show ((List.replicate 3 x.cps).foldl (· ++ ·) #[]).size ≤ 3
    simp [List.replicate, Array.size_append, hs]
theorem str_int_v {a : Int} {t : Tok} (h : 0 ≤ a ∧ a < 1000) (hQ : ∀ z t, z = Str.ofString (toString a) → z.length ≤ 1001 → Q (.str z t) { s with toks := s.toks + 1 }) :
    wpAny (model prog w) A (call (.type "str") [.int a t]) Q E s := by
  refine P.str_of_int ?_ (hQ _ _ rfl ?_)
  · exact shown_abs (N := 1000) (by rw [if_neg (by omega)]; exact h.2) (by decide +kernel)
  · have := len_str_of_int a
    omega
theorem slice1_v {value slice : PySem.Expr} {x : Str} {t : Tok} {i : Int} {ui : Tok} {a : Nat} (h2 : x.length ≤ a) (ha : a ≤ 100000) (F : Fr h₀ L s.heap m) (N : News h₀ L s.heap news)
    (hQ : ∀ (z : Str) (h' : Heap) (t' : Tok) (k : Nat), z = Txt.slice x (some i) none → z.length ≤ a → Fr h₀ L h' m → News h₀ L h' news → Q (.str z t') { s with heap := h', toks := k })
    (hs : subscripted slice false (.str x t) (.ref s.heap.objs.size) = operate [.ref s.heap.objs.size, .str x t] (getItem (.str x t) (.ref s.heap.objs.size)) := by with_unfolding_all rfl)
    (ht : ∀ r, letTemporaryGo value (.str x t) r = pure () := by intro _; with_unfolding_all rfl) :
    wpAny (model prog w) A (subscriptTail value slice (.str x t) (.ref s.heap.objs.size)) Q E { s with heap := s.heap.push { cls := .type "slice", data := .fields #[.int i ui, .none, .none] } } :=
  slice_strN_sn_len F N (fun h' t' k F' N' hl => hQ _ h' t' k rfl (Nat.le_trans hl h2) F' N') hs ht (by rw [sizeLine_eq]; omega)
theorem eqs_yes {x y : Str} {t u : Tok} (h : x = y) (hQ : Q (.bool true) s) : wpAny (model prog w) A (compareOp .Eq (.str x t) (.str y u)) Q E s := by
  refine eq_str ?_
  rw [show (x == y) = true by simpa using h]; exact hQ
theorem eqs_no {x y : Str} {t u : Tok} (h : x ≠ y) (hQ : Q (.bool false) s) : wpAny (model prog w) A (compareOp .Eq (.str x t) (.str y u)) Q E s := by
  refine eq_str ?_
  rw [show (x == y) = false by simpa using h]; exact hQ
end
theorem pick_len {a b : Str} {k : Int} (ha : a.length = 1) (hb : b.length = 1) : (pick a b k).length = 1 := by
  unfold pick
  split
  · exact ha
  · exact hb
theorem pick_le {a b : Str} {k : Int} (ha : a.length = 1) (hb : b.length = 1) : (pick a b k).length ≤ 1 := Nat.le_of_eq (pick_len ha hb)
/-- the i-th child's text -/
def repOf (f l : Str) (h t : Int) : Str := Str.ofString "229 (" ++ Txt.mul f 3 ++ Str.ofString (toString h) ++ Txt.slice (Str.ofString (toString (100 + t))) (some 1) none ++ l ++ Str.ofString ")"
structure KidPar where
  f0 : Str
  f1 : Str
  h0 : Int
  h1 : Int
  t0 : Int
  t1 : Int
def KidPar.f (K : KidPar) (k : Nat) : Str := pick K.f0 K.f1 ((k : Int) / 8)
def KidPar.l (K : KidPar) (k : Nat) : Str := pick K.f0 K.f1 ((k : Int) / 4 % 2)
def KidPar.h (K : KidPar) (k : Nat) : Int := pick K.h0 K.h1 ((k : Int) / 2 % 2)
def KidPar.t (K : KidPar) (k : Nat) : Int := pick K.t0 K.t1 ((k : Int) % 2)
def KidPar.rep (K : KidPar) (k : Nat) : Str := repOf (K.f k) (K.l k) (K.h k) (K.t k)
/-- the first k children: their lists, what is due of each, and the references -/
inductive Kids (K : KidPar) : Nat → List (Addr × Obj) → List Value → Prop
  | nil : Kids K 0 [] []
  | host {k : Nat} {own : List (Addr × Obj)} {refs : List Value} {c d : Addr} {n n2 : Nat} {t t1 t2 t3 t4 : Tok} : Kids K k own refs → K.f k = K.l k →
      Kids K (k + 1) ((c, listOf #[.str (K.rep k) t, .ref d, .int (2 * ((k : Int) / 2 % 2) - 1) t1, .int (2 * ((k : Int) % 2) - 1) t2] n) :: (d, listOf #[.str (Str.ofString "host") t3, .int (100 * K.h k + K.t k) t4] n2) :: own) (refs ++ [.ref c])
  | form {k : Nat} {own : List (Addr × Obj)} {refs : List Value} {c d : Addr} {n n2 : Nat} {t t1 t2 t3 t4 : Tok} : Kids K k own refs → K.f k ≠ K.l k →
      Kids K (k + 1) ((c, listOf #[.str (K.rep k) t, .ref d, .int (2 * ((k : Int) / 2 % 2) - 1) t1, .int (2 * ((k : Int) % 2) - 1) t2] n) :: (d, listOf #[.str (Str.ofString "form") t3, .str (K.rep k) t4] n2) :: own) (refs ++ [.ref c])
theorem Kids.length {K : KidPar} {k : Nat} {own : List (Addr × Obj)} {refs : List Value} (h : Kids K k own refs) : refs.length = k := by
  induction h with
  | nil => rfl
  | host _ _ ih => simp [ih]
  | form _ _ ih => simp [ih]
def kidNames : List Str := [Str.ofString "way", Str.ofString "first", Str.ofString "last", Str.ofString "head", Str.ofString "tail", Str.ofString "reply", Str.ofString "due"]
def QK (K : KidPar) (m0 : Str → Option Value) (R : Addr) (pre news : List (Addr × Obj)) (i : Nat) (m₁ : Str → Option Value) (news₁ : List (Addr × Obj)) : Prop :=
  ∃ own refs c vals, Kids K i own refs ∧ m₁ = over kidNames vals m0 ∧ news₁ = (R, listOf refs.toArray c) :: (pre ++ (own ++ news)) ∧ ∀ q ∈ own ++ news, q.1 ≠ R
theorem over_kid {a1 a2 a3 a4 a5 a6 a7 : Option Value} {vals m0 : Str → Option Value} :
    (fun y => if y = Str.ofString "due" then a1 else if y = Str.ofString "reply" then a2 else if y = Str.ofString "tail" then a3 else if y = Str.ofString "head" then a4 else if y = Str.ofString "last" then a5 else if y = Str.ofString "first" then a6 else if y = Str.ofString "way" then a7 else over kidNames vals m0 y)
      = over kidNames (fun y => if y = Str.ofString "due" then a1 else if y = Str.ofString "reply" then a2 else if y = Str.ofString "tail" then a3 else if y = Str.ofString "head" then a4 else if y = Str.ofString "last" then a5 else if y = Str.ofString "first" then a6 else if y = Str.ofString "way" then a7 else over kidNames vals m0 y) m0 := by
  refine over_of fun y hy => ?_
  have h1 := hy
  simp only [kidNames, List.mem_cons, not_or] at h1
  obtain ⟨h1, h2, h3, h4, h5, h6, h7, -⟩ := h1
  rw [if_neg h7, if_neg h6, if_neg h5, if_neg h4, if_neg h3, if_neg h2, if_neg h1]
  unfold over
  rw [if_neg hy]
theorem Kids.lists {K : KidPar} {k : Nat} {own : List (Addr × Obj)} {refs : List Value} (h : Kids K k own refs) : ∀ q ∈ own, q.2.cls = .type "list" := by
  induction h with
  | nil => intro q hq; cases hq
  | host _ _ ih =>
    intro q hq
    rcases List.mem_cons.mp hq with rfl | hq
    · rfl
    rcases List.mem_cons.mp hq with rfl | hq
    · rfl
    exact ih q hq
  | form _ _ ih =>
    intro q hq
    rcases List.mem_cons.mp hq with rfl | hq
    · rfl
    rcases List.mem_cons.mp hq with rfl | hq
    · rfl
    exact ih q hq
theorem off_cls {h₀ h : Heap} {L I : Addr} {it : Obj} {all : List (Addr × Obj)} (N : News h₀ L h all) (hI : (I, it) ∈ all) {q : Addr × Obj} (hq : q ∈ all) (hc : q.2.cls ≠ it.cls) : q.1 ≠ I := fun e => by
  have h1 := (N q hq).1
  have h2 := (N _ hI).1
  have e' : q.1 = (I, it).1 := e
  rw [e', h2] at h1
  exact hc (by rw [← Option.some.inj h1])
theorem kid_end {K : KidPar} {h₀ : Heap} {L : Addr} {s₁ : Shared} {I R lm lh lt c d : Addr} {a b : Int} {om oh ot : Obj} {own news : List (Addr × Obj)} {refs : List Value} {i k : Nat} {m0 m' : Str → Option Value} {h' : Heap} {tk : Nat} {o1 o2 : Obj}
    (hk : Kids K (i + 1) ((c, o1) :: (d, o2) :: own) (refs ++ [.ref c])) (F : Fr h₀ L h' m') (hm : ∃ vals, m' = over kidNames vals m0)
    (N : News h₀ L h' ((c, o1) :: (d, o2) :: (I, itR a b) :: (R, listOf (refs.toArray.push (.ref c)) k) :: (lm, om) :: (lh, oh) :: (lt, ot) :: (own ++ news)))
    (c1 : om.cls = .type "list") (c2 : oh.cls = .type "list") (c3 : ot.cls = .type "list") (hoff : ∀ q ∈ own ++ news, q.1 ≠ R) (hn : ∀ q ∈ news, q.1 ≠ I) (hcR : c ≠ R) (hdR : d ≠ R) :
    UnrEnd h₀ L s₁ I (itR a b) (QK K m0 R [(lm, om), (lh, oh), (lt, ot)] news (i + 1)) { s₁ with heap := h', toks := tk } := by
  obtain ⟨vals, hm⟩ := hm
  have sub : ∀ p ∈ (R, listOf (refs.toArray.push (.ref c)) k) :: ([(lm, om), (lh, oh), (lt, ot)] ++ (((c, o1) :: (d, o2) :: own) ++ news)), p ∈ ((c, o1) :: (d, o2) :: (I, itR a b) :: (R, listOf (refs.toArray.push (.ref c)) k) :: (lm, om) :: (lh, oh) :: (lt, ot) :: (own ++ news)) := by
    intro p hp
    simp only [List.mem_cons, List.mem_append, List.not_mem_nil, or_false] at hp ⊢
    rcases hp with h | (h | h | h) | (h | h | h) | h <;> simp [h]
  refine UnrEnd.intro F N ((R, listOf (refs.toArray.push (.ref c)) k) :: ([(lm, om), (lh, oh), (lt, ot)] ++ (((c, o1) :: (d, o2) :: own) ++ news))) ?_ ?_ ?_
  · intro p hp
    rcases List.mem_cons.mp hp with rfl | hp
    · exact .tail _ (.tail _ (.head _))
    · exact sub p hp
  · intro p hp
    have hmI : (I, itR a b) ∈ ((c, o1) :: (d, o2) :: (I, itR a b) :: (R, listOf (refs.toArray.push (.ref c)) k) :: (lm, om) :: (lh, oh) :: (lt, ot) :: (own ++ news)) := .tail _ (.tail _ (.head _))
    have hl := hk.lists
    by_cases hcl : p.2.cls = .type "list"
    · exact off_cls N hmI (sub p hp) (by rw [hcl]; show Value.type "list" ≠ Value.type "range_iterator"; decide)
    · have : p ∈ news := by
        simp only [List.mem_cons, List.mem_append, List.not_mem_nil, or_false] at hp
        rcases hp with rfl | (rfl | rfl | rfl) | (rfl | rfl | h) | h
        · exact absurd rfl hcl
        · exact absurd c1 hcl
        · exact absurd c2 hcl
        · exact absurd c3 hcl
        · exact absurd (hl _ (.head _)) hcl
        · exact absurd (hl _ (.tail _ (.head _))) hcl
        · exact absurd (hl _ (.tail _ (.tail _ h))) hcl
        · exact h
      exact hn p this
  · refine ⟨(c, o1) :: (d, o2) :: own, refs ++ [.ref c], k, vals, hk, hm, ?_, ?_⟩
    · rw [List.push_toArray]
    · intro q hq
      simp only [List.mem_cons, List.mem_append, List.cons_append] at hq
      rcases hq with rfl | rfl | hq
      · exact hcR
      · exact hdR
      · exact hoff q (List.mem_append.mpr hq)
theorem kid_host {K : KidPar} {h₀ : Heap} {L : Addr} {s₁ : Shared} {I R lm lh lt c d : Addr} {a b : Int} {om oh ot : Obj} {own news : List (Addr × Obj)} {refs : List Value} {i k n1 n2 : Nat} {m0 m' : Str → Option Value} {h' : Heap} {tk : Nat} {z : Str} {v1 v2 : Int} {t1 t2 t3 t4 t5 : Tok}
    (hk : Kids K i own refs) (hf : K.f i = K.l i) (F : Fr h₀ L h' m')
    (N : News h₀ L h' ((c, listOf #[.str z t1, .ref d, .int (2 * ((0 + (i : Int)) / 2 % 2) - 1) t2, .int (2 * ((0 + (i : Int)) % 2) - 1) t3] n1) :: (d, listOf #[.str (Str.ofString "host") t4, .int (100 * v1 + v2) t5] n2) :: (I, itR a b) :: (R, listOf (refs.toArray.push (.ref c)) k) :: (lm, om) :: (lh, oh) :: (lt, ot) :: (own ++ news)))
    (hm : ∃ vals, m' = over kidNames vals m0) (hz : z = K.rep i) (hv1 : v1 = pick K.h0 K.h1 ((0 + (i : Int)) / 2 % 2)) (hv2 : v2 = pick K.t0 K.t1 ((0 + (i : Int)) % 2))
    (c1 : om.cls = .type "list") (c2 : oh.cls = .type "list") (c3 : ot.cls = .type "list") (hoff : ∀ q ∈ own ++ news, q.1 ≠ R) (hn : ∀ q ∈ news, q.1 ≠ I) (hcR : c ≠ R) (hdR : d ≠ R) :
    UnrEnd h₀ L s₁ I (itR a b) (QK K m0 R [(lm, om), (lh, oh), (lt, ot)] news (i + 1)) { s₁ with heap := h', toks := tk } := by
  rw [Int.zero_add] at N hv1 hv2
  subst hz
  have e : 100 * v1 + v2 = 100 * K.h i + K.t i := by rw [hv1, hv2]; rfl
  rw [e] at N
  exact kid_end (.host hk hf) F hm N c1 c2 c3 hoff hn hcR hdR
theorem kid_form {K : KidPar} {h₀ : Heap} {L : Addr} {s₁ : Shared} {I R lm lh lt c d : Addr} {a b : Int} {om oh ot : Obj} {own news : List (Addr × Obj)} {refs : List Value} {i k n1 n2 : Nat} {m0 m' : Str → Option Value} {h' : Heap} {tk : Nat} {z : Str} {t1 t2 t3 t4 t5 : Tok}
    (hk : Kids K i own refs) (hf : K.f i ≠ K.l i) (F : Fr h₀ L h' m')
    (N : News h₀ L h' ((c, listOf #[.str z t1, .ref d, .int (2 * ((0 + (i : Int)) / 2 % 2) - 1) t2, .int (2 * ((0 + (i : Int)) % 2) - 1) t3] n1) :: (d, listOf #[.str (Str.ofString "form") t4, .str z t5] n2) :: (I, itR a b) :: (R, listOf (refs.toArray.push (.ref c)) k) :: (lm, om) :: (lh, oh) :: (lt, ot) :: (own ++ news)))
    (hm : ∃ vals, m' = over kidNames vals m0) (hz : z = K.rep i)
    (c1 : om.cls = .type "list") (c2 : oh.cls = .type "list") (c3 : ot.cls = .type "list") (hoff : ∀ q ∈ own ++ news, q.1 ≠ R) (hn : ∀ q ∈ news, q.1 ≠ I) (hcR : c ≠ R) (hdR : d ≠ R) :
    UnrEnd h₀ L s₁ I (itR a b) (QK K m0 R [(lm, om), (lh, oh), (lt, ot)] news (i + 1)) { s₁ with heap := h', toks := tk } := by
  rw [Int.zero_add] at N
  subst hz
  exact kid_end (.form hk hf) F hm N c1 c2 c3 hoff hn hcR hdR
theorem zrep {K : KidPar} {i : Nat} {z z1 z2 z3 z4 z5 z6 z7 z8 : Str} {v1 v2 : Int} (h1 : z = z1 ++ Str.ofString ")") (h2 : z1 = z2 ++ pick K.f0 K.f1 ((0 + (i : Int)) / 4 % 2)) (h3 : z2 = z5 ++ z3) (h4 : z3 = Txt.slice z4 (some 1) none) (h5 : z4 = Str.ofString (toString (100 + v2)))
    (hv2 : v2 = pick K.t0 K.t1 ((0 + (i : Int)) % 2)) (h6 : z5 = z7 ++ z6) (h7 : z6 = Str.ofString (toString v1)) (hv1 : v1 = pick K.h0 K.h1 ((0 + (i : Int)) / 2 % 2)) (h8 : z7 = Str.ofString "229 (" ++ z8) (h9 : z8 = Txt.mul (pick K.f0 K.f1 ((0 + (i : Int)) / 8)) 3) : z = K.rep i := by
  subst h1 h2 h3 h4 h5 hv2 h6 h7 hv1 h8 h9
  rw [Int.zero_add]
  rfl
theorem flz {K : KidPar} {i : Nat} (h : pick K.f0 K.f1 ((0 + (i : Int)) / 8) = pick K.f0 K.f1 ((0 + (i : Int)) / 4 % 2)) : K.f i = K.l i := by
  rw [Int.zero_add] at h
  exact h
theorem flnz {K : KidPar} {i : Nat} (h : ¬ pick K.f0 K.f1 ((0 + (i : Int)) / 8) = pick K.f0 K.f1 ((0 + (i : Int)) / 4 % 2)) : K.f i ≠ K.l i := by
  rw [Int.zero_add] at h
  exact h
end Mine
end mLP
section mES
open PySem PySem.Spec PySem.Calls PySem.W PyProof.Rows
open Builtin Builtin.Str Builtin.BaseException Builtin.Exceptions
set_option maxRecDepth 100000
namespace Mine

/-- an exception of an own class (two own classes above Exception, neither has a __str__) that was made with one str -/
def OwnStr (h : Heap) (e : Addr) (x : Str) (tk : Tok) : Prop :=
  ∃ (oe : Obj) (vs : Array Value) (t0 C N A : Addr) (nm q : Str) (bs bmB : List Value) (hdct : Bool) (sn : List Str) (sub : List Value) (ab : Bool) (col : Option Bool) (dd : Option Addr) (k0 k1 k2 k3 k5 : Option Value) (newId : String)
    (mN mA : Str → Option Value) (c0 : Value) (dA : Option Addr) (cd : ClassData) (sl : Array (Option Value)),
    h.get? e = some oe ∧ oe.cls = .ref C ∧ oe.data = .fields vs ∧ vs[0]? = some (.ref t0) ∧ h.TupAt t0 [.str x tk] ∧
    h.get? C = some (excClassObj nm q C N bs (.ref A :: bmB) hdct sn sub ab col dd k0 k1 k2 k3 k5 newId) ∧ h.Ns N mN ∧ mN "__str__" = none ∧
    h.get? A = some { cls := c0, dict := dA, data := .cls cd, slots := sl } ∧ h.Ns cd.ns mA ∧ mA "__str__" = none ∧ mroOf (.type "Exception") = pure bmB ∧ bmB.contains (.type "BaseException") = true

section
variable {prog : Program} {w : World} {A : Around} {E : Value → Shared → Prop} {h : Heap} {g : Array GenState} {d : Drawn} {t : Nat} {os : OsState} {e : Addr} {x : Str} {tk : Tok}

theorem specialOf_str {Q : Option Value → Shared → Prop} {M : Model} (X : OwnStr h e x tk) (hq : Q (some (.builtin "BaseException.__str__")) ⟨h, g, d, t, os⟩) : wpAny M A (specialOf (.ref e) "__str__") Q E ⟨h, g, d, t, os⟩ := by
  obtain ⟨oe, vs, t0, C, N, B, nm, q, bs, bmB, hdct, sn, sub, ab, col, dd, k0, k1, k2, k3, k5, newId, mN, mA, c0, dA, cd, sl, he, hc, hd, h0, ht, hC, hN, hNs, hA, hAn, hAs, hbm, hcont⟩ := X
  unfold specialOf
  refine wpAny_bind (m := typeOf (.ref e)) ?_
  unfold typeOf
  refine wpAny_bind (wpAny_loadPart_at he (wpAny_pure ?_))
  rw [hc, typeLookup_eq]
  refine wpAny_bind (wpAny_mroOf_exc hC ?_)
  rw [lookupAlong_cons]
  refine wpAny_bind (wpAny_classOwn_exc hC hN ?_)
  rw [hNs]
  show wpAny M A (lookupAlong (.ref B :: bmB) "__str__") _ _ _
  rw [lookupAlong_cons]
  refine wpAny_bind (wpAny_classOwn_cls hA hAn ?_)
  rw [hAs]
  have hl := (PySem.F.excStr_Exception).str.lookup
  rw [typeLookup_eq, hbm] at hl
  have hl' : lookupAlong bmB "__str__" = pure (some (.builtin "BaseException.__str__")) := hl
  show wpAny M A (lookupAlong bmB "__str__") _ _ _
  rw [hl']
  exact wpAny_pure hq

theorem check_str {Q : Unit → Shared → Prop} {M : Model} (X : OwnStr h e x tk) (hq : Q () ⟨h, g, d, t, os⟩) : wpAny M A (checkBuiltinCall "BaseException.__str__" ⟨[.ref e], []⟩) Q E ⟨h, g, d, t, os⟩ := by
  obtain ⟨oe, vs, t0, C, N, B, nm, q, bs, bmB, hdct, sn, sub, ab, col, dd, k0, k1, k2, k3, k5, newId, mN, mA, c0, dA, cd, sl, he, hc, hd, h0, ht, hC, hN, hNs, hA, hAn, hAs, hbm, hcont⟩ := X
  have hk : builtinKind "BaseException.__str__" = some .slot := by decide +kernel
  have hs : splitId "BaseException.__str__" = some ("BaseException", "__str__") := by decide +kernel
  simp only [checkBuiltinCall, hk, hs]
  refine wpAny_bind (m := isInstance (.ref e) (.type "BaseException")) ?_
  unfold isInstance
  refine wpAny_bind (m := typeOf (.ref e)) ?_
  unfold typeOf
  refine wpAny_bind (wpAny_loadPart_at he (wpAny_pure ?_))
  rw [hc]
  refine wpAny_isSubtype_exc hC ?_
  have hb : (Value.ref C :: .ref B :: bmB).contains (.type "BaseException") = true := by rw [List.contains_cons, List.contains_cons, hcont, Bool.or_true, Bool.or_true]
  rw [hb]
  simp only [Bool.not_true, Bool.false_eq_true, if_false]
  have ha := F.args_bexc_str (.ref e)
  cases hsig : Manifest.signature? "BaseException.__str__" with
  | none => exact wpAny_pure hq
  | some sig =>
    simp only [argsOk, hsig] at ha
    have h2 : Bind.checkArgs "BaseException.__str__" sig ⟨[.ref e], []⟩ = pure () := ha
    show wpAny M A (Bind.checkArgs "BaseException.__str__" sig ⟨[.ref e], []⟩) Q E _
    rw [h2]; exact wpAny_pure hq

theorem entry_str {Q : PySem.Fin → Shared → Prop} (X : OwnStr h e x tk) (hq : Q (.done (.ret (.str x tk))) ⟨h, g, d, t, os⟩) : wpAny (model prog w) A (Builtin.«BaseException.__str__» ⟨[.ref e], []⟩) Q E ⟨h, g, d, t, os⟩ := by
  obtain ⟨oe, vs, t0, C, N, B, nm, q, bs, bmB, hdct, sn, sub, ab, col, dd, k0, k1, k2, k3, k5, newId, mN, mA, c0, dA, cd, sl, he, hc, hd, h0, ⟨ot, kk, hto, hto2, htd⟩, hC, hN, hNs, hA, hAn, hAs, hbm, hcont⟩ := X
  have args : ∀ {Q' : Value × List Value → Shared → Prop} {A' : Around} {E' : Value → Shared → Prop}, Q' (.ref t0, [.str x tk]) ⟨h, g, d, t, os⟩ → wpAny (model prog w) A' (bexcArgs (.ref e)) Q' E' ⟨h, g, d, t, os⟩ := by
    intro Q' A' E' hq'
    unfold bexcArgs
    refine wpAny_bind (wpAny_field he hd h0 (wpAny_bind (wpAny_seqItems hto htd ?_)))
    exact wpAny_pure hq'
  unfold Builtin.«BaseException.__str__»
  repeat (first | with_reducible refine args ?_ | wp_step)
  exact hq

theorem strOf_own (X : OwnStr h e x tk) (hu : A.units < cLine) {Q : Value → Shared → Prop} (hq : Q (.str x tk) ⟨h, g, d, t, os⟩) : wpAny (model prog w) A (Builtin.Str.strOf (.ref e)) Q E ⟨h, g, d, t, os⟩ := by
  have hcall : ∀ {Q' : Option Value → Shared → Prop} {A' : Around} {E' : Value → Shared → Prop}, Q' (some (.str x tk)) ⟨h, g, d, t, os⟩ → wpAny (model prog w) A' (callSpecial? (.ref e) "__str__") Q' E' ⟨h, g, d, t, os⟩ := by
    intro Q' A' E' hq'
    simp only [callSpecial?]
    refine wpAny_bind (specialOf_str X ?_)
    have hb := (PySem.F.excStr_Exception).str.bind (.ref e)
    simp only [hb]
    refine wpAny_holding (wpAny_bind (wpAny_pure (wpAny_bind ?_)))
    refine wpAny_call (codeAny_call_builtin (PySem.F.excStr_Exception).str.plain F.entry_bexc_str (check_str X (entry_str X (wpAny_pure hq'))))
  unfold Builtin.Str.strOf
  repeat (first | with_reducible refine wpAny_cRoomFor hu ?_ | with_reducible refine hcall ?_ | wp_step)
  exact hq
theorem str_own (hu : A.units + 2 < cLine) {Q : Value → Shared → Prop} (X : OwnStr h e x tk) (hq : Q (.str x tk) ⟨h, g, d, t, os⟩) :
    wpAny (model prog w) A (call (.type "str") [.ref e]) Q E ⟨h, g, d, t, os⟩ :=
  callType_new F.called_str (by decide) (F.typeCall_str_1 _) (F.newCall_str_1 _) (fun obj => F.args_object_init_2 obj _) F.entry_str_new
    (meets_str_new (S := fun A' R s' => A'.units + 1 < cLine ∧ OwnStr s'.heap e x tk ∧ R (.ok (.ret (.str x tk))) s')
      fun _ _ A' _ _ hq => strOf_own (A := A'.in1) hq.2.1 hq.1 hq.2.2)
    ⟨(show A.units + 1 + 1 < cLine from hu), X, typeIs_str _ _ _, hq⟩
end
end Mine
end mES
section top
open PySem PySem.W PyProof.Rows
set_option maxRecDepth 100000
set_option maxHeartbeats 0
namespace Mine
open_top hd for PySem.Challenge.rw_rw0072_01
end Mine
end top
section mCH
open PySem PySem.Spec PySem.Calls PySem.W PyProof.Rows
set_option maxRecDepth 100000
set_option maxHeartbeats 0
namespace Mine
theorem codeHas {P : Params} {h : Heap} (X : (hd.heap_39 P).In h) : CodeHas h 98 94 :=
  ⟨_, _, X 98 _ rfl, rfl, rfl, rfl, rfl, ⟨_, _, rfl⟩, ⟨_, _, rfl⟩, ⟨_, rfl⟩, ⟨_, _, rfl⟩, by decide⟩
theorem okError (P : Params) : nsOkIn (hd.heap_39 P) 108 = true := by kernel_rfl
theorem okProto (P : Params) : nsOkIn (hd.heap_39 P) 133 = true := by kernel_rfl
theorem strError (P : Params) : nsIn (hd.heap_39 P) 108 "__str__" = some none := by kernel_rfl
theorem strProto (P : Params) : nsIn (hd.heap_39 P) 133 "__str__" = some none := by kernel_rfl
theorem ownStr_of {P : Params} {h₀ h : Heap} {L : Addr} {news : List (Addr × Obj)} {e t : Addr} {x : Str} {tk : Tok} (X₀ : (hd.heap_39 P).In h₀) (hk : ∀ b o, h₀.get? b = some o → h.get? b = some o) (N : News h₀ L h news)
    (G : Got news e t (.ref 134) [.str x tk]) : OwnStr h e x tk := by
  have X := X₀.keeps hk
  obtain ⟨oe, ot, ws, nt, h1, h2, h3, h4, h5, h6, h7⟩ := G
  have q1 := okProto P
  have q2 := okError P
  have n1 := nsMap_none_of_in (x := "__str__") X q1 (strProto P)
  have n2 := nsMap_none_of_in (x := "__str__") X q2 (strError P)
  exact ⟨oe, ws, t, 134, 133, 109, _, _, _, _, _, _, _, _, _, _, _, _, _, _, _, _, _, _, _, _, _, _, N.get h1, h3, h4, h5, ⟨ot, nt, N.get h2, h6, h7⟩, X 134 _ rfl, .of_isNs (isNs_of_in X q1), n1,
    X 109 _ rfl, .of_isNs (isNs_of_in X q2), n2, PySem.F.excBase_Exception.mroIs, PySem.F.excBase_Exception.hasBase⟩
end Mine
end mCH
section mSG
open PySem PySem.Spec PySem.Calls PySem.W PyProof.Rows
set_option maxRecDepth 100000
namespace Mine
/-- the statements of the law's body, and its scope -/
def lawDef : List Stmt × Scope :=
  match PySem.Challenge.pw_rw0072_01.main.body.getLast? with
  | some (.FunctionDef _ _ body _ _ _ scope _ _ _) => (body, scope)
  | _ => ([], default)
def lawStmt (i : Nat) : Stmt := lawDef.1.getD i (.Pass ⟨0, 0, 0, 0⟩)
abbrev lawScope : Scope := lawDef.2
def lawForParts : PySem.Expr × List Stmt := match lawStmt 18 with
  | .For t _ body _ _ => (t, body)
  | _ => (.Constant .none 0 ⟨0, 0, 0, 0⟩, [])
def lawFor (i : Nat) : Stmt := lawForParts.2.getD i (.Pass ⟨0, 0, 0, 0⟩)
abbrev lawCells (L : Addr) : List (Str × Addr) := [(Str.ofString "both", L + 1 + 1 + 1), (Str.ofString "size", L + 1 + 1), (Str.ofString "ports", L + 1)]
def iabs (x : Int) : Int := if x < 0 then -x else x
theorem pull {m : Str → Option Value} {x : Str} {v : Value} (h : m x = some v) : m = fun y => if y = x then some v else m y := by
  funext y
  by_cases e : y = x
  · rw [if_pos e, e, h]
  · rw [if_neg e]
theorem pull2 {m : Str → Option Value} {x x2 : Str} {v v2 : Value} (h : m x = some v) (h2 : m x2 = some v2) : m = fun y => if y = x then some v else if y = x2 then some v2 else m y := by
  refine (pull h).trans ?_
  conv => lhs; rw [pull h2]
theorem pull3 {m : Str → Option Value} {x x2 x3 : Str} {v v2 v3 : Value} (h : m x = some v) (h2 : m x2 = some v2) (h3 : m x3 = some v3) : m = fun y => if y = x then some v else if y = x2 then some v2 else if y = x3 then some v3 else m y := by
  refine (pull h).trans ?_
  conv => lhs; rw [pull2 h2 h3]
theorem pull4 {m : Str → Option Value} {x x2 x3 x4 : Str} {v v2 v3 v4 : Value} (h : m x = some v) (h2 : m x2 = some v2) (h3 : m x3 = some v3) (h4 : m x4 = some v4) : m = fun y => if y = x then some v else if y = x2 then some v2 else if y = x3 then some v3 else if y = x4 then some v4 else m y := by
  refine (pull h).trans ?_
  conv => lhs; rw [pull3 h2 h3 h4]
theorem ints4 {ws : List Value} {ns : List Int} (h : IntsAre ws ns) (hl : ns.length = 4) : ∃ n1 n2 n3 n4 t1 t2 t3 t4, ws = [.int n1 t1, .int n2 t2, .int n3 t3, .int n4 t4] := by
  cases h with
  | nil => cases hl
  | cons n1 t1 h =>
    cases h with
    | nil => cases hl
    | cons n2 t2 h =>
      cases h with
      | nil => cases hl
      | cons n3 t3 h =>
        cases h with
        | nil => cases hl
        | cons n4 t4 h =>
          cases h with
          | nil => exact ⟨_, _, _, _, _, _, _, _, rfl⟩
          | cons n5 t5 h => simp at hl
/-- a mark by its number -/
def mkAt (k : Int) : Str := if k = 0 then Str.ofString "|" else if k = 1 then Str.ofString "!" else Str.ofString "x"
theorem mkAt_len {k : Int} : (mkAt k).length = 1 := by
  unfold mkAt
  split
  · rfl
  · split <;> rfl
section
variable {prog : Program} {w : World} {A : Around} {E : Value → Shared → Prop} {s : Shared} {env : Env}
theorem mark_is {value slice : PySem.Expr} {t u : Tok} {i : Int} {Q : Value → Shared → Prop} (h : 0 ≤ i ∧ i < 3) (hQ : Q (.str (mkAt i) s.toks) { s with toks := s.toks + 1 })
    (hs : subscripted slice false (.str (Str.ofString "|!x") t) (.int i u) = operate [.str (Str.ofString "|!x") t, .int i u] (getItem (.str (Str.ofString "|!x") t) (.int i u)) := by with_unfolding_all rfl)
    (ht : ∀ r, letTemporaryGo value (.str (Str.ofString "|!x") t) r = pure () := by intro _; with_unfolding_all rfl) :
    wpAny (model prog w) A (subscriptTail value slice (.str (Str.ofString "|!x") t) (.int i u)) Q E s := by
  have hi : i = 0 ∨ i = 1 ∨ i = 2 := by omega
  have hl : (Str.ofString "|!x").length = 3 := rfl
  rcases hi with rfl | rfl | rfl
  · exact item_is (v := mkAt 0) rfl (by omega) (by omega) (by omega) hQ hs ht
  · exact item_is (v := mkAt 1) rfl (by omega) (by omega) (by omega) hQ hs ht
  · exact item_is (v := mkAt 2) rfl (by omega) (by omega) (by omega) hQ hs ht
theorem execs_append_wp {l1 l2 : List Stmt} {Q : Flow → Shared → Prop} (Γ : PySem.Ctx) (hΓ : Γ.In A) : ∀ p s, Sem.wp (model prog w) Γ (execs l1 env) (fun f _ s' => match f with | .next => wpAny (model prog w) A (execs l2 env) Q E s' | f => Q f s') (fun e _ s' => E e s') p s →
    Sem.wp (model prog w) Γ (execs (l1 ++ l2) env) (fun f _ s' => Q f s') (fun e _ s' => E e s') p s := by
  induction l1 with
  | nil => exact fun p s h => h Γ p hΓ
  | cons st rest ih =>
    intro p s h
    show Sem.wp (model prog w) Γ (execs (st :: (rest ++ l2)) env) _ _ p s
    rw [execs_cons, Sem.wp_bind'] at h ⊢
    refine Sem.wp_mono (model prog w) Γ _ (fun f p' s' h' => ?_) (fun _ _ _ h' => h') _ _ h
    cases f with
    | next => exact ih p' s' h'
    | _ => exact h'
theorem execs_append {l1 l2 : List Stmt} {Q : Flow → Shared → Prop} (h : wpAny (model prog w) A (execs l1 env) (fun f s' => match f with | .next => wpAny (model prog w) A (execs l2 env) Q E s' | f => Q f s') E s) :
    wpAny (model prog w) A (execs (l1 ++ l2) env) Q E s := fun Γ p hΓ => execs_append_wp Γ hΓ p s (h Γ p hΓ)
end
theorem news_p3 {h₀ h : Heap} {L : Addr} {a b c d : Addr × Obj} {r : List (Addr × Obj)} (N : News h₀ L h (a :: b :: c :: d :: r)) : News h₀ L h (c :: b :: a :: r) := fun q hq => N q (by
  rcases List.mem_cons.mp hq with rfl | hq
  · exact .tail _ (.tail _ (.head _))
  rcases List.mem_cons.mp hq with rfl | hq
  · exact .tail _ (.head _)
  rcases List.mem_cons.mp hq with rfl | hq
  · exact .head _
  exact .tail _ (.tail _ (.tail _ (.tail _ hq))))
end Mine
end mSG
section mCP
open PySem PySem.Spec PySem.Calls PySem.W PyProof.Rows
open LCg
set_option maxRecDepth 100000
namespace Mine
/-- the values stand for these numbers, one by one -/
inductive AllAt (P : Nat → Value → Prop) : List Value → List Nat → Prop
  | nil : AllAt P [] []
  | snoc {vs : List Value} {is : List Nat} {k : Nat} {v : Value} : AllAt P vs is → P k v → AllAt P (vs ++ [v]) (is ++ [k])
theorem AllAt.length {P : Nat → Value → Prop} {vs : List Value} {is : List Nat} (h : AllAt P vs is) : vs.length = is.length := by
  induction h with
  | nil => rfl
  | snoc _ _ ih => simp [ih]
theorem AllAt.mono {P R : Nat → Value → Prop} {vs : List Value} {is : List Nat} (h : AllAt P vs is) (hm : ∀ k v, P k v → R k v) : AllAt R vs is := by
  induction h with
  | nil => exact .nil
  | snoc _ hp ih => exact .snoc ih (hm _ _ hp)
theorem AllAt.get {P : Nat → Value → Prop} {vs : List Value} {is : List Nat} (h : AllAt P vs is) {i : Nat} {v : Value} (hv : vs[i]? = some v) : ∃ k, is[i]? = some k ∧ P k v := by
  induction h with
  | nil => simp at hv
  | @snoc vs is k w ha hp ih =>
    have hl := ha.length
    by_cases hi : i < vs.length
    · rw [List.getElem?_append_left hi] at hv
      obtain ⟨k', h1, h2⟩ := ih hv
      exact ⟨k', by rw [List.getElem?_append_left (by omega)]; exact h1, h2⟩
    · rw [List.getElem?_append_right (by omega)] at hv
      by_cases hi2 : i = vs.length
      · subst hi2
        simp at hv
        subst hv
        exact ⟨k, by rw [hl]; simp, hp⟩
      · rw [List.getElem?_eq_none (by simp; omega)] at hv
        cases hv
theorem take_snoc {is : List Nat} {i k : Nat} (h : is[i]? = some k) : is.take (i + 1) = is.take i ++ [k] := by
  obtain ⟨hi, rfl⟩ := List.getElem?_eq_some_iff.mp h
  rw [List.take_add_one, List.getElem?_eq_getElem hi]
  rfl
theorem off_ne {h₀ h : Heap} {L a : Addr} {o : Obj} {all : List (Addr × Obj)} (N : News h₀ L h all) (ha : (a, o) ∈ all) {q : Addr × Obj} (hq : q ∈ all) (hne : q.2 ≠ o) : q.1 ≠ a := fun e => by
  have h1 := (N q hq).1
  have h2 := (N _ ha).1
  have e' : q.1 = (a, o).1 := e
  rw [e', h2] at h1
  exact hne (Option.some.inj h1).symm
section
variable {prog : Program} {w : World} {A : Around} {E : Value → Shared → Prop} {s : Shared} {h₀ : Heap} {L : Addr} {m : Str → Option Value} {env : Env} {elt ct : PySem.Expr} {x : Str} {scope : Scope} {cl : List (Str × Addr)} {S : List (Addr × Obj) → Prop} {P : Nat → Value → Prop}
  {Fin : List Value → List (Addr × Obj) → Prop} {news : List (Addr × Obj)}
theorem compRest_of {n : Nat} (J : Nat → List Value → List (Addr × Obj) → Prop)
    (step : ∀ i ys news v I oI C oC D m₂ h tk (E' : Value → Shared → Prop), i < n → J i ys news → P i v → NsObj oC m₂ → m₂ x = some v → Fr h₀ L h m → News h₀ L h ((I, oI) :: (C, oC) :: (D, lst ys) :: news) → Off3 I C D news → ((@Ne Nat I C) ∧ (@Ne Nat I D) ∧ (@Ne Nat C D)) →
      wpAny (model prog w) A (eval elt (compEnvC scope cl C env)) (CompEnd h₀ L m { s with heap := h, toks := tk } I oI C oC D (lst ys) S (fun y news' => J (i + 1) (ys ++ [y]) news')) E' { s with heap := h, toks := tk })
    (fin : ∀ ys news, J n ys news → Fin ys news) : ∀ k i ys news, i + k = n → J i ys news → CompRest prog w A h₀ L m env elt x scope cl s S P Fin k i ys news := by
  intro k
  induction k with
  | zero =>
    intro i ys news hi hJ
    have : i = n := by omega
    subst this
    exact fin ys news hJ
  | succ k ih =>
    intro i ys news hi hJ
    refine CompRest.succ fun v I oI C oC D m₂ h tk E' hv hC hx F N off ne => ?_
    refine wpAny_mono (step i ys news v I oI C oC D m₂ h tk E' (by omega) hJ hv hC hx F N off ne) (fun y s₂ p => ?_) fun _ _ e => e
    obtain ⟨h', tk', news', e, F', N', o', hS, r⟩ := p
    exact ⟨h', tk', news', e, F', N', o', hS, ih (i + 1) _ _ (by omega) r⟩
/-- what an element's walk hands on, where the ledger is as it was -/
def Same (h₀ : Heap) (L : Addr) (m : Str → Option Value) (s : Shared) (all : List (Addr × Obj)) (R : Prop) (s' : Shared) : Prop := ∃ h' tk', s' = { s with heap := h', toks := tk' } ∧ Fr h₀ L h' m ∧ News h₀ L h' all ∧ R
theorem rest_U {Ps Pd : Nat → Value → Prop} {its : List Value} {is : List Nat} (hs : AllAt Ps its is) (hS : S news)
    (step : ∀ k v I oI C oC D ys m₂ h tk (E' : Value → Shared → Prop), k ∈ is → Ps k v → NsObj oC m₂ → m₂ x = some v → Fr h₀ L h m → News h₀ L h ((I, oI) :: (C, oC) :: (D, lst ys) :: news) →
      wpAny (model prog w) A (eval elt (compEnvC scope cl C env)) (fun y s' => Same h₀ L m s ((I, oI) :: (C, oC) :: (D, lst ys) :: news) (Pd k y) s') E' { s with heap := h, toks := tk })
    (fin : ∀ ys, AllAt Pd ys is → Fin ys news) : CompRest prog w A h₀ L m env elt x scope cl s S (fun i v => its.toArray[i]? = some v) Fin its.toArray.size 0 [] news := by
  have hl := hs.length
  refine compRest_of (n := its.toArray.size) (fun i ys ns => AllAt Pd ys (is.take i) ∧ ns = news) ?_ ?_ _ _ _ _ (Nat.zero_add _) ⟨by rw [List.take_zero]; exact .nil, rfl⟩
  · rintro i ys ns v I oI C oC D m₂ h tk E' hi ⟨hJ, rfl⟩ hv hC hx F N off ne
    obtain ⟨k, hk, hp⟩ := hs.get (by simpa using hv)
    refine wpAny_mono (step k v I oI C oC D ys m₂ h tk E' (List.mem_of_getElem? hk) hp hC hx F N) (fun y s₂ p => ?_) fun _ _ e => e
    obtain ⟨h', tk', rfl, F', N', hd⟩ := p
    exact ⟨h', tk', _, rfl, F', N', off, hS, by rw [take_snoc hk]; exact .snoc hJ hd, rfl⟩
  · rintro ys ns ⟨hJ, rfl⟩
    rw [List.take_of_length_le (by simp [hl])] at hJ
    exact fin ys hJ
theorem rest_T {t : Nat → Bool} {Ps Pd : Nat → Value → Prop} {its : List Value} {is : List Nat} (hs : AllAt Ps its is) (hS : S news)
    (test : ∀ k v I oI C oC D ys m₂ h tk (E' : Value → Shared → Prop), k ∈ is → Ps k v → NsObj oC m₂ → m₂ x = some v → Fr h₀ L h m → News h₀ L h ((I, oI) :: (C, oC) :: (D, lst ys) :: news) →
      wpAny (model prog w) A (isTrue ct (compEnvC scope cl C env) (eval ct (compEnvC scope cl C env))) (fun ok s' => Same h₀ L m s ((I, oI) :: (C, oC) :: (D, lst ys) :: news) (ok = t k) s') E' { s with heap := h, toks := tk })
    (step : ∀ k v I oI C oC D ys m₂ h tk (E' : Value → Shared → Prop), k ∈ is → t k = true → Ps k v → NsObj oC m₂ → m₂ x = some v → Fr h₀ L h m → News h₀ L h ((I, oI) :: (C, oC) :: (D, lst ys) :: news) →
      wpAny (model prog w) A (eval elt (compEnvC scope cl C env)) (fun y s' => Same h₀ L m s ((I, oI) :: (C, oC) :: (D, lst ys) :: news) (Pd k y) s') E' { s with heap := h, toks := tk })
    (fin : ∀ ys, AllAt Pd ys (is.filter t) → Fin ys news) : LCt.CompRestT prog w A h₀ L m env ct elt x scope cl s S (fun i v => its.toArray[i]? = some v) Fin its.toArray.size 0 [] news := by
  have hl := hs.length
  have key : ∀ j i ys, i + j = its.toArray.size → AllAt Pd ys ((is.take i).filter t) → LCt.CompRestT prog w A h₀ L m env ct elt x scope cl s S (fun i v => its.toArray[i]? = some v) Fin j i ys news := by
    intro j
    induction j with
    | zero =>
      intro i ys hi hJ
      rw [List.take_of_length_le (by rw [List.size_toArray] at hi; omega)] at hJ
      exact LCt.CompRestT.zero (fin ys hJ)
    | succ j ih =>
      intro i ys hi hJ
      refine LCt.CompRestT.succ fun v I oI C oC D m₂ h tk E' hv hC hx F N off ne => ?_
      obtain ⟨k, hk, hp⟩ := hs.get (by simpa using hv)
      refine wpAny_mono (test k v I oI C oC D ys m₂ h tk E' (List.mem_of_getElem? hk) hp hC hx F N) (fun ok s₂ p => ?_) fun _ _ e => e
      obtain ⟨h', tk', rfl, F', N', rfl⟩ := p
      have hf : (is.take (i + 1)).filter t = (is.take i).filter t ++ (if t k = true then [k] else []) := by
        rw [take_snoc hk, List.filter_append]
        congr 1
        by_cases ht : t k = true
        · simp [ht]
        · simp [ht]
      by_cases ht : t k = true
      · rw [if_pos ht] at hf ⊢
        refine wpAny_mono (step k v I oI C oC D ys m₂ h' tk' E' (List.mem_of_getElem? hk) ht hp hC hx F' N') (fun y s₂ p => ?_) fun _ _ e => e
        obtain ⟨h2, tk2, rfl, F2, N2, hd⟩ := p
        exact ⟨h2, tk2, _, rfl, F2, N2, off, hS, ih (i + 1) _ (by omega) (by rw [hf]; exact .snoc hJ hd)⟩
      · rw [if_neg ht] at hf ⊢
        exact ⟨h', tk', _, rfl, F', N', off, hS, ih (i + 1) _ (by omega) (by rw [hf, List.append_nil]; exact hJ)⟩
  exact key _ 0 [] (Nat.zero_add _) (by simpa using AllAt.nil)
end
end Mine
end mCP
section mED
open PySem PySem.Spec PySem.Calls PySem.W PyProof.Rows PySem.SeqAt
set_option maxRecDepth 100000
namespace Mine
section
variable {A : Around} {s : Shared}
theorem eqAt_fi {f : UInt64} {t u : Tok} {n : Int} (h : FV f (256 * n)) : EqAt A s (.float f t) (.int n u) true := fun prog w E Q hq => by
  unfold eqBool
  refine wpAny_holding ?_
  refine wpAny_ite_split (fun hab => absurd (eq_of_beq hab) nofun) (fun _ => ?_)
  refine wpAny_bind ?_
  show wpAny _ A (compareOp .Eq (.float f t) (.int n u)) _ _ _
  refine eq_fi ?_
  rw [fv_cmpInt h]
  have e : (some (compare (256 * n) (256 * n)) == some Ordering.eq) = true := by
    rw [show compare (256 * n) (256 * n) = Ordering.eq from Std.compare_self]
    rfl
  rw [e]
  exact wpAny_truthy_bool hq
theorem eqAt_ii {n : Int} {t u : Tok} : EqAt A s (.int n t) (.int n u) true := by
  have h := EqAt.int_int (A := A) (s := s) n t n u
  rwa [show (n == n) = true by simp] at h
theorem eqAt_ss {x : Str} {t u : Tok} : EqAt A s (.str x t) (.str x u) true := by
  have h := EqAt.str_str (A := A) (s := s) x t x u
  rwa [show (x == x) = true by simp] at h
/-- two rows of values, equal one by one -/
inductive EqAll (A : Around) (s : Shared) : List Value → List Value → Prop
  | nil : EqAll A s [] []
  | cons {v w : Value} {vs ws : List Value} : EqAt A s v w true → EqAll A s vs ws → EqAll A s (v :: vs) (w :: ws)
theorem EqAll.length {vs ws : List Value} (h : EqAll A s vs ws) : vs.length = ws.length := by
  induction h with
  | nil => rfl
  | cons _ _ ih => simp [ih]
theorem EqAll.at {vs ws : List Value} (h : EqAll A s vs ws) : ∀ (j : Nat) (h1 : j < vs.length) (h2 : j < ws.length), EqAt A s vs[j] ws[j] true := by
  induction h with
  | nil => intro j h1; simp at h1
  | cons he _ ih =>
    intro j h1 h2
    cases j with
    | zero => exact he
    | succ j => exact ih j (by simpa using h1) (by simpa using h2)
theorem EqAll.snoc {vs ws : List Value} {v w : Value} (h : EqAll A s vs ws) (e : EqAt A s v w true) : EqAll A s (vs ++ [v]) (ws ++ [w]) := by
  induction h with
  | nil => exact .cons e .nil
  | cons he _ ih => exact .cons he ih
theorem eqAll_of {P R : Nat → Value → Prop} {vs ws : List Value} {is : List Nat} (hv : AllAt P vs is) (hw : AllAt R ws is) (he : ∀ k v w, k ∈ is → P k v → R k w → EqAt A s v w true) : EqAll A s vs ws := by
  induction hv generalizing ws with
  | nil =>
    generalize hi : ([] : List Nat) = is at hw
    cases hw with
    | nil => exact .nil
    | snoc _ _ => simp at hi
  | @snoc vs is k v hv hp ih =>
    generalize hi : is ++ [k] = js at hw
    cases hw with
    | nil => simp at hi
    | snoc hw hr =>
      obtain ⟨rfl, e⟩ := List.append_inj' hi rfl
      simp only [List.cons.injEq, and_true] at e
      subst e
      exact .snoc (ih hw fun k' v' w' hk => he k' v' w' (List.mem_append_left _ hk)) (he _ _ _ (List.mem_append_right _ (.head _)) hp hr)
theorem all_true {n : Nat} : (List.range n).all (fun _ => true) = true := by simp
theorem rcNe_lists {l1 l2 : Addr} {vs ws : List Value} (h1 : s.heap.IsList l1 vs.toArray) (h2 : s.heap.IsList l2 ws.toArray) (he : EqAll A.in1 s vs ws) (hu : A.units < cLine) : RcNeAt A s (.ref l1) (.ref l2) false := by
  have h := RcNeAt.lists (A := A) (e := fun _ => true) h1 h2 (by simp [he.length]) hu (fun j j1 j2 => by
    have := he.at j (by simpa using j1) (by simpa using j2)
    simpa using this)
  rwa [all_true] at h
theorem rcEq_lists {l1 l2 : Addr} {vs ws : List Value} (h1 : s.heap.IsList l1 vs.toArray) (h2 : s.heap.IsList l2 ws.toArray) (he : EqAll A.in1 s vs ws) (hu : A.units < cLine) : RcAt A s (.ref l1) (.ref l2) true := by
  have h := RcAt.lists (A := A) (e := fun _ => true) h1 h2 (by simp [he.length]) hu (fun j j1 j2 => by
    have := he.at j (by simpa using j1) (by simpa using j2)
    simpa using this)
  rwa [all_true] at h
theorem eqAt_lists {l1 l2 : Addr} {vs ws : List Value} (h1 : s.heap.IsList l1 vs.toArray) (h2 : s.heap.IsList l2 ws.toArray) (he : EqAll A.in1 s vs ws) (hu : A.units < cLine) : EqAt A s (.ref l1) (.ref l2) true := by
  by_cases e : l1 = l2
  · subst e
    exact EqAt.same _
  · exact EqAt.of_refs e (rcEq_lists h1 h2 he hu)
end
section
variable {prog : Program} {w : World} {A : Around} {E : Value → Shared → Prop} {s : Shared} {h₀ : Heap} {L : Addr} {news : List (Addr × Obj)} {Q : Value → Shared → Prop}
theorem ne_lists {l1 l2 : Addr} {vs ws : List Value} {c1 c2 : Nat} (N : News h₀ L s.heap news) (m1 : (l1, listOf vs.toArray c1) ∈ news) (m2 : (l2, listOf ws.toArray c2) ∈ news) (he : EqAll A.in1 s vs ws) (hu : A.units < cLine) (hQ : Q (.bool false) s) :
    wpAny (model prog w) A (compareOp .NotEq (.ref l1) (.ref l2)) Q E s := rcNe_lists (N.isList m1) (N.isList m2) he hu prog w E Q hQ
theorem eq_lists {l1 l2 : Addr} {vs ws : List Value} {c1 c2 : Nat} (N : News h₀ L s.heap news) (m1 : (l1, listOf vs.toArray c1) ∈ news) (m2 : (l2, listOf ws.toArray c2) ∈ news) (he : EqAll A.in1 s vs ws) (hu : A.units < cLine) (hQ : Q (.bool true) s) :
    wpAny (model prog w) A (compareOp .Eq (.ref l1) (.ref l2)) Q E s := rcEq_lists (N.isList m1) (N.isList m2) he hu prog w E Q hQ
end
end Mine
end mED
section mKD
open PySem PySem.Spec PySem.Calls PySem.W PyProof.Rows PySem.SeqAt
open LCg
set_option maxRecDepth 100000
namespace Mine
def hostObj (n : Int) (t t' : Tok) (c : Nat) : Obj := listOf #[.str (Str.ofString "host") t, .int n t'] c
def formObj (x : Str) (t t' : Tok) (c : Nat) : Obj := listOf #[.str (Str.ofString "form") t, .str x t'] c
def KidPar.port (K : KidPar) (k : Nat) : Int := 100 * K.h k + K.t k
/-- d is the list that is due of the k-th child -/
def Due (K : KidPar) (own : List (Addr × Obj)) (k : Nat) (d : Addr) : Prop := (K.f k = K.l k ∧ ∃ t t' c, (d, hostObj (K.port k) t t' c) ∈ own) ∨ (K.f k ≠ K.l k ∧ ∃ t t' c, (d, formObj (K.rep k) t t' c) ∈ own)
def PDue (K : KidPar) (own : List (Addr × Obj)) (k : Nat) (v : Value) : Prop := ∃ d, v = .ref d ∧ Due K own k d
def kidObj (K : KidPar) (k : Nat) (d : Addr) (t t1 t2 : Tok) (n : Nat) : Obj := listOf #[.str (K.rep k) t, .ref d, .int (2 * ((k : Int) / 2 % 2) - 1) t1, .int (2 * ((k : Int) % 2) - 1) t2] n
def PKid (K : KidPar) (own : List (Addr × Obj)) (k : Nat) (v : Value) : Prop := ∃ c d t t1 t2 n, v = .ref c ∧ (c, kidObj K k d t t1 t2 n) ∈ own ∧ Due K own k d
theorem Due.mono {K : KidPar} {own own' : List (Addr × Obj)} {k : Nat} {d : Addr} (h : Due K own k d) (hs : ∀ q ∈ own, q ∈ own') : Due K own' k d := by
  rcases h with ⟨e, t, t', c, hm⟩ | ⟨e, t, t', c, hm⟩
  · exact .inl ⟨e, t, t', c, hs _ hm⟩
  · exact .inr ⟨e, t, t', c, hs _ hm⟩
theorem PKid.mono {K : KidPar} {own own' : List (Addr × Obj)} {k : Nat} {v : Value} (h : PKid K own k v) (hs : ∀ q ∈ own, q ∈ own') : PKid K own' k v := by
  obtain ⟨c, d, t, t1, t2, n, rfl, hm, hd⟩ := h
  exact ⟨c, d, t, t1, t2, n, rfl, hs _ hm, hd.mono hs⟩
theorem PDue.mono {K : KidPar} {own own' : List (Addr × Obj)} {k : Nat} {v : Value} (h : PDue K own k v) (hs : ∀ q ∈ own, q ∈ own') : PDue K own' k v := by
  obtain ⟨d, rfl, hd⟩ := h
  exact ⟨d, rfl, hd.mono hs⟩
theorem Kids.all {K : KidPar} {k : Nat} {own : List (Addr × Obj)} {refs : List Value} (h : Kids K k own refs) : AllAt (PKid K own) refs (List.range k) := by
  induction h with
  | nil => exact .nil
  | @host k own refs c d n n2 t t1 t2 t3 t4 hk hf ih =>
    rw [List.range_succ]
    refine .snoc (ih.mono fun j v p => p.mono fun q hq => .tail _ (.tail _ hq)) ⟨c, d, t, t1, t2, n, rfl, .head _, .inl ⟨hf, t3, t4, n2, .tail _ (.head _)⟩⟩
  | @form k own refs c d n n2 t t1 t2 t3 t4 hk hf ih =>
    rw [List.range_succ]
    refine .snoc (ih.mono fun j v p => p.mono fun q hq => .tail _ (.tail _ hq)) ⟨c, d, t, t1, t2, n, rfl, .head _, .inr ⟨hf, t3, t4, n2, .tail _ (.head _)⟩⟩
structure TextOk (x : Str) (n : Int) : Prop where
  mk :: (out : ∃ r mk y e D, x.length ≤ 1000 ∧ Txt.slice x none (some 3) = Str.ofString "229" ∧ Txt.find x (Str.ofString "(") = 4 ∧ Txt.find3 x (Str.ofString ")") (4 + 1) = r ∧ 9 ≤ r ∧ r < x.length ∧ Txt.item x (4 + 1) = mk ∧ Txt.item x (r - 1) = mk ∧
    Txt.slice x (some (4 + 1)) (some r) = y ∧ y.length ≤ 1000 ∧ mk.length = 1 ∧ Txt.split y mk = [e, e, e, D, e] ∧ PySem.intText? D = some n ∧ D.length ≤ 640)
structure TextBad (x : Str) : Prop where
  mk :: (out : ∃ r mk mk', x.length ≤ 1000 ∧ Txt.slice x none (some 3) = Str.ofString "229" ∧ Txt.find x (Str.ofString "(") = 4 ∧ Txt.find3 x (Str.ofString ")") (4 + 1) = r ∧ 9 ≤ r ∧ r < x.length ∧ Txt.item x (4 + 1) = mk ∧ Txt.item x (r - 1) = mk' ∧ mk ≠ mk')
def KidText (K : KidPar) : Prop := ∀ k, k < 16 → (K.f k = K.l k → TextOk (K.rep k) (K.port k)) ∧ (K.f k ≠ K.l k → TextBad (K.rep k))
theorem shared_eq {s s' : Shared} (h1 : s'.gens = s.gens) (h2 : s'.drawn = s.drawn) (h3 : s'.os = s.os) : s' = { s with heap := s'.heap, toks := s'.toks } := by
  cases s; cases s'
  simp only at h1 h2 h3
  subst h1 h2 h3
  rfl
theorem shared_ex {s s' : Shared} (h1 : s'.gens = s.gens) (h2 : s'.drawn = s.drawn) (h3 : s'.os = s.os) : ∃ h k, s' = { s with heap := h, toks := k } := ⟨_, _, shared_eq h1 h2 h3⟩
/-- what a told child's walk hands on -/
def ToldPost (K : KidPar) (k : Nat) (h₀ : Heap) (L : Addr) (m : Str → Option Value) (s : Shared) (all : List (Addr × Obj)) (y : Value) (s' : Shared) : Prop :=
  ∃ h' tk' d o, s' = { s with heap := h', toks := tk' } ∧ y = .ref d ∧ (∀ q ∈ all, q.1 < d) ∧ Fr h₀ L h' m ∧ News h₀ L h' ((d, o) :: all) ∧ Due K [(d, o)] k d
theorem toldPost_host {K : KidPar} {k : Nat} {h₀ : Heap} {L d : Addr} {m : Str → Option Value} {s s' : Shared} {all : List (Addr × Obj)} {t t' : Tok} {c : Nat} (hf : K.f k = K.l k) (hlt : ∀ q ∈ all, q.1 < d) (F : Fr h₀ L s'.heap m)
    (N : News h₀ L s'.heap ((d, listOf #[.str (Str.ofString "host") t, .int (K.port k) t'] c) :: all)) (h1 : s'.gens = s.gens) (h2 : s'.drawn = s.drawn) (h3 : s'.os = s.os) : ToldPost K k h₀ L m s all (.ref d) s' :=
  ⟨_, _, d, _, shared_eq h1 h2 h3, rfl, hlt, F, N, .inl ⟨hf, t, t', c, .head _⟩⟩
theorem toldPost_form {K : KidPar} {k : Nat} {h₀ : Heap} {L d : Addr} {m : Str → Option Value} {s s' : Shared} {all : List (Addr × Obj)} {t t' : Tok} {c : Nat} (hf : K.f k ≠ K.l k) (hlt : ∀ q ∈ all, q.1 < d) (F : Fr h₀ L s'.heap m)
    (N : News h₀ L s'.heap ((d, listOf #[.str (Str.ofString "form") t, .str (K.rep k) t'] c) :: all)) (h1 : s'.gens = s.gens) (h2 : s'.drawn = s.drawn) (h3 : s'.os = s.os) : ToldPost K k h₀ L m s all (.ref d) s' :=
  ⟨_, _, d, _, shared_eq h1 h2 h3, rfl, hlt, F, N, .inr ⟨hf, t, t', c, .head _⟩⟩
theorem Due.lists {K : KidPar} {k : Nat} {d : Addr} {o : Obj} (h : Due K [(d, o)] k d) : ∃ its n, o = listOf its n := by
  rcases h with ⟨e, t, t', c, hm⟩ | ⟨e, t, t', c, hm⟩
  · cases List.mem_singleton.mp hm
    exact ⟨_, _, rfl⟩
  · cases List.mem_singleton.mp hm
    exact ⟨_, _, rfl⟩
theorem Kids.areLists {K : KidPar} {k : Nat} {own : List (Addr × Obj)} {refs : List Value} (h : Kids K k own refs) : ∀ q ∈ own, ∃ its n, q.2 = listOf its n := by
  induction h with
  | nil => intro q hq; cases hq
  | host _ _ ih =>
    intro q hq
    rcases List.mem_cons.mp hq with rfl | hq
    · exact ⟨_, _, rfl⟩
    rcases List.mem_cons.mp hq with rfl | hq
    · exact ⟨_, _, rfl⟩
    exact ih q hq
  | form _ _ ih =>
    intro q hq
    rcases List.mem_cons.mp hq with rfl | hq
    · exact ⟨_, _, rfl⟩
    rcases List.mem_cons.mp hq with rfl | hq
    · exact ⟨_, _, rfl⟩
    exact ih q hq
section
variable {prog : Program} {w : World} {A : Around} {E : Value → Shared → Prop} {s : Shared} {h₀ : Heap} {L : Addr} {m : Str → Option Value} {env : Env} {elt ct : PySem.Expr} {x : Str} {scope : Scope} {cl : List (Str × Addr)} 
  {Fin : List Value → List (Addr × Obj) → Prop} {news : List (Addr × Obj)}
theorem told_rest {K : KidPar} {own : List (Addr × Obj)} {its : List Value} {R : Addr} {cR : Nat} (hs : AllAt (PKid K own) its (List.range 16)) (hR : (R, listOf its.toArray cR) ∈ news) (hown : ∀ q ∈ own, q ∈ news)
    (step : ∀ k I oI C oC D ys m₂ h tk (E' : Value → Shared → Prop) c d t t1 t2 n rest, k < 16 → NsObj oC m₂ → m₂ x = some (.ref c) → Fr h₀ L h m → News h₀ L h ((c, kidObj K k d t t1 t2 n) :: (I, oI) :: (C, oC) :: (D, lst ys) :: rest) →
      wpAny (model prog w) A (eval elt (compEnvC scope cl C env)) (ToldPost K k h₀ L m s ((c, kidObj K k d t t1 t2 n) :: (I, oI) :: (C, oC) :: (D, lst ys) :: rest)) E' { s with heap := h, toks := tk })
    (fin : ∀ ys own', AllAt (PDue K own') ys (List.range 16) → (∀ q ∈ own', ∃ its n, q.2 = listOf its n) → Fin ys (own' ++ news)) :
    CompRest prog w A h₀ L m env elt x scope cl s (SrcAt h₀ R its.toArray) (fun i v => its.toArray[i]? = some v) Fin its.toArray.size 0 [] news := by
  have hl := hs.length
  refine compRest_of (n := its.toArray.size) (fun i ys ns => ∃ own', AllAt (PDue K own') ys ((List.range 16).take i) ∧ ns = own' ++ news ∧ (∀ q ∈ own', ∃ its n, q.2 = listOf its n)) ?_ ?_ _ _ _ _ (Nat.zero_add _) ⟨[], by rw [List.take_zero]; exact .nil, (List.nil_append _).symm, fun q hq => absurd hq (List.not_mem_nil)⟩
  · rintro i ys ns v I oI C oC D m₂ h tk E' hi ⟨own', hJ, rfl, hcl⟩ hv hC hx F N off ne
    obtain ⟨k, hk, c, d, t, t1, t2, n, rfl, hm, hd⟩ := hs.get (by simpa using hv)
    have N2 : News h₀ L h ((c, kidObj K k d t t1 t2 n) :: (I, oI) :: (C, oC) :: (D, lst ys) :: (own' ++ news)) := fun q hq => N q (by
      rcases List.mem_cons.mp hq with rfl | hq
      · exact .tail _ (.tail _ (.tail _ (List.mem_append_right _ (hown _ hm))))
      · exact hq)
    have hk16 : k < 16 := by simpa using List.mem_of_getElem? hk
    refine wpAny_mono (step k I oI C oC D ys m₂ h tk E' c d t t1 t2 n _ hk16 hC hx F N2) (fun y s₂ p => ?_) fun _ _ e => e
    obtain ⟨h', tk', d', o, rfl, rfl, hlt, F', N', hdue⟩ := p
    refine ⟨h', tk', (d', o) :: (own' ++ news), rfl, F', ?_, ?_, ?_, (d', o) :: own', ?_, rfl, ?_⟩
    · intro q hq
      refine N' q ?_
      rcases List.mem_cons.mp hq with rfl | hq
      · exact .tail _ (.tail _ (.head _))
      rcases List.mem_cons.mp hq with rfl | hq
      · exact .tail _ (.tail _ (.tail _ (.head _)))
      rcases List.mem_cons.mp hq with rfl | hq
      · exact .tail _ (.tail _ (.tail _ (.tail _ (.head _))))
      rcases List.mem_cons.mp hq with rfl | hq
      · exact .head _
      · exact .tail _ (.tail _ (.tail _ (.tail _ (.tail _ hq))))
    · exact ⟨⟨Nat.ne_of_gt (hlt (I, oI) (.tail _ (.head _))), Nat.ne_of_gt (hlt (C, oC) (.tail _ (.tail _ (.head _)))), Nat.ne_of_gt (hlt (D, lst ys) (.tail _ (.tail _ (.tail _ (.head _)))))⟩, off⟩
    · exact .inr ⟨_, .tail _ (List.mem_append_right _ hR), rfl, _, rfl⟩
    · rw [take_snoc hk]
      exact .snoc (hJ.mono fun j v p => p.mono fun q hq => .tail _ hq) ⟨d', rfl, hdue.mono fun q hq => by rw [List.mem_singleton.mp hq]; exact .head _⟩
    · intro q hq
      rcases List.mem_cons.mp hq with rfl | hq
      · exact hdue.lists
      · exact hcl q hq
  · rintro ys ns ⟨own', hJ, rfl, hcl⟩
    rw [List.take_of_length_le (by simp [hl])] at hJ
    exact fin ys own' hJ hcl
end
theorem news_front {h₀ h : Heap} {L : Addr} {all : List (Addr × Obj)} (N : News h₀ L h all) {q : Addr × Obj} (hq : q ∈ all) : News h₀ L h (q :: all) := fun p hp => by
  rcases List.mem_cons.mp hp with rfl | hp
  · exact N _ hq
  · exact N p hp
theorem news_front2 {h₀ h : Heap} {L : Addr} {all : List (Addr × Obj)} (N : News h₀ L h all) {q q2 : Addr × Obj} (hq : q ∈ all) (hq2 : q2 ∈ all) : News h₀ L h (q :: q2 :: all) := news_front (news_front N hq2) (.tail _ hq)
theorem due_eq {K : KidPar} {own own' all : List (Addr × Obj)} {k : Nat} {d d' : Addr} {A : Around} {s : Shared} {h₀ : Heap} {L : Addr} (hd : Due K own' k d) (hd' : Due K own k d') (h1 : ∀ q ∈ own', q ∈ all) (h2 : ∀ q ∈ own, q ∈ all) (N : News h₀ L s.heap all) (hu : A.units < cLine) :
    EqAt A s (.ref d) (.ref d') true := by
  rcases hd with ⟨e, t, t', c, hm⟩ | ⟨e, t, t', c, hm⟩
  · rcases hd' with ⟨e', u, u', c', hm'⟩ | ⟨e', u, u', c', hm'⟩
    · exact eqAt_lists (vs := [_, _]) (ws := [_, _]) (N.isList (h1 _ hm)) (N.isList (h2 _ hm')) (.cons eqAt_ss (.cons eqAt_ii .nil)) hu
    · exact absurd e e'
  · rcases hd' with ⟨e', u, u', c', hm'⟩ | ⟨e', u, u', c', hm'⟩
    · exact absurd e' e
    · exact eqAt_lists (vs := [_, _]) (ws := [_, _]) (N.isList (h1 _ hm)) (N.isList (h2 _ hm')) (.cons eqAt_ss (.cons eqAt_ss .nil)) hu
theorem drop1 {h₀ h : Heap} {L : Addr} {q : Addr × Obj} {all : List (Addr × Obj)} (N : News h₀ L h (q :: all)) : News h₀ L h all := fun p hp => N p (.tail _ hp)
theorem drop2 {h₀ h : Heap} {L : Addr} {q q2 : Addr × Obj} {all : List (Addr × Obj)} (N : News h₀ L h (q :: q2 :: all)) : News h₀ L h all := fun p hp => N p (.tail _ (.tail _ hp))
theorem sz_ok {vs : List Value} {n : Nat} (h : vs.length = n) (hn : n ≤ 1000) : vs.toArray.size ≤ sizeLine := by
  rw [sizeLine_eq, List.size_toArray, h]
  omega
theorem item_lit {prog : Program} {w : World} {A : Around} {E : Value → Shared → Prop} {s : Shared} {h₀ : Heap} {L : Addr} {news : List (Addr × Obj)} {Q : Value → Shared → Prop} {value slice : PySem.Expr} {l : Addr} {vs : List Value} {c : Nat} {k : Int} {u : Tok} {v : Value} (N : News h₀ L s.heap news) (hm : (l, listOf vs.toArray c) ∈ news)
    (h0 : 0 ≤ k) (h1 : k < 2 ^ 63) (hx : vs[k.toNat]? = some v) (h : Q v s) (hs : subscripted slice false (.ref l) (.int k u) = operate [.ref l, .int k u] (getItem (.ref l) (.int k u)) := by with_unfolding_all rfl) :
    wpAny (model prog w) A (subscriptTail value slice (.ref l) (.int k u)) Q E s := item_listR (N.isList hm) h0 h1 (by simpa using hx) h hs
theorem news_swap {h₀ h : Heap} {L : Addr} {q q2 : Addr × Obj} {all : List (Addr × Obj)} (N : News h₀ L h (q :: q2 :: all)) : News h₀ L h (q2 :: q :: all) := fun p hp => N p (by
  rcases List.mem_cons.mp hp with rfl | hp
  · exact .tail _ (.head _)
  rcases List.mem_cons.mp hp with rfl | hp
  · exact .head _
  exact .tail _ (.tail _ hp))
theorem mul_if_is {prog : Program} {w : World} {A : Around} {E : Value → Shared → Prop} {s : Shared} {Q : Value → Shared → Prop} (hh : A.handled = none) {f : UInt64} {t u : Tok} {a n : Int} (hf : FV f a) (hn : n.natAbs < 2 ^ 40) (hb : (n * a).natAbs < 2 ^ 53)
    (hQ : ∀ g t, FV g (n * a) → Q (.float g t) { s with toks := s.toks + 1 }) : wpAny (model prog w) A (binaryOp .Mult (.int n u) (.float f t)) Q E s := by
  refine mul_if_sharp hh (fun o => ?_) fun _ => hQ _ _ (fv_mul (fv_ofInt (i := n) (by omega)) hf (by rw [Int.mul_assoc]) hb)
  have : (2 : Nat) ^ 1024 - 2 ^ 970 > 2 ^ 40 := by decide +kernel
  omega
theorem fv_cast {f : UInt64} {a b : Int} (h : FV f a) (e : a = b) : FV f b := e ▸ h
theorem eqAt_ie {A : Around} {s : Shared} {n n' : Int} {t u : Tok} (h : n = n') : EqAt A s (.int n t) (.int n' u) true := by
  subst h
  exact eqAt_ii
theorem eqAt_fe {A : Around} {s : Shared} {f : UInt64} {t u : Tok} {n a : Int} (h : FV f a) (e : a = 256 * n) : EqAt A s (.float f t) (.int n u) true := eqAt_fi (fv_cast h e)
theorem ia2 {a b : Int} {t u : Tok} : IntsAre [.int a t, .int b u] [a, b] := .cons _ _ (.cons _ _ .nil)
theorem ia3 {a b c : Int} {t u v : Tok} : IntsAre [.int a t, .int b u, .int c v] [a, b, c] := .cons _ _ (.cons _ _ (.cons _ _ .nil))
theorem ia4 {a b c d : Int} {t u v x : Tok} : IntsAre [.int a t, .int b u, .int c v, .int d x] [a, b, c, d] := .cons _ _ (.cons _ _ (.cons _ _ (.cons _ _ .nil)))
theorem sz2 {a b : Value} : ([a, b] : List Value).toArray.size = 2 := rfl
theorem sz3 {a b c : Value} : ([a, b, c] : List Value).toArray.size = 3 := rfl
theorem sz4 {a b c d : Value} : ([a, b, c, d] : List Value).toArray.size = 4 := rfl
theorem FlAre.all {vr : List Value} {cs : List Int} (h : FlAre vr cs) : AllAt (fun k v => ∃ f t, v = .float f t ∧ FV f (cs.getD k 0)) vr (List.range cs.length) := by
  induction h with
  | nil => exact .nil
  | @snoc vs cs f t c ha hf ih =>
    rw [List.length_append, List.length_singleton, List.range_succ]
    refine .snoc ?_ ⟨f, t, rfl, by simpa [List.getD_eq_getElem?_getD] using hf⟩
    have key : ∀ (vs' : List Value) (is : List Nat), AllAt (fun k v => ∃ f t, v = .float f t ∧ FV f (cs.getD k 0)) vs' is → (∀ k ∈ is, k < cs.length) → AllAt (fun k v => ∃ f t, v = .float f t ∧ FV f ((cs ++ [c]).getD k 0)) vs' is := by
      intro vs' is h
      induction h with
      | nil => intro _; exact .nil
      | @snoc vs'' is' k v h' hp ih' =>
        intro hk
        refine .snoc (ih' fun k hk' => hk k (List.mem_append_left _ hk')) ?_
        obtain ⟨f, t, e, hf⟩ := hp
        refine ⟨f, t, e, ?_⟩
        rwa [List.getD_eq_getElem?_getD, List.getElem?_append_left (hk k (List.mem_append_right _ (.head _))), ← List.getD_eq_getElem?_getD]
    exact key _ _ ih (fun k hk => List.mem_range.mp hk)
theorem intsAll {vr : List Value} {cs : List Int} (h : IntsAre vr cs) : AllAt (fun k v => ∃ t, v = .int (cs.getD k 0) t) vr (List.range cs.length) := by
  have key : ∀ n, n ≤ cs.length → AllAt (fun k v => ∃ t, v = .int (cs.getD k 0) t) (vr.take n) (List.range n) := by
    intro n
    induction n with
    | zero => intro _; exact .nil
    | succ n ih =>
      intro hn
      have hl := h.length
      have hv : n < vr.length := by omega
      rw [List.take_add_one, List.getElem?_eq_getElem hv, List.range_succ]
      refine .snoc (ih (by omega)) ?_
      obtain ⟨t, e⟩ := h.int_at n vr[n] (List.getElem?_eq_getElem hv)
      exact ⟨t, e⟩
  have := key cs.length (Nat.le_refl _)
  rwa [List.take_of_length_le (by rw [h.length]; exact Nat.le_refl _)] at this
end Mine
end mKD
section mRF
open PySem PySem.Spec PySem.Calls PySem.W PyProof.Rows
set_option maxRecDepth 100000
set_option genInjectivity false
set_option genSizeOf false
namespace Mine
/-- what holds of the row one, other, one, one -/
structure RowMid (one other : Int) (ys3 : List Int) : Prop where
  bx4 : ∀ x ∈ [one, other, one, one], -(2 ^ 30) ≤ x ∧ x ≤ 2 ^ 30
  hc4 : 256 * [one, other, one, one].sum = (64 * (3 * one + other)) * ((4 : Nat) : Int)
  cb4 : (64 * (3 * one + other)).natAbs < 2 ^ 53
  bx3 : ∀ x ∈ [one, other, one], -(2 ^ 30) ≤ x ∧ x ≤ 2 ^ 30
  hys3 : SortOf ys3 [one, other, one]
  ly3 : ys3.length ≤ 1000
  a03 : At0 ys3 ((1 : Nat) : Int) one
structure RowCut (one other : Int) (ys4 cuts sc : List Int) : Prop where
  bx4 : ∀ x ∈ [one, other, one, one], -(2 ^ 30) ≤ x ∧ x ≤ 2 ^ 30
  hys4 : SortOf ys4 [one, other, one, one]
  ly4 : ys4.length ≤ 1000
  hcl : cuts.length = 3
  hcut : ∀ i, i < 3 → CutStep ys4 4 4 i (cuts.getD i 0)
  cutb : ∀ i, i < 3 → (cuts.getD i 0).natAbs < 2 ^ 40
  hsc : SortOf sc [4 * one, 4 * one, one + 3 * other]
  heq : ∀ i, i < 3 → 4 * cuts.getD i 0 = 256 * sc.getD i 0
  lsc : sc.length = 3
structure RowTog (one other gap : Int) (e1 e2 : Nat → Int) : Prop where
  bx4 : ∀ x ∈ [one, other, one, one], -(2 ^ 30) ≤ x ∧ x ≤ 2 ^ 30
  hc4 : 256 * [one, other, one, one].sum = (64 * (3 * one + other)) * ((4 : Nat) : Int)
  cb4 : (64 * (3 * one + other)).natAbs < 2 ^ 53
  hd4 : ∀ i, i < [one, other, one, one].length → (256 * [one, other, one, one].getD i 0 - 64 * (3 * one + other)).natAbs < 2 ^ 53
  he4 : ∀ i, i < 4 → (256 * [one, other, one, one].getD i 0 - 64 * (3 * one + other)) * (256 * [one, other, one, one].getD i 0 - 64 * (3 * one + other)) = 256 * e1 i
  heb4 : ∀ i, i < 4 → (e1 i).natAbs < 2 ^ 53
  hes4 : ∀ i, i ≤ 4 → (preSum e1 i).natAbs < 2 ^ 53
  hR4 : preSum e1 4 = (64 * (gap * gap)) * (((4 : Nat) : Int) - 1)
  hRb4 : (64 * (gap * gap)).natAbs < 2 ^ 53
  bx2 : ∀ x ∈ [one, other], -(2 ^ 30) ≤ x ∧ x ≤ 2 ^ 30
  by2 : ∀ x ∈ [other, one], -(2 ^ 30) ≤ x ∧ x ≤ 2 ^ 30
  hc2 : 256 * [one, other].sum = (128 * (one + other)) * ((2 : Nat) : Int)
  hc2' : 256 * [other, one].sum = (128 * (one + other)) * ((2 : Nat) : Int)
  cb2 : (128 * (one + other)).natAbs < 2 ^ 53
  hd2 : ∀ i, i < [one, other].length → (256 * [one, other].getD i 0 - 128 * (one + other)).natAbs < 2 ^ 53
  hd2' : ∀ i, i < [other, one].length → (256 * [other, one].getD i 0 - 128 * (one + other)).natAbs < 2 ^ 53
  he2 : ∀ i, i < 2 → (256 * [one, other].getD i 0 - 128 * (one + other)) * (256 * [other, one].getD i 0 - 128 * (one + other)) = 256 * e2 i
  heb2 : ∀ i, i < 2 → (e2 i).natAbs < 2 ^ 53
  hes2 : ∀ i, i ≤ 2 → (preSum e2 i).natAbs < 2 ^ 53
  hR2 : preSum e2 2 = (-(128 * (gap * gap))) * (((2 : Nat) : Int) - 1)
  hRb2 : (-(128 * (gap * gap))).natAbs < 2 ^ 53
  gb : 0 ≤ gap * gap ∧ gap * gap ≤ 10000000000
  gg : -300000 < gap ∧ gap < 300000
theorem tog_dup {h₀ h : Heap} {L : Addr} {a b : Addr × Obj} {r : List (Addr × Obj)} (N : News h₀ L h (a :: b :: r)) : News h₀ L h (a :: b :: b :: r) := fun p hp => N p (by
  rcases List.mem_cons.mp hp with rfl | hp
  · exact .head _
  rcases List.mem_cons.mp hp with rfl | hp
  · exact .tail _ (.head _)
  exact .tail _ hp)
theorem tog_two {h₀ h : Heap} {L : Addr} {a b c : Addr × Obj} {r : List (Addr × Obj)} (N : News h₀ L h (a :: b :: c :: r)) : News h₀ L h (c :: b :: a :: r) := fun p hp => N p (by
  rcases List.mem_cons.mp hp with rfl | hp
  · exact .tail _ (.tail _ (.head _))
  rcases List.mem_cons.mp hp with rfl | hp
  · exact .tail _ (.head _)
  rcases List.mem_cons.mp hp with rfl | hp
  · exact .head _
  exact .tail _ (.tail _ (.tail _ hp)))
theorem off_cons {a : Addr × Obj} {r : List (Addr × Obj)} {d : Addr} (h : a.1 ≠ d) (hr : ∀ p ∈ r, p.1 ≠ d) : ∀ p ∈ a :: r, p.1 ≠ d := fun p hp => by
  rcases List.mem_cons.mp hp with rfl | hp
  · exact h
  · exact hr p hp
def hsd (k : Nat) : Int := 2 * ((k : Int) / 2 % 2) - 1
def tsd (k : Nat) : Int := 2 * ((k : Int) % 2) - 1
def PInt (g : Nat → Int) (k : Nat) (v : Value) : Prop := ∃ t, v = .int (g k) t
theorem PInt.of {g : Nat → Int} {k : Nat} {a : Int} {t : Tok} (h : a = g k) : PInt g k (.int a t) := ⟨t, by rw [h]⟩
end Mine
end mRF
section mFG
open PySem PySem.Spec PySem.Calls PySem.W PyProof.Rows PySem.SeqAt
open LCg
set_option maxRecDepth 100000
namespace Mine
abbrev noE : Value → Shared → Prop := fun _ _ => False
section
variable {prog : Program} {w : World} {A : Around} {E : Value → Shared → Prop} {s : Shared} {env : Env} {h₀ : Heap} {target iter : PySem.Expr} {body : List Stmt} {pos : Pos} {Q : Flow → Shared → Prop} {m : Str → Option Value} {news : List (Addr × Obj)}
/-- what a turn's body hands on -/
def TurnEnd (h₀ : Heap) (L : Addr) (G : Shared → Prop) (J : (Str → Option Value) → Prop) (all : List (Addr × Obj)) (f : Flow) (s' : Shared) : Prop := f = .next ∧ ∃ m', J m' ∧ G s' ∧ Fr h₀ L s'.heap m' ∧ News h₀ L s'.heap all
/-- what the source's walk hands on -/
def SrcG (h₀ : Heap) (L : Addr) (G : Shared → Prop) (J : (Str → Option Value) → Prop) (ax : Addr) (o : Obj) (news : List (Addr × Obj)) (xv : Value) (s₁ : Shared) : Prop := xv = .ref ax ∧ ∃ m₁, J m₁ ∧ G s₁ ∧ Fr h₀ L s₁.heap m₁ ∧ News h₀ L s₁.heap news ∧ (ax, o) ∈ news
/-- what an element's walk hands on, where gens may change -/
def EndG (h₀ : Heap) (L : Addr) (m : Str → Option Value) (G : Shared → Prop) (all : List (Addr × Obj)) (R : Value → Prop) (y : Value) (s' : Shared) : Prop := G s' ∧ Fr h₀ L s'.heap m ∧ News h₀ L s'.heap all ∧ R y
/-- a for's source, and what its turns and its end hand on -/
def ForSrc (prog : Program) (w : World) (A : Around) (h₀ : Heap) (env : Env) (target : PySem.Expr) (body : List Stmt) (P : Addr) (G : Shared → Prop) (Q : Flow → Shared → Prop) (xv : Value) (s₁ : Shared) : Prop :=
  ∃ (ax : Addr) (vs : List Value) (c : Nat) (news : List (Addr × Obj)) (m₁ : Str → Option Value) (J : Nat → (Str → Option Value) → Prop), xv = .ref ax ∧ J 0 m₁ ∧ G s₁ ∧ Fr h₀ env.locals s₁.heap m₁ ∧ News h₀ env.locals s₁.heap news ∧ (ax, listOf vs.toArray c) ∈ news ∧
    (∀ i v m₁ s₁ I oI, vs[i]? = some v → J i m₁ → G s₁ → Fr h₀ env.locals s₁.heap m₁ → News h₀ env.locals s₁.heap ((I, oI) :: news) → (∀ p ∈ news, p.1 ≠ I) → P ≠ I →
      wpAny (model prog w) A (assign target env v) (fun _ s₂ => wpAny (model prog w) A (execs body env) (TurnEnd h₀ env.locals G (J (i + 1)) ((I, oI) :: news)) noE s₂) noE s₁) ∧
    (∀ m' s', J vs.length m' → G s' → Fr h₀ env.locals s'.heap m' → News h₀ env.locals s'.heap news → Q .next s')
theorem forList_of (P : Addr) (G : Shared → Prop) (hGP : ∀ s, G s → ∃ o, s.heap.get? P = some o) (hG0 : ∀ s h tk, G s → h.get? P = s.heap.get? P → G { s with heap := h, toks := tk })
    (hh : A.handled = none) (h : wpAny (model prog w) A (eval iter env) (ForSrc prog w A h₀ env target body P G Q) noE s)
    (hs : ∀ x, foldedSetIterable iter env x = pure x := by intro _; rfl) :
    wpAny (model prog w) A (exec (.For target iter body [] pos) env) Q E s := by
  have hE : PassesOwn (model prog w) A env noE := PassesOwn.never
  refine wpAny_mono (E := noE) ?_ (fun _ _ q => q) fun _ _ e => e.elim
  refine wpAny_For (wpAny_mono h (fun xv s₁ h₁ => ?_) fun _ _ e => e) hs
  obtain ⟨ax, vs, c, news, m₁, J, rfl, hJ, hG, F, N, hm, step, fin⟩ := h₁
  have hl := N.isList hm
  obtain ⟨ol, hol, hol'⟩ := id hl
  have hlt : ax < s₁.heap.objs.size := Heap.lt_size hol
  refine wpAny_pyIter_list hl ?_
  have up : ∀ b o, s₁.heap.get? b = some o → (s₁.heap.push { cls := .type "list_iterator", data := .fields #[.ref ax, .int 0 0] }).get? b = some o := fun b o e => Heap.get?_push_of_some _ e
  have W := Walks.list (prog := prog) (w := w) hh s₁.heap.objs.size ax (Nat.ne_of_lt hlt) vs.toArray
  have hI₀ : h₀.get? s₁.heap.objs.size = none := next_is_new F
  have hLI : env.locals ≠ s₁.heap.objs.size := Nat.ne_of_lt F.ns.lt
  have off : ∀ p ∈ news, p.1 ≠ s₁.heap.objs.size := fun p hp => Nat.ne_of_lt (Heap.lt_size (N p hp).1)
  obtain ⟨oP, hoP⟩ := hGP _ hG
  have hPI : P ≠ s₁.heap.objs.size := Nat.ne_of_lt (Heap.lt_size hoP)
  have kP : ∀ (s' : Shared) (h₁ : Heap) (tk : Nat), G s' → (∀ b o, b ∉ [s₁.heap.objs.size] → s'.heap.get? b = some o → h₁.get? b = some o) → G { s' with heap := h₁, toks := tk } := fun s' h₁ tk g k => by
    obtain ⟨o, ho⟩ := hGP _ g
    exact hG0 s' h₁ tk g (by rw [ho]; exact k P o (by simpa using hPI) ho)
  refine codeAny_forLoop_any
    (fun k s' => ∃ i m', s'.heap.IsListIter s₁.heap.objs.size ax i ∧ J i m' ∧ G s' ∧ Fr h₀ env.locals s'.heap m' ∧ News h₀ env.locals s'.heap news ∧ i ≤ vs.length ∧ k = vs.length + 1 - i) ?_ (vs.length + 1)
    ⟨0, m₁, ⟨_, Heap.get?_push_size _ rfl, rfl, rfl⟩, hJ, kP s₁ _ s₁.toks hG (fun b o _ e => up b o e), F.keeps up, N.grown up, Nat.zero_le _, rfl⟩
  rintro k s' ⟨i, m', hit, hJ', hG', F', N', hi, rfl⟩
  have hst : s'.heap.IsListIter s₁.heap.objs.size ax i ∧ s'.heap.IsList ax vs.toArray := ⟨hit, N'.isList hm⟩
  by_cases hlt' : i < vs.length
  · refine W.item i _ _ _ (by simpa using hlt') hst fun v h₁ tk₁ hP hst₁ hk₁ => ?_
    refine letGo_listiter hst₁.1 ?_
    obtain ⟨oI, heI, hoI⟩ := hst₁.1
    have F₁ : Fr h₀ env.locals h₁ m' := fr_but F' hk₁ hLI hI₀
    have N₁ : News h₀ env.locals h₁ ((s₁.heap.objs.size, oI) :: news) := fun p hp => by
      rcases List.mem_cons.mp hp with rfl | hp
      · exact ⟨heI, Ne.symm hLI, hI₀⟩
      · exact news_but N' hk₁ off p hp
    refine wpAny_mono (step i v m' { s' with heap := h₁, toks := tk₁ } _ oI (by simpa using hP) hJ' (kP s' h₁ tk₁ hG' hk₁) F₁ N₁ off hPI) (fun _ s₂ h₂ => wpAny_mono (wpAny_passesOwn hE h₂) (fun f s₃ h₃ => ?_) fun _ _ e => e) hE
    obtain ⟨rfl, m₂, hJ₂, hG₂, F₂, N₂⟩ := h₃
    exact ⟨vs.length + 1 - (i + 1), by omega, i + 1, m₂, ⟨oI, (N₂ _ (.head _)).1, hoI⟩, hJ₂, hG₂, F₂, fun p hp => N₂ p (.tail _ hp), hlt', rfl⟩
  · have hin : i = vs.length := by omega
    subst hin
    refine W.done _ _ _ (by simpa using hst) fun h₁ tk₁ hk₁ => wpAny_execs_nil ?_
    exact fin m' { s' with heap := h₁, toks := tk₁ } hJ' (kP s' h₁ tk₁ hG' hk₁) (fr_but F' hk₁ hLI hI₀) (news_but N' hk₁ off)
theorem compList_of {elt : PySem.Expr} {x : Str} {px : Pos} {scope : Scope} {cl : List (Str × Addr)} {ax : Addr} {its : List Value} {is : List Nat} {c : Nat} {Ps Pd : Nat → Value → Prop} {R : Value → Shared → Prop}
    (P : Addr) (G : Shared → Prop) (hGP : ∀ s, G s → ∃ o, s.heap.get? P = some o) (hG0 : ∀ s h tk, G s → h.get? P = s.heap.get? P → G { s with heap := h, toks := tk })
    (hh : A.handled = none) (hall : AllAt Ps its is) (hn : its.length ≤ 1000)
    (hclos : closureFor scope env = pure cl) (hcell : ∀ y ∈ scope.names, y.2 ≠ .cell) (hkind : scope.kind = .function)
    (hnames : ∀ y ∈ scope.names, y.2 = .local → scope.names.lookup y.1 = some .local) (hx : scope.names.lookup x = some .local)
    (h : wpAny (model prog w) A (eval iter env) (SrcG h₀ L G (fun m₁ => m₁ = m) ax (listOf its.toArray c) news) noE s)
    (step : ∀ k v I oI C oC D ys m₂ s₁, k ∈ is → Ps k v → NsObj oC m₂ → m₂ x = some v → G s₁ → Fr h₀ L s₁.heap m → News h₀ L s₁.heap ((I, oI) :: (C, oC) :: (D, lst ys) :: news) → (P ≠ I ∧ P ≠ C ∧ P ≠ D) → (∀ p ∈ news, p.1 ≠ C ∧ p.1 ≠ D ∧ p.1 ≠ I) →
      wpAny (model prog w) A (eval elt (compEnvC scope cl C env)) (EndG h₀ L m G ((I, oI) :: (C, oC) :: (D, lst ys) :: news) (Pd k)) noE s₁)
    (fin : ∀ D ys s', AllAt Pd ys is → G s' → Fr h₀ L s'.heap m → News h₀ L s'.heap ((D, lst ys) :: news) → R (.ref D) s')
    (hs : ∀ x, foldedSetIterable iter env x = pure x := by intro _; rfl) :
    wpAny (model prog w) A (eval (.ListComp elt [⟨.Name x px, iter, [], 0⟩] scope pos) env) R E s := by
  refine wpAny_mono (E := noE) ?_ (fun _ _ q => q) fun _ _ e => e.elim
  rw [eval_ListComp]
  refine wpAny_comprehension_free (use := none) rfl hs hclos hkind hnames (wpAny_mono h (fun xv s₁ h₁ => ?_) fun _ _ e => e)
  obtain ⟨rfl, m₁, hm₁, hG, F, N, hm⟩ := h₁
  rw [hm₁] at F
  have hl := N.isList hm
  obtain ⟨ol, hol, hol'⟩ := id hl
  have hlt : ax < s₁.heap.objs.size := Heap.lt_size hol
  have hlen := hall.length
  refine wpAny_pyIter_list hl ?_
  have up : ∀ b o, s₁.heap.get? b = some o → (s₁.heap.push { cls := .type "list_iterator", data := .fields #[.ref ax, .int 0 0] }).get? b = some o := fun b o e => Heap.get?_push_of_some _ e
  have hItAt : (s₁.heap.push { cls := .type "list_iterator", data := .fields #[.ref ax, .int 0 0] }).get? s₁.heap.objs.size = some { cls := .type "list_iterator", data := .fields #[.ref ax, .int 0 0] } := Heap.get?_push_size _ rfl
  have hPsz : (s₁.heap.push { cls := .type "list_iterator", data := .fields #[.ref ax, .int 0 0] }).objs.size = s₁.heap.objs.size + 1 := Heap.size_push ..
  generalize s₁.heap.push { cls := .type "list_iterator", data := .fields #[.ref ax, .int 0 0] } = H1 at up hItAt hPsz ⊢
  have W := Walks.list (prog := prog) (w := w) hh s₁.heap.objs.size ax (Nat.ne_of_lt hlt) its.toArray
  have hI₀ : h₀.get? s₁.heap.objs.size = none := next_is_new F
  have hLI : L ≠ s₁.heap.objs.size := Nat.ne_of_lt F.ns.lt
  have F1 : Fr h₀ L H1 m := F.keeps up
  have N1 : News h₀ L H1 news := N.grown up
  obtain ⟨oP, hoP⟩ := hGP _ hG
  have hPI : P < s₁.heap.objs.size := Heap.lt_size hoP
  refine wpAny_newObj_type (wpAny_newFunctionEnv hcell (by intro y hy; simp at hy) (fun h₁ hns₁ hsb₁ => ?_) hkind)
  dsimp only at hns₁ hsb₁ ⊢
  have hDat : (H1.push { cls := .type "list", dict := none, data := .seq ([] : List Value).toArray }).get? H1.objs.size = some (lst []) := Heap.get?_push_size _ rfl
  have up2 : ∀ b o, H1.get? b = some o → (H1.push { cls := .type "list", dict := none, data := .seq ([] : List Value).toArray }).get? b = some o := fun b o e => Heap.get?_push_of_some _ e
  have hC : (H1.push { cls := .type "list", dict := none, data := .seq ([] : List Value).toArray }).objs.size = H1.objs.size + 1 := Heap.size_push ..
  generalize H1.push { cls := .type "list", dict := none, data := .seq ([] : List Value).toArray } = H2 at hns₁ hsb₁ hDat up2 hC ⊢
  have below : ∀ b, b < H1.objs.size → b ≠ H2.objs.size ∧ b ≠ H1.objs.size := fun b hb => ⟨by rw [hC]; exact Nat.ne_of_lt (Nat.lt_succ_of_lt hb), Nat.ne_of_lt hb⟩
  have old : ∀ b o, H1.get? b = some o → h₁.get? b = some o := fun b o e => hsb₁.extBut b o (below b (Heap.lt_size e)).1 (Heap.get?_push_of_some _ (up2 b o e))
  have hDC : H1.objs.size ≠ H2.objs.size := by rw [hC]; exact Nat.ne_of_lt (Nat.lt_succ_self _)
  have hacc : h₁.get? H1.objs.size = some (lst []) := hsb₁.extBut _ _ hDC (Heap.get?_push_of_some _ hDat)
  have hIlt : s₁.heap.objs.size < H1.objs.size := by rw [hPsz]; exact Nat.lt_succ_self _
  have offI : ∀ p ∈ news, p.1 ≠ s₁.heap.objs.size := fun p hp => Nat.ne_of_lt (Heap.lt_size (N p hp).1)
  have off3 : ∀ p ∈ news, p.1 ≠ H2.objs.size ∧ p.1 ≠ H1.objs.size ∧ p.1 ≠ s₁.heap.objs.size := fun p hp => ⟨(below _ (Heap.lt_size (N1 p hp).1)).1, (below _ (Heap.lt_size (N1 p hp).1)).2, offI p hp⟩
  have hPH : P < H1.objs.size := Nat.lt_trans hPI hIlt
  have fresh₀ : ∀ a : Nat, H1.objs.size ≤ a → h₀.get? a = none := fun a ha => by
    cases e : h₀.get? a with
    | none => rfl
    | some o' => exact absurd (Heap.lt_size (F1.keep a o' e)) (Nat.not_lt.mpr ha)
  have hD₀ : h₀.get? H1.objs.size = none := fresh₀ _ (Nat.le_refl _)
  have hC₀ : h₀.get? H2.objs.size = none := fresh₀ _ (by rw [hC]; exact Nat.le_succ _)
  have hLlt : L < H1.objs.size := F1.ns.lt
  have hDL : H1.objs.size ≠ L := Ne.symm (below L hLlt).2
  have hCL : H2.objs.size ≠ L := Ne.symm (below L hLlt).1
  have hCI : s₁.heap.objs.size ≠ H2.objs.size := (below _ hIlt).1
  have hDI : s₁.heap.objs.size ≠ H1.objs.size := (below _ hIlt).2
  have hPC : P ≠ H2.objs.size := (below _ hPH).1
  have hPD : P ≠ H1.objs.size := (below _ hPH).2
  have gk : ∀ (s' : Shared) (h' : Heap) (tk : Nat), G s' → (∀ o, s'.heap.get? P = some o → h'.get? P = some o) → G { s' with heap := h', toks := tk } := fun s' h' tk g k => by
    obtain ⟨o, ho⟩ := hGP _ g
    exact hG0 s' h' tk g (by rw [ho]; exact k o ho)
  have loop : ∀ s₃ : Shared, s₃ = { s₁ with heap := h₁, toks := s₁.toks + ([] : List (Str × Value)).length } →
      codeAny (model prog w) A (.compLoop (.ListComp elt [⟨.Name x px, iter, [], 0⟩] scope pos) 0 (.ref s₁.heap.objs.size) (.ref H1.objs.size) (compEnvC scope cl H2.objs.size env))
        (compPost (model prog w) A noE none R (.ref H1.objs.size) H2.objs.size) s₃ := by
    rintro s₃ rfl
    refine codeAny_compLoop_tests
      (fun k s' => ∃ i ys m', s'.heap.IsListIter s₁.heap.objs.size ax i ∧ AllAt Pd ys (is.take i) ∧ ys.length = i ∧ G s' ∧ Fr h₀ L s'.heap m ∧ s'.heap.Ns H2.objs.size m' ∧ News h₀ L s'.heap ((H1.objs.size, lst ys) :: news) ∧ i ≤ its.length ∧ k = its.length + 1 - i) ?_ (its.length + 1)
      ⟨0, [], _, ⟨_, old _ _ hItAt, rfl, rfl⟩, by rw [List.take_zero]; exact .nil, rfl, gk s₁ _ _ hG (fun o e => old _ _ (up _ _ e)), F1.keeps old, hns₁, fun p hp => ?_, Nat.zero_le _, rfl⟩
    · rintro k s' ⟨i, ys, m', hit, hJ, hyl, hG', F', hn', N', hi, rfl⟩
      have hst : s'.heap.IsListIter s₁.heap.objs.size ax i ∧ s'.heap.IsList ax its.toArray := ⟨hit, N'.isList (.tail _ hm)⟩
      by_cases hlt' : i < its.length
      · refine W.item i _ _ _ (by simpa using hlt') hst fun v h₂ tk₂ hPv hst₂ hk₂ => ?_
        refine wpAny_assign_Name (wpAny_storeName_local (lookup_relabel_local hx) (hn'.at' fun o e => hk₂ _ o (by simpa using Ne.symm hCI) e) (fun h₃ hn₃ hs₃ => ?_) (by simp [compEnvC, relabel, hkind]))
        refine wpAny_tests_nil ?_
        simp only [if_true]
        obtain ⟨kk, hkk, hp⟩ := hall.get (by simpa using hPv)
        obtain ⟨oI, heI, hoI⟩ := hst₂.1
        have heI3 : h₃.get? s₁.heap.objs.size = some oI := hs₃.extBut _ _ hCI heI
        obtain ⟨oC, heC, hoC⟩ := ns_obj hn₃
        have F₃ : Fr h₀ L h₃ m := (fr_but F' hk₂ hLI hI₀).change hs₃ hCL hC₀
        have N₂ : News h₀ L h₂ ((H1.objs.size, lst ys) :: news) := news_but N' hk₂ fun p hp => by
          rcases List.mem_cons.mp hp with rfl | hp
          · exact Ne.symm hDI
          · exact offI p hp
        have N₃ : News h₀ L h₃ ((s₁.heap.objs.size, oI) :: (H2.objs.size, oC) :: (H1.objs.size, lst ys) :: news) := fun p hp => by
          rcases List.mem_cons.mp hp with rfl | hp
          · exact ⟨heI3, Ne.symm hLI, hI₀⟩
          rcases List.mem_cons.mp hp with rfl | hp
          · exact ⟨heC, hCL, hC₀⟩
          · have z := N₂ p hp
            refine ⟨hs₃.extBut _ _ ?_ z.1, z.2⟩
            rcases List.mem_cons.mp hp with rfl | hp
            · exact hDC
            · exact (off3 p hp).1
        have G₃ : G { s' with heap := h₃, toks := tk₂ + 1 } := gk s' h₃ (tk₂ + 1) hG' fun o e => hs₃.extBut _ _ hPC (hk₂ _ _ (by simpa using Nat.ne_of_lt hPI) e)
        refine wpAny_mono (step kk v _ oI _ oC _ ys _ { s' with heap := h₃, toks := tk₂ + 1 } (List.mem_of_getElem? hkk) hp hoC (by simp) G₃ F₃ N₃ ⟨Nat.ne_of_lt hPI, hPC, hPD⟩ off3) (fun y s₄ h₄ => ?_) fun _ _ e => e.elim
        obtain ⟨G₄, F₄, N₄, hd⟩ := h₄
        have zI := (N₄ _ (.head _)).1
        have zC := (N₄ _ (.tail _ (.head _))).1
        have zD := (N₄ _ (.tail _ (.tail _ (.head _)))).1
        refine append_at (hsz := by show ys.toArray.size ≤ sizeLine; rw [List.size_toArray, hyl, sizeLine_eq]; omega) zD fun h₅ hs₅ hD₅ => ?_
        refine ⟨its.length + 1 - (i + 1), by omega, i + 1, ys ++ [y], _, ⟨oI, hs₅.extBut _ _ hDI zI, hoI⟩, by rw [take_snoc hkk]; exact .snoc hJ hd, by rw [List.length_append, List.length_singleton, hyl],
          gk s₄ h₅ _ G₄ fun o e => hs₅.extBut _ _ hPD e, F₄.change hs₅ hDL hD₀, (hoC.ns zC).sameBut hs₅ (Ne.symm hDC), fun p hp => ?_, hlt', rfl⟩
        rcases List.mem_cons.mp hp with rfl | hp
        · exact ⟨hD₅.trans (congrArg some (lst_snoc ys y)), hDL, hD₀⟩
        · have z := N₄ p (.tail _ (.tail _ (.tail _ hp)))
          exact ⟨hs₅.extBut _ _ (off3 p hp).2.1 z.1, z.2⟩
      · obtain rfl : i = its.length := Nat.le_antisymm hi (Nat.not_lt.mp hlt')
        refine W.done _ _ _ (by simpa using hst) fun h₂ tk₂ hk₂ => ?_
        refine ⟨m', hn'.at' fun o e => hk₂ _ o (by simpa using Ne.symm hCI) e, fun h'' hs'' => ?_⟩
        have F₂ := fr_but F' hk₂ hLI hI₀
        have N₂ : News h₀ L h₂ ((H1.objs.size, lst ys) :: news) := news_but N' hk₂ fun p hp => by
          rcases List.mem_cons.mp hp with rfl | hp
          · exact Ne.symm hDI
          · exact offI p hp
        refine fin H1.objs.size ys { s' with heap := h'', toks := tk₂ } (by rwa [List.take_of_length_le (by omega)] at hJ) (gk s' h'' tk₂ hG' fun o e => hs''.extBut _ _ hPC (hk₂ _ _ (by simpa using Nat.ne_of_lt hPI) e)) (F₂.change hs'' hCL hC₀) fun p hp => ?_
        have z := N₂ p hp
        refine ⟨hs''.extBut _ _ ?_ z.1, z.2⟩
        rcases List.mem_cons.mp hp with rfl | hp
        · exact hDC
        · exact (off3 p hp).1
    · rcases List.mem_cons.mp hp with rfl | hp
      · exact ⟨hacc, hDL, hD₀⟩
      · have z := N1 p hp
        exact ⟨old _ _ z.1, z.2⟩
  exact codeAny_compStart_list (loop _ rfl) (W.self 0 _ _ _ ⟨⟨_, old _ _ hItAt, rfl, rfl⟩, (N1.isList hm).at fun o e => old _ _ e⟩ (loop _ rfl))
end
end Mine
end mFG
section mGR
open PySem PySem.Spec PySem.Calls PySem.W PyProof.Rows PySem.SeqAt
open LCg
set_option maxRecDepth 100000
namespace Mine
def AreLists (ns : List (Addr × Obj)) : Prop := ∀ q ∈ ns, ∃ its n, q.2 = listOf its n
/-- what an element's walk that makes one new list hands on -/
def GrowPost (Pd : List (Addr × Obj) → Nat → Value → Prop) (k : Nat) (h₀ : Heap) (L : Addr) (m : Str → Option Value) (s : Shared) (all : List (Addr × Obj)) (y : Value) (s' : Shared) : Prop :=
  ∃ h' tk' d its n, s' = { s with heap := h', toks := tk' } ∧ y = .ref d ∧ (∀ q ∈ all, q.1 ≠ d) ∧ Fr h₀ L h' m ∧ News h₀ L h' ((d, listOf its n) :: all) ∧ Pd [(d, listOf its n)] k (.ref d)
section
variable {prog : Program} {w : World} {A : Around} {E : Value → Shared → Prop} {s : Shared} {h₀ : Heap} {L : Addr} {m : Str → Option Value} {env : Env} {elt ct : PySem.Expr} {x : Str} {scope : Scope} {cl : List (Str × Addr)} 
  {Fin : List Value → List (Addr × Obj) → Prop} {news : List (Addr × Obj)}
theorem grow_rest {Ps : Nat → Value → Prop} {Pd : List (Addr × Obj) → Nat → Value → Prop} {its : List Value} {is : List Nat} {R : Addr} {cR : Nat} (mono : ∀ own own' k v, Pd own k v → (∀ q ∈ own, q ∈ own') → Pd own' k v)
    (hs : AllAt Ps its is) (hR : (R, listOf its.toArray cR) ∈ news)
    (step : ∀ k v I oI C oC D ys m₂ h tk (E' : Value → Shared → Prop) rest, k ∈ is → Ps k v → NsObj oC m₂ → m₂ x = some v → Fr h₀ L h m → (∀ q ∈ news, q ∈ rest) → News h₀ L h ((I, oI) :: (C, oC) :: (D, lst ys) :: rest) →
      wpAny (model prog w) A (eval elt (compEnvC scope cl C env)) (GrowPost Pd k h₀ L m s ((I, oI) :: (C, oC) :: (D, lst ys) :: rest)) E' { s with heap := h, toks := tk })
    (fin : ∀ ys own', AllAt (Pd own') ys is → AreLists own' → Fin ys (own' ++ news)) :
    CompRest prog w A h₀ L m env elt x scope cl s (SrcAt h₀ R its.toArray) (fun i v => its.toArray[i]? = some v) Fin its.toArray.size 0 [] news := by
  have hl := hs.length
  refine compRest_of (n := its.toArray.size) (fun i ys ns => ∃ own', AllAt (Pd own') ys (is.take i) ∧ ns = own' ++ news ∧ AreLists own') ?_ ?_ _ _ _ _ (Nat.zero_add _) ⟨[], by rw [List.take_zero]; exact .nil, (List.nil_append _).symm, fun q hq => absurd hq (List.not_mem_nil)⟩
  · rintro i ys ns v I oI C oC D m₂ h tk E' hi ⟨own', hJ, rfl, hcl⟩ hv hC hx F N off ne
    obtain ⟨k, hk, hp⟩ := hs.get (by simpa using hv)
    refine wpAny_mono (step k v I oI C oC D ys m₂ h tk E' (own' ++ news) (List.mem_of_getElem? hk) hp hC hx F (fun q hq => List.mem_append_right _ hq) N) (fun y s₂ p => ?_) fun _ _ e => e
    obtain ⟨h', tk', d', its', n', rfl, rfl, hlt, F', N', hdue⟩ := p
    refine ⟨h', tk', (d', listOf its' n') :: (own' ++ news), rfl, F', ?_, ?_, ?_, (d', listOf its' n') :: own', ?_, rfl, ?_⟩
    · intro q hq
      refine N' q ?_
      rcases List.mem_cons.mp hq with rfl | hq
      · exact .tail _ (.head _)
      rcases List.mem_cons.mp hq with rfl | hq
      · exact .tail _ (.tail _ (.head _))
      rcases List.mem_cons.mp hq with rfl | hq
      · exact .tail _ (.tail _ (.tail _ (.head _)))
      rcases List.mem_cons.mp hq with rfl | hq
      · exact .head _
      · exact .tail _ (.tail _ (.tail _ (.tail _ hq)))
    · exact ⟨⟨(hlt (I, oI) (.head _)).symm, (hlt (C, oC) (.tail _ (.head _))).symm, (hlt (D, lst ys) (.tail _ (.tail _ (.head _)))).symm⟩, off⟩
    · exact .inr ⟨_, .tail _ (List.mem_append_right _ hR), rfl, _, rfl⟩
    · rw [take_snoc hk]
      exact .snoc (hJ.mono fun j v p => mono _ _ _ _ p fun q hq => .tail _ hq) (mono _ _ _ _ hdue fun q hq => by rw [List.mem_singleton.mp hq]; exact .head _)
    · intro q hq
      rcases List.mem_cons.mp hq with rfl | hq
      · exact ⟨_, _, rfl⟩
      · exact hcl q hq
  · rintro ys ns ⟨own', hJ, rfl, hcl⟩
    rw [List.take_of_length_le (by simp [hl])] at hJ
    exact fin ys own' hJ hcl
end
/-- a row of ints of the ledger -/
def PRow (g : Nat → Nat → Int) (tk : List Nat) (own : List (Addr × Obj)) (j : Nat) (v : Value) : Prop := ∃ d ys c, v = .ref d ∧ (d, listOf ys.toArray c) ∈ own ∧ AllAt (PInt (g j)) ys tk
theorem PRow.mono {g : Nat → Nat → Int} {tk : List Nat} (own own' : List (Addr × Obj)) (k : Nat) (v : Value) (h : PRow g tk own k v) (hs : ∀ q ∈ own, q ∈ own') : PRow g tk own' k v := by
  obtain ⟨d, ys, c, rfl, hm, ha⟩ := h
  exact ⟨d, ys, c, rfl, hs _ hm, ha⟩
theorem off1_ne {D : Addr} : ∀ {l : List (Addr × Obj)}, Off1 D l → ∀ q ∈ l, q.1 ≠ D
  | [], _, _, h => nomatch h
  | _ :: _, x, q, h => by
    rcases List.mem_cons.mp h with rfl | h
    · exact x.1
    · exact off1_ne x.2 q h
/-- what stays while gens and covariance's table change -/
def GL (s0 s' : Shared) : Prop := s'.drawn = s0.drawn ∧ s'.os = s0.os ∧ ((∀ y ∈ s0.gens, y.bare = true) → ∀ y ∈ s'.gens, y.bare = true) ∧ ∃ ot, CodeTab ot ∧ s'.heap.get? 94 = some ot
theorem GL.at (s0 : Shared) : ∀ s, GL s0 s → ∃ o, s.heap.get? 94 = some o := fun _ ⟨_, _, _, ot, _, h⟩ => ⟨ot, h⟩
theorem GL.keep (s0 : Shared) : ∀ s h tk, GL s0 s → h.get? 94 = s.heap.get? 94 → GL s0 { s with heap := h, toks := tk } := fun _ _ _ ⟨a, b, c, ot, d, e⟩ k => ⟨a, b, c, ot, d, k.trans e⟩
theorem allInts {g : Nat → Int} {vs : List Value} {is : List Nat} (h : AllAt (PInt g) vs is) : IntsAre vs (is.map g) := by
  induction h with
  | nil => exact .nil
  | snoc _ hp ih =>
    obtain ⟨t, rfl⟩ := hp
    rw [List.map_append]
    have app : ∀ {vs : List Value} {ns : List Int} {k : Int} {t : Tok}, IntsAre vs ns → IntsAre (vs ++ [.int k t]) (ns ++ [k]) := by
      intro vs ns k t h
      induction h with
      | nil => exact .cons _ _ .nil
      | cons n t h ih => exact .cons n t ih
    exact app ih
/-- what _law_together needs of two columns -/
def TogOk (xs ys : List Int) (n : Nat) (R : Int) : Prop := ∃ (cx cy : Int) (e : Nat → Int), 256 * xs.sum = cx * n ∧ 256 * ys.sum = cy * n ∧ cx.natAbs < 2 ^ 53 ∧ cy.natAbs < 2 ^ 53 ∧ (∀ x ∈ xs, -(2 ^ 30) ≤ x ∧ x ≤ 2 ^ 30) ∧ (∀ x ∈ ys, -(2 ^ 30) ≤ x ∧ x ≤ 2 ^ 30) ∧
  (∀ i, i < xs.length → (256 * xs.getD i 0 - cx).natAbs < 2 ^ 53) ∧ (∀ i, i < ys.length → (256 * ys.getD i 0 - cy).natAbs < 2 ^ 53) ∧ (∀ i, i < n → (256 * xs.getD i 0 - cx) * (256 * ys.getD i 0 - cy) = 256 * e i) ∧ (∀ i, i < n → (e i).natAbs < 2 ^ 53) ∧
  (∀ i, i ≤ n → (preSum e i).natAbs < 2 ^ 53) ∧ preSum e n = R * (n - 1) ∧ R.natAbs < 2 ^ 53
theorem all4 {P : Nat → Value → Prop} {a b c d : Value} (h0 : P 0 a) (h1 : P 1 b) (h2 : P 2 c) (h3 : P 3 d) : AllAt P [a, b, c, d] [0, 1, 2, 3] :=
  .snoc (vs := [a, b, c]) (is := [0, 1, 2]) (.snoc (vs := [a, b]) (is := [0, 1]) (.snoc (vs := [a]) (is := [0]) (.snoc (vs := []) (is := []) .nil h0) h1) h2) h3
theorem news_drop4 {h₀ h : Heap} {L : Addr} {a b c d : Addr × Obj} {r : List (Addr × Obj)} (N : News h₀ L h (a :: b :: c :: d :: r)) : News h₀ L h (a :: b :: c :: r) := fun p hp => N p (by
  rcases List.mem_cons.mp hp with rfl | hp
  · exact .head _
  rcases List.mem_cons.mp hp with rfl | hp
  · exact .tail _ (.head _)
  rcases List.mem_cons.mp hp with rfl | hp
  · exact .tail _ (.tail _ (.head _))
  exact .tail _ (.tail _ (.tail _ (.tail _ hp))))
def rowNames : List Str := [Str.ofString "one", Str.ofString "other", Str.ofString "row"]
theorem over_row {a1 a2 a3 : Option Value} {vals m0 : Str → Option Value} :
    ∃ vals', (fun y => if y = Str.ofString "row" then a1 else if y = Str.ofString "other" then a2 else if y = Str.ofString "one" then a3 else over rowNames vals m0 y) = over rowNames vals' m0 := by
  refine ⟨_, over_of fun y hy => ?_⟩
  have h1 := hy
  simp only [rowNames, List.mem_cons, not_or] at h1
  obtain ⟨h1, h2, h3, -⟩ := h1
  show (if y = Str.ofString "row" then a1 else if y = Str.ofString "other" then a2 else if y = Str.ofString "one" then a3 else over rowNames vals m0 y) = m0 y
  rw [if_neg h3, if_neg h2, if_neg h1]
  unfold over
  rw [if_neg hy]
/-- a pair of columns that _law_together refuses -/
def PPair (own : List (Addr × Obj)) (_j : Nat) (v : Value) : Prop := ∃ (p a b : Addr) (va vb : List Value) (cp ca cb na nb : Nat), v = .ref p ∧ (p, listOf #[.ref a, .ref b] cp) ∈ own ∧ (a, listOf va.toArray ca) ∈ own ∧ (b, listOf vb.toArray cb) ∈ own ∧ va.toArray.size = na ∧ vb.toArray.size = nb ∧ na ≤ 1000 ∧ nb ≤ 1000 ∧ ((nb : Int) ≠ (na : Int) ∨ (na = nb ∧ na < 2))
theorem mineSize {vs : List Value} {xs : List Int} (h : IntsAre vs xs) : vs.toArray.size = xs.length := by rw [List.size_toArray, h.length]
end Mine
end mGR
section mTW
open PySem PySem.Spec PySem.Calls PySem.W PyProof.Rows PySem.SeqAt
open LCg
set_option maxRecDepth 100000
namespace Mine
section
variable {prog : Program} {w : World} {A : Around} {E : Value → Shared → Prop} {s : Shared} {env : Env} {elt i0 i1 : PySem.Expr} {x0 x1 : Str} {p0 p1 : Pos} {scope : Scope} {pos : Pos} {it acc : Value} {R : Result → Shared → Prop}
theorem turn2_1 (it acc : Value) (env : Env) : compTurn (.ListComp elt [⟨.Name x0 p0, i0, [], 0⟩, ⟨.Name x1 p1, i1, [], 0⟩] scope pos) 1 it acc env = (standAt i1.pos >>= fun _ => pyNext it >>= fun r => match r with
    | none => pure (.done .next)
    | some v => letOwnedTupleGo (.Name x1 p1) it v >>= fun _ => assign (.Name x1 p1) env v >>= fun _ =>
      (eval elt env >>= fun x => call (.builtin "list.append") [acc, x] >>= fun _ => pure ()) >>= fun _ =>
        again (.compLoop (.ListComp elt [⟨.Name x0 p0, i0, [], 0⟩, ⟨.Name x1 p1, i1, [], 0⟩] scope pos) 1 it acc env)) := by rfl
theorem turn2_0 (it acc : Value) (env : Env) : compTurn (.ListComp elt [⟨.Name x0 p0, i0, [], 0⟩, ⟨.Name x1 p1, i1, [], 0⟩] scope pos) 0 it acc env = (standAt i0.pos >>= fun _ => pyNext it >>= fun r => match r with
    | none => pure (.done .next)
    | some v => letOwnedTupleGo (.Name x0 p0) it v >>= fun _ => assign (.Name x0 p0) env v >>= fun _ =>
      eval i1 env >>= fun x => standAt i1.pos >>= fun _ => foldedSetIterable i1 env x >>= fun x => holding [x] (pyIter x) >>= fun it1 => runOwn (.compStart (.ListComp elt [⟨.Name x0 p0, i0, [], 0⟩, ⟨.Name x1 p1, i1, [], 0⟩] scope pos) 1 it1 acc env) env >>= fun _ =>
        again (.compLoop (.ListComp elt [⟨.Name x0 p0, i0, [], 0⟩, ⟨.Name x1 p1, i1, [], 0⟩] scope pos) 0 it acc env)) := by rfl
abbrev two (elt : PySem.Expr) (x0 : Str) (p0 : Pos) (i0 : PySem.Expr) (x1 : Str) (p1 : Pos) (i1 : PySem.Expr) (scope : Scope) (pos : Pos) : PySem.Expr := .ListComp elt [⟨.Name x0 p0, i0, [], 0⟩, ⟨.Name x1 p1, i1, [], 0⟩] scope pos
theorem loop2_in (I : Nat → Shared → Prop)
    (turn : ∀ n s, I n s → wpAny (model prog w) A (pyNext it) (fun r s₁ => match r with
      | none => R (.ok .next) s₁
      | some v => wpAny (model prog w) A (assign (.Name x1 p1) env v) (fun _ s₂ => wpAny (model prog w) A (eval elt env) (fun x s₄ =>
          wpAny (model prog w) A (call (.builtin "list.append") [acc, x]) (fun _ s₅ => ∃ m, m < n ∧ I m s₅) noE s₄) noE s₂) noE s₁) noE s)
    (n : Nat) (h : I n s) : codeAny (model prog w) A (.compLoop (two elt x0 p0 i0 x1 p1 i1 scope pos) 1 it acc env) R s := by
  refine codeAny_loop rfl I (fun n s hI => ?_) n h
  show wpAny _ A ((compTurn (two elt x0 p0 i0 x1 p1 i1 scope pos) 1 it acc env).onRaise (fun x => do noteFrame x env; theTreesLotGoes x)) _ _ s
  refine wpAny_noted ?_
  rw [turn2_1]
  refine wpAny_bind (wpAny_standAt (wpAny_bind (wpAny_mono (turn n s hI) (fun r s₁ h₁ => ?_) fun _ _ h' => h'.elim)))
  cases r with
  | none => exact wpAny_pure h₁
  | some v =>
    refine wpAny_bind (wpAny_of_eq (show letOwnedTupleGo (.Name x1 p1) it v = pure () from rfl) ?_)
    refine wpAny_bind (wpAny_mono h₁ (fun _ s₂ h₂ => ?_) fun _ _ h' => h'.elim)
    exact wpAny_bind (wpAny_bind (wpAny_mono h₂ (fun x s₄ h₄ => wpAny_bind (wpAny_mono h₄ (fun _ s₅ h₅ => wpAny_pure (wpAny_pure ⟨rfl, h₅⟩)) fun _ _ h' => h'.elim)) fun _ _ h' => h'.elim))
theorem start2_in (h0 : codeAny (model prog w) A (.compLoop (two elt x0 p0 i0 x1 p1 i1 scope pos) 1 it acc env) R s)
    (h : wpAny (model prog w) A (pyIter it) (fun it' s' => codeAny (model prog w) A (.compLoop (two elt x0 p0 i0 x1 p1 i1 scope pos) 1 it' acc env) R s') noE s) :
    codeAny (model prog w) A (.compStart (two elt x0 p0 i0 x1 p1 i1 scope pos) 1 it acc env) R s := by
  refine codeAny_of_tree ?_
  show wpAny _ _ ((compStart (two elt x0 p0 i0 x1 p1 i1 scope pos) 1 it acc env).onRaise (fun x => do noteFrame x env; standAt theWindowsPlace)) _ _ s
  refine wpAny_notedAt ?_
  unfold compStart
  show wpAny _ _ (ask >>= _) _ _ s
  refine wpAny_bind (wpAny_askSetting (wpAny_ite ?_))
  split
  · first
      | exact wpAny_bind (wpAny_pure (wpAny_pure (And.intro rfl h0)))
      | exact wpAny_pure (And.intro rfl h0)
  · first
      | exact wpAny_bind (wpAny_rule (wpAny_bind (wpAny_standAt (wpAny_bind (wpAny_mono h (fun it' s' h' => wpAny_pure (And.intro rfl h')) fun _ _ x => x.elim)))))
      | (refine wpAny_bind (wpAny_rule ?_); show wpAny _ _ (standAt i1.pos >>= _) _ _ s; exact wpAny_bind (wpAny_standAt (wpAny_bind (wpAny_mono h (fun it' s' h' => wpAny_pure (And.intro rfl h')) fun _ _ x => x.elim))))
theorem loop2_out (I : Nat → Shared → Prop) (hs : ∀ x, foldedSetIterable i1 env x = pure x)
    (turn : ∀ n s, I n s → wpAny (model prog w) A (pyNext it) (fun r s₁ => match r with
      | none => R (.ok .next) s₁
      | some v => wpAny (model prog w) A (assign (.Name x0 p0) env v) (fun _ s₂ => wpAny (model prog w) A (eval i1 env) (fun x s₃ => wpAny (model prog w) A (pyIter x) (fun it1 s₄ =>
          codeAny (model prog w) A (.compStart (two elt x0 p0 i0 x1 p1 i1 scope pos) 1 it1 acc env) (fun r s' => r = .ok .next ∧ ∃ m, m < n ∧ I m s') s₄) noE s₃) noE s₂) noE s₁) noE s)
    (n : Nat) (h : I n s) : codeAny (model prog w) A (.compLoop (two elt x0 p0 i0 x1 p1 i1 scope pos) 0 it acc env) R s := by
  refine codeAny_loop rfl I (fun n s hI => ?_) n h
  show wpAny _ A ((compTurn (two elt x0 p0 i0 x1 p1 i1 scope pos) 0 it acc env).onRaise (fun x => do noteFrame x env; theTreesLotGoes x)) _ _ s
  refine wpAny_noted ?_
  rw [turn2_0]
  refine wpAny_bind (wpAny_standAt (wpAny_bind (wpAny_mono (turn n s hI) (fun r s₁ h₁ => ?_) fun _ _ h' => h'.elim)))
  cases r with
  | none => exact wpAny_pure h₁
  | some v =>
    refine wpAny_bind (wpAny_of_eq (show letOwnedTupleGo (.Name x0 p0) it v = pure () from rfl) ?_)
    refine wpAny_bind (wpAny_mono h₁ (fun _ s₂ h₂ => ?_) fun _ _ h' => h'.elim)
    refine wpAny_bind (wpAny_mono h₂ (fun x s₃ h₃ => ?_) fun _ _ h' => h'.elim)
    refine wpAny_bind (wpAny_standAt (wpAny_bind (wpAny_of_eq (hs x) (wpAny_bind (wpAny_holding (wpAny_mono h₃ (fun it1 s₄ h₄ => ?_) fun _ _ h' => h'.elim))))))
    refine wpAny_bind (wpAny_runOwn (codeAny_mono h₄ fun r s' hr => ?_))
    obtain ⟨rfl, hr⟩ := hr
    exact wpAny_pure ⟨rfl, hr⟩
end
/-- what the inner source's walk hands on: a range -/
def RangePost (h₀ : Heap) (L : Addr) (m : Str → Option Value) (G : Shared → Prop) (all : List (Addr × Obj)) (q : Nat) (x : Value) (s' : Shared) : Prop := ∃ r t u v, x = .ref r ∧ IsRange s'.heap r 0 (q : Int) 1 t u v ∧ G s' ∧ Fr h₀ L s'.heap m ∧ News h₀ L s'.heap all
section
variable {prog : Program} {w : World} {A : Around} {E : Value → Shared → Prop} {s : Shared} {env : Env} {elt i0 i1 : PySem.Expr} {x0 x1 : Str} {p0 p1 : Pos} {scope : Scope} {pos : Pos} {cl : List (Str × Addr)} {h₀ : Heap} {L : Addr} {m : Str → Option Value} {news : List (Addr × Obj)} {Ps Pd : Nat → Value → Prop} {G : Shared → Prop}
theorem inner_of {R : Result → Shared → Prop} {I C D : Addr} {oI : Obj} {q kk : Nat} {v : Value} {pre : List Nat} (hG0 : ∀ s h tk, G s → G { s with heap := h, toks := tk }) (hh : A.handled = none) (hkind : scope.kind = .function) (hx1 : scope.names.lookup x1 = some .local) (hxx : x0 ≠ x1) (hq : q ≤ 100) (hpre : pre.length ≤ 1000)
    (hsm : Builtin.Range.small 0 (q : Int) 1 = true) (hrs : Builtin.Range.rangeSize 0 (q : Int) 1 = (q : Int))
    (hIC : (@Ne Nat I C)) (hDC : (@Ne Nat D C)) (hID : (@Ne Nat I D)) (hCL : C ≠ L) (hC₀ : h₀.get? C = none) (hDL : D ≠ L) (hD₀ : h₀.get? D = none) (offC : ∀ p ∈ news, p.1 ≠ C ∧ p.1 ≠ D)
    (step : ∀ I1 oI1 oC ys m₂ s₁, NsObj oC m₂ → m₂ x0 = some v → G s₁ → Fr h₀ L s₁.heap m → News h₀ L s₁.heap ((I1, oI1) :: (I, oI) :: (C, oC) :: (D, lst ys) :: news) →
      wpAny (model prog w) A (eval elt (compEnvC scope cl C env)) (EndG h₀ L m G ((I1, oI1) :: (I, oI) :: (C, oC) :: (D, lst ys) :: news) (Pd kk)) noE s₁)
    {r : Addr} {ta tb tc : Tok} {ys : List Value} {m₀ : Str → Option Value} {s₁ : Shared} (hr : IsRange s₁.heap r 0 (q : Int) 1 ta tb tc) (hG : G s₁) (F : Fr h₀ L s₁.heap m) (hn : s₁.heap.Ns C m₀) (hv : m₀ x0 = some v) (N : News h₀ L s₁.heap ((I, oI) :: (D, lst ys) :: news)) (hy : AllAt Pd ys pre)
    (fin : ∀ ys' m' s', AllAt Pd ys' (pre ++ List.replicate q kk) → G s' → Fr h₀ L s'.heap m → s'.heap.Ns C m' → News h₀ L s'.heap ((I, oI) :: (D, lst ys') :: news) → R (.ok .next) s') :
    wpAny (model prog w) A (pyIter (.ref r)) (fun it1 s₄ => codeAny (model prog w) A (.compStart (two elt x0 p0 i0 x1 p1 i1 scope pos) 1 it1 (.ref D) (compEnvC scope cl C env)) R s₄) noE s₁ := by
  have W := range_walks (prog := prog) (w := w) (A := A) (I := s₁.heap.objs.size) hh 0 q
  refine wpAny_pyIter_range hr hsm ?_
  rw [hrs]
  have hIt : IsRangeIter (s₁.heap.push { cls := .type "range_iterator", data := .fields #[rawInt 0, rawInt (q : Int), rawInt 1] }) s₁.heap.objs.size 0 (q : Int) 1 := Heap.get?_push_size _ rfl
  have up : ∀ b o, s₁.heap.get? b = some o → (s₁.heap.push { cls := .type "range_iterator", data := .fields #[rawInt 0, rawInt (q : Int), rawInt 1] }).get? b = some o := fun b o e => Heap.get?_push_of_some _ e
  generalize s₁.heap.push { cls := .type "range_iterator", data := .fields #[rawInt 0, rawInt (q : Int), rawInt 1] } = H1 at hIt up ⊢
  have hI₀ : h₀.get? s₁.heap.objs.size = none := next_is_new F
  have hLI : L ≠ s₁.heap.objs.size := Nat.ne_of_lt F.ns.lt
  have offI : ∀ p ∈ (I, oI) :: (D, lst ys) :: news, p.1 ≠ s₁.heap.objs.size := fun p hp => Nat.ne_of_lt (Heap.lt_size (N p hp).1)
  have hCI : C ≠ s₁.heap.objs.size := Nat.ne_of_lt hn.lt
  have hst0 : IsRangeIter H1 s₁.heap.objs.size (0 + ((0 : Nat) : Int) * 1) ((q : Int) - ((0 : Nat) : Int)) 1 := by simpa using hIt
  have loop : ∀ s₃ : Shared, s₃ = { s₁ with heap := H1 } → codeAny (model prog w) A (.compLoop (two elt x0 p0 i0 x1 p1 i1 scope pos) 1 (.ref s₁.heap.objs.size) (.ref D) (compEnvC scope cl C env)) R s₃ := by
    rintro s₃ rfl
    refine loop2_in (fun k s' => ∃ j zs m', IsRangeIter s'.heap s₁.heap.objs.size (0 + (j : Nat) * 1) ((q : Int) - (j : Nat)) 1 ∧ AllAt Pd zs (pre ++ List.replicate j kk) ∧ G s' ∧ Fr h₀ L s'.heap m ∧ s'.heap.Ns C m' ∧ m' x0 = some v ∧ News h₀ L s'.heap ((I, oI) :: (D, lst zs) :: news) ∧ j ≤ q ∧ k = q + 1 - j) ?_ (q + 1)
      ⟨0, ys, m₀, hst0, by simpa using hy, hG0 s₁ H1 s₁.toks hG, F.keeps up, hn.keeps up, hv, N.grown up, Nat.zero_le _, rfl⟩
    rintro k s' ⟨j, zs, m', hst, hJ, hG', F', hn', hv', N', hj, rfl⟩
    have offI' : ∀ p ∈ (I, oI) :: (D, lst zs) :: news, p.1 ≠ s₁.heap.objs.size := fun p hp => by
      rcases List.mem_cons.mp hp with rfl | hp
      · exact offI _ (.head _)
      rcases List.mem_cons.mp hp with rfl | hp
      · exact offI (D, lst ys) (.tail _ (.head _))
      · exact offI _ (.tail _ (.tail _ hp))
    by_cases hlt : j < q
    · refine W.item j _ _ _ hlt hst fun v1 h₂ tk₂ hPv hst₂ hk₂ => ?_
      refine wpAny_assign_Name (wpAny_storeName_local (lookup_relabel_local hx1) (hn'.at' fun o e => hk₂ _ o (by simpa using hCI) e) (fun h₃ hn₃ hs₃ => ?_) (by simp [compEnvC, relabel, hkind]))
      obtain ⟨oC, heC, hoC⟩ := ns_obj hn₃
      have hst₃ : IsRangeIter h₃ s₁.heap.objs.size (0 + ((j + 1 : Nat) : Int) * 1) ((q : Int) - ((j + 1 : Nat) : Int)) 1 := hs₃.extBut _ _ (Ne.symm hCI) hst₂
      have F₃ : Fr h₀ L h₃ m := (fr_but F' hk₂ hLI hI₀).change hs₃ hCL hC₀
      have N₂ := news_but N' hk₂ offI'
      have N₃ : News h₀ L h₃ ((s₁.heap.objs.size, _) :: (I, oI) :: (C, oC) :: (D, lst zs) :: news) := fun p hp => by
        rcases List.mem_cons.mp hp with rfl | hp
        · exact ⟨hst₃, Ne.symm hLI, hI₀⟩
        rcases List.mem_cons.mp hp with rfl | hp
        · have z := N₂ _ (.head _)
          exact ⟨hs₃.extBut _ _ hIC z.1, z.2⟩
        rcases List.mem_cons.mp hp with rfl | hp
        · exact ⟨heC, hCL, hC₀⟩
        · have z := N₂ _ (.tail _ hp)
          refine ⟨hs₃.extBut _ _ ?_ z.1, z.2⟩
          rcases List.mem_cons.mp hp with rfl | hp
          · exact hDC
          · exact (offC p hp).1
      refine wpAny_mono (step _ _ oC zs _ { s' with heap := h₃, toks := tk₂ + 1 } hoC (by simp [hxx, hv']) (hG0 s' h₃ (tk₂ + 1) hG') F₃ N₃) (fun y s₄ h₄ => ?_) fun _ _ e => e
      obtain ⟨G₄, F₄, N₄, hd⟩ := h₄
      have zI1 := (N₄ _ (.head _)).1
      have zI := (N₄ _ (.tail _ (.head _)))
      have zC := (N₄ _ (.tail _ (.tail _ (.head _)))).1
      have zD := (N₄ _ (.tail _ (.tail _ (.tail _ (.head _))))).1
      have hzl : zs.length ≤ 1100 := by rw [hJ.length, List.length_append, List.length_replicate]; omega
      refine append_at (hsz := by show zs.toArray.size ≤ sizeLine; rw [List.size_toArray, sizeLine_eq]; omega) zD fun h₅ hs₅ hD₅ => ?_
      refine ⟨q + 1 - (j + 1), by omega, j + 1, zs ++ [y], _, hs₅.extBut _ _ (Ne.symm (offI' (D, lst zs) (.tail _ (.head _)))) zI1, ?_, hG0 s₄ h₅ _ G₄, F₄.change hs₅ hDL hD₀, (hoC.ns zC).sameBut hs₅ (Ne.symm hDC), by simp [hxx, hv'], fun p hp => ?_, hlt, rfl⟩
      · rw [List.replicate_succ', ← List.append_assoc]
        exact .snoc hJ hd
      · rcases List.mem_cons.mp hp with rfl | hp
        · exact ⟨hs₅.extBut _ _ hID zI.1, zI.2⟩
        rcases List.mem_cons.mp hp with rfl | hp
        · exact ⟨hD₅.trans (congrArg some (lst_snoc zs y)), hDL, hD₀⟩
        · have z := N₄ p (.tail _ (.tail _ (.tail _ (.tail _ hp))))
          exact ⟨hs₅.extBut _ _ (offC p hp).2 z.1, z.2⟩
    · obtain rfl : j = q := Nat.le_antisymm hj (Nat.not_lt.mp hlt)
      refine W.done _ _ _ hst fun h₂ tk₂ hk₂ => ?_
      exact fin zs m' { s' with heap := h₂, toks := tk₂ } hJ (hG0 s' h₂ tk₂ hG') (fr_but F' hk₂ hLI hI₀) (hn'.at' fun o e => hk₂ _ o (by simpa using hCI) e) (news_but N' hk₂ offI')
  exact start2_in (loop _ rfl) (W.self 0 _ _ _ hst0 (loop _ rfl))
end
section
/-- a source of a comprehension of two clauses, and what is known of its walk -/
def Src2 (prog : Program) (w : World) (A : Around) (h₀ : Heap) (L : Addr) (m : Str → Option Value) (env : Env) (elt i1 : PySem.Expr) (x0 : Str) (scope : Scope) (cl : List (Str × Addr)) (G : Shared → Prop) (Ps Pd : Nat → Value → Prop) (is : List Nat) (q : Nat) (R : Value → Shared → Prop) (xv : Value) (s₁ : Shared) : Prop :=
  ∃ (ax : Addr) (its : List Value) (c : Nat) (news : List (Addr × Obj)), xv = .ref ax ∧ G s₁ ∧ Fr h₀ L s₁.heap m ∧ News h₀ L s₁.heap news ∧ (ax, listOf its.toArray c) ∈ news ∧ AllAt Ps its is ∧ its.length ≤ 9 ∧
    (∀ k v I oI C oC D ys m₂ s₁, k ∈ is → Ps k v → NsObj oC m₂ → m₂ x0 = some v → G s₁ → Fr h₀ L s₁.heap m → News h₀ L s₁.heap ((I, oI) :: (C, oC) :: (D, lst ys) :: news) →
      wpAny (model prog w) A (eval i1 (compEnvC scope cl C env)) (RangePost h₀ L m G ((I, oI) :: (C, oC) :: (D, lst ys) :: news) q) noE s₁) ∧
    (∀ k v I1 oI1 I oI C oC D ys m₂ s₁, k ∈ is → Ps k v → NsObj oC m₂ → m₂ x0 = some v → G s₁ → Fr h₀ L s₁.heap m → News h₀ L s₁.heap ((I1, oI1) :: (I, oI) :: (C, oC) :: (D, lst ys) :: news) →
      wpAny (model prog w) A (eval elt (compEnvC scope cl C env)) (EndG h₀ L m G ((I1, oI1) :: (I, oI) :: (C, oC) :: (D, lst ys) :: news) (Pd k)) noE s₁) ∧
    (∀ D ys s', AllAt Pd ys (is.flatMap fun k => List.replicate q k) → G s' → Fr h₀ L s'.heap m → News h₀ L s'.heap ((D, lst ys) :: news) → R (.ref D) s')
theorem comp2_of {is : List Nat} {q : Nat} {R : Value → Shared → Prop} (hG0 : ∀ s h tk, G s → G { s with heap := h, toks := tk })
    (hh : A.handled = none) (hq : q ≤ 100) (hsm : Builtin.Range.small 0 (q : Int) 1 = true) (hrs : Builtin.Range.rangeSize 0 (q : Int) 1 = (q : Int))
    (hclos : closureFor scope env = pure cl) (hcell : ∀ y ∈ scope.names, y.2 ≠ .cell) (hkind : scope.kind = .function)
    (hnames : ∀ y ∈ scope.names, y.2 = .local → scope.names.lookup y.1 = some .local) (hx : scope.names.lookup x0 = some .local) (hx1 : scope.names.lookup x1 = some .local) (hxx : x0 ≠ x1)
    (h : wpAny (model prog w) A (eval i0 env) (Src2 prog w A h₀ L m env elt i1 x0 scope cl G Ps Pd is q R) noE s)
    (hs : ∀ x, foldedSetIterable i0 env x = pure x := by intro _; rfl) (hs1 : ∀ C x, foldedSetIterable i1 (compEnvC scope cl C env) x = pure x := by intro _ _; rfl) :
    wpAny (model prog w) A (eval (two elt x0 p0 i0 x1 p1 i1 scope pos) env) R E s := by
  refine wpAny_mono (E := noE) ?_ (fun _ _ q => q) fun _ _ e => e.elim
  rw [eval_ListComp]
  refine wpAny_comprehension_free (use := none) rfl hs hclos hkind hnames (wpAny_mono h (fun xv s₁ h₁ => ?_) fun _ _ e => e)
  obtain ⟨ax, its, c, news, rfl, hG, F, N, hm, hall, hn, iter1, step, fin⟩ := h₁
  have hl := N.isList hm
  obtain ⟨ol, hol, hol'⟩ := id hl
  have hlt : ax < s₁.heap.objs.size := Heap.lt_size hol
  have hlen := hall.length
  refine wpAny_pyIter_list hl ?_
  have up : ∀ b o, s₁.heap.get? b = some o → (s₁.heap.push { cls := .type "list_iterator", data := .fields #[.ref ax, .int 0 0] }).get? b = some o := fun b o e => Heap.get?_push_of_some _ e
  have hItAt : (s₁.heap.push { cls := .type "list_iterator", data := .fields #[.ref ax, .int 0 0] }).get? s₁.heap.objs.size = some { cls := .type "list_iterator", data := .fields #[.ref ax, .int 0 0] } := Heap.get?_push_size _ rfl
  have hPsz : (s₁.heap.push { cls := .type "list_iterator", data := .fields #[.ref ax, .int 0 0] }).objs.size = s₁.heap.objs.size + 1 := Heap.size_push ..
  generalize s₁.heap.push { cls := .type "list_iterator", data := .fields #[.ref ax, .int 0 0] } = H1 at up hItAt hPsz ⊢
  have W := Walks.list (prog := prog) (w := w) hh s₁.heap.objs.size ax (Nat.ne_of_lt hlt) its.toArray
  have hI₀ : h₀.get? s₁.heap.objs.size = none := next_is_new F
  have hLI : L ≠ s₁.heap.objs.size := Nat.ne_of_lt F.ns.lt
  have F1 : Fr h₀ L H1 m := F.keeps up
  have N1 : News h₀ L H1 news := N.grown up
  refine wpAny_newObj_type (wpAny_newFunctionEnv hcell (by intro y hy; simp at hy) (fun h₁ hns₁ hsb₁ => ?_) hkind)
  dsimp only at hns₁ hsb₁ ⊢
  have hDat : (H1.push { cls := .type "list", dict := none, data := .seq ([] : List Value).toArray }).get? H1.objs.size = some (lst []) := Heap.get?_push_size _ rfl
  have up2 : ∀ b o, H1.get? b = some o → (H1.push { cls := .type "list", dict := none, data := .seq ([] : List Value).toArray }).get? b = some o := fun b o e => Heap.get?_push_of_some _ e
  have hC : (H1.push { cls := .type "list", dict := none, data := .seq ([] : List Value).toArray }).objs.size = H1.objs.size + 1 := Heap.size_push ..
  generalize H1.push { cls := .type "list", dict := none, data := .seq ([] : List Value).toArray } = H2 at hns₁ hsb₁ hDat up2 hC ⊢
  have below : ∀ b, b < H1.objs.size → b ≠ H2.objs.size ∧ b ≠ H1.objs.size := fun b hb => ⟨by rw [hC]; exact Nat.ne_of_lt (Nat.lt_succ_of_lt hb), Nat.ne_of_lt hb⟩
  have old : ∀ b o, H1.get? b = some o → h₁.get? b = some o := fun b o e => hsb₁.extBut b o (below b (Heap.lt_size e)).1 (Heap.get?_push_of_some _ (up2 b o e))
  have hDC : H1.objs.size ≠ H2.objs.size := by rw [hC]; exact Nat.ne_of_lt (Nat.lt_succ_self _)
  have hacc : h₁.get? H1.objs.size = some (lst []) := hsb₁.extBut _ _ hDC (Heap.get?_push_of_some _ hDat)
  have hIlt : s₁.heap.objs.size < H1.objs.size := by rw [hPsz]; exact Nat.lt_succ_self _
  have offI : ∀ p ∈ news, p.1 ≠ s₁.heap.objs.size := fun p hp => Nat.ne_of_lt (Heap.lt_size (N p hp).1)
  have off3 : ∀ p ∈ news, p.1 ≠ H2.objs.size ∧ p.1 ≠ H1.objs.size ∧ p.1 ≠ s₁.heap.objs.size := fun p hp => ⟨(below _ (Heap.lt_size (N1 p hp).1)).1, (below _ (Heap.lt_size (N1 p hp).1)).2, offI p hp⟩
  have fresh₀ : ∀ a : Nat, H1.objs.size ≤ a → h₀.get? a = none := fun a ha => by
    cases e : h₀.get? a with
    | none => rfl
    | some o' => exact absurd (Heap.lt_size (F1.keep a o' e)) (Nat.not_lt.mpr ha)
  have hD₀ : h₀.get? H1.objs.size = none := fresh₀ _ (Nat.le_refl _)
  have hC₀ : h₀.get? H2.objs.size = none := fresh₀ _ (by rw [hC]; exact Nat.le_succ _)
  have hLlt : L < H1.objs.size := F1.ns.lt
  have hDL : H1.objs.size ≠ L := Ne.symm (below L hLlt).2
  have hCL : H2.objs.size ≠ L := Ne.symm (below L hLlt).1
  have hCI : s₁.heap.objs.size ≠ H2.objs.size := (below _ hIlt).1
  have hDI : s₁.heap.objs.size ≠ H1.objs.size := (below _ hIlt).2
  have loop : ∀ s₃ : Shared, s₃ = { s₁ with heap := h₁, toks := s₁.toks + ([] : List (Str × Value)).length } →
      codeAny (model prog w) A (.compLoop (two elt x0 p0 i0 x1 p1 i1 scope pos) 0 (.ref s₁.heap.objs.size) (.ref H1.objs.size) (compEnvC scope cl H2.objs.size env))
        (compPost (model prog w) A noE none R (.ref H1.objs.size) H2.objs.size) s₃ := by
    rintro s₃ rfl
    refine loop2_out
      (fun k s' => ∃ i ys m', s'.heap.IsListIter s₁.heap.objs.size ax i ∧ AllAt Pd ys ((is.take i).flatMap fun k => List.replicate q k) ∧ G s' ∧ Fr h₀ L s'.heap m ∧ s'.heap.Ns H2.objs.size m' ∧ News h₀ L s'.heap ((H1.objs.size, lst ys) :: news) ∧ i ≤ its.length ∧ k = its.length + 1 - i) (hs1 _) ?_ (its.length + 1)
      ⟨0, [], _, ⟨_, old _ _ hItAt, rfl, rfl⟩, by rw [List.take_zero]; exact .nil, hG0 s₁ _ _ hG, F1.keeps old, hns₁, fun p hp => ?_, Nat.zero_le _, rfl⟩
    · rintro k s' ⟨i, ys, m', hit, hJ, hG', hF', hn', N', hi, rfl⟩
      have hst : s'.heap.IsListIter s₁.heap.objs.size ax i ∧ s'.heap.IsList ax its.toArray := ⟨hit, N'.isList (.tail _ hm)⟩
      by_cases hlt' : i < its.length
      · refine W.item i _ _ _ (by simpa using hlt') hst fun v h₂ tk₂ hPv hst₂ hk₂ => ?_
        refine wpAny_assign_Name (wpAny_storeName_local (lookup_relabel_local hx) (hn'.at' fun o e => hk₂ _ o (by simpa using Ne.symm hCI) e) (fun h₃ hn₃ hs₃ => ?_) (by simp [compEnvC, relabel, hkind]))
        obtain ⟨kk, hkk, hp⟩ := hall.get (by simpa using hPv)
        obtain ⟨oI, heI, hoI⟩ := hst₂.1
        have heI3 : h₃.get? s₁.heap.objs.size = some oI := hs₃.extBut _ _ hCI heI
        obtain ⟨oC, heC, hoC⟩ := ns_obj hn₃
        have F₃ : Fr h₀ L h₃ m := (fr_but hF' hk₂ hLI hI₀).change hs₃ hCL hC₀
        have N₂ : News h₀ L h₂ ((H1.objs.size, lst ys) :: news) := news_but N' hk₂ fun p hp => by
          rcases List.mem_cons.mp hp with rfl | hp
          · exact Ne.symm hDI
          · exact offI p hp
        have N₃ : News h₀ L h₃ ((s₁.heap.objs.size, oI) :: (H2.objs.size, oC) :: (H1.objs.size, lst ys) :: news) := fun p hp => by
          rcases List.mem_cons.mp hp with rfl | hp
          · exact ⟨heI3, Ne.symm hLI, hI₀⟩
          rcases List.mem_cons.mp hp with rfl | hp
          · exact ⟨heC, hCL, hC₀⟩
          · have z := N₂ p hp
            refine ⟨hs₃.extBut _ _ ?_ z.1, z.2⟩
            rcases List.mem_cons.mp hp with rfl | hp
            · exact hDC
            · exact (off3 p hp).1
        have hkis := List.mem_of_getElem? hkk
        have hyl : ((is.take i).flatMap fun k => List.replicate q k).length ≤ 1000 := by
          have hb : ∀ l : List Nat, (l.flatMap fun k => List.replicate q k).length = l.length * q := by
            intro l
            induction l with
            | nil => simp
            | cons a l ih => rw [List.flatMap_cons, List.length_append, ih, List.length_replicate, List.length_cons, Nat.succ_mul, Nat.add_comm]
          rw [hb, List.length_take]
          have h1 : min i is.length ≤ 9 := by omega
          exact Nat.le_trans (Nat.mul_le_mul h1 hq) (by decide)
        refine wpAny_mono (iter1 kk v _ oI _ oC _ ys _ { s' with heap := h₃, toks := tk₂ + 1 } hkis hp hoC (by simp) (hG0 s' h₃ (tk₂ + 1) hG') F₃ N₃) (fun x s₄ h₄ => ?_) fun _ _ e => e
        obtain ⟨r, ta, tb, tc, rfl, hr, G₄, F₄, N₄⟩ := h₄
        refine inner_of (v := v) (kk := kk) hG0 hh hkind hx1 hxx hq hyl hsm hrs hCI hDC hDI hCL hC₀ hDL hD₀ (fun p hp => ⟨(off3 p hp).1, (off3 p hp).2.1⟩)
          (fun I1 oI1 oC' ys' m₃ s₅ a b c' d e => step kk v I1 oI1 _ oI _ oC' _ ys' m₃ s₅ hkis hp a b c' d e) hr G₄ F₄ (hoC.ns (N₄ _ (.tail _ (.head _))).1) (by simp) (fun p hp => N₄ p (by
            rcases List.mem_cons.mp hp with rfl | hp
            · exact .head _
            · exact .tail _ (.tail _ hp))) hJ ?_
        intro ys' m'' s₆ hJ₆ G₆ F₆ hn₆ N₆
        refine ⟨rfl, its.length + 1 - (i + 1), by omega, i + 1, ys', m'', ⟨oI, (N₆ _ (.head _)).1, hoI⟩, ?_, G₆, F₆, hn₆, fun p hp => N₆ p (.tail _ hp), hlt', rfl⟩
        rw [take_snoc hkk, List.flatMap_append]
        simpa using hJ₆
      · obtain rfl : i = its.length := Nat.le_antisymm hi (Nat.not_lt.mp hlt')
        refine W.done _ _ _ (by simpa using hst) fun h₂ tk₂ hk₂ => ?_
        refine ⟨m', hn'.at' fun o e => hk₂ _ o (by simpa using Ne.symm hCI) e, fun h'' hs'' => ?_⟩
        have F₂ := fr_but hF' hk₂ hLI hI₀
        have N₂ : News h₀ L h₂ ((H1.objs.size, lst ys) :: news) := news_but N' hk₂ fun p hp => by
          rcases List.mem_cons.mp hp with rfl | hp
          · exact Ne.symm hDI
          · exact offI p hp
        refine fin H1.objs.size ys { s' with heap := h'', toks := tk₂ } (by rwa [List.take_of_length_le (by omega)] at hJ) (hG0 s' h'' tk₂ hG') (F₂.change hs'' hCL hC₀) fun p hp => ?_
        have z := N₂ p hp
        refine ⟨hs''.extBut _ _ ?_ z.1, z.2⟩
        rcases List.mem_cons.mp hp with rfl | hp
        · exact hDC
        · exact (off3 p hp).1
    · rcases List.mem_cons.mp hp with rfl | hp
      · exact ⟨hacc, hDL, hD₀⟩
      · have z := N1 p hp
        exact ⟨old _ _ z.1, z.2⟩
  exact codeAny_compStart_list (loop _ rfl) (W.self 0 _ _ _ ⟨⟨_, old _ _ hItAt, rfl, rfl⟩, (N1.isList hm).at fun o e => old _ _ e⟩ (loop _ rfl))
theorem AllAt.unmap {P : Nat → Value → Prop} {f : Nat → Nat} {vs : List Value} {js : List Nat} (h : AllAt P vs js) : ∀ is : List Nat, js = is.map f → AllAt (fun k v => P (f k) v) vs is := by
  induction h with
  | nil =>
    intro is e
    have : is = [] := by simpa using e.symm
    subst this
    exact .nil
  | @snoc vs js k v _ hp ih =>
    intro is e
    obtain ⟨l1, l2, rfl, e1, e2⟩ := List.map_eq_append_iff.mp e.symm
    match l2, e2 with
    | [a], e2 =>
      simp only [List.map_cons, List.map_nil, List.cons.injEq, and_true] at e2
      subst e2
      exact .snoc (ih l1 e1.symm) hp
end
end Mine
end mTW
section mPR2
open PySem PySem.Spec PySem.Calls PySem.W PyProof.Rows PySem.SeqAt
open LCg
set_option maxRecDepth 100000
namespace Mine
section
variable {prog : Program} {w : World} {A : Around} {E : Value → Shared → Prop} {s : Shared} {env : Env} {h₀ : Heap} {iter : PySem.Expr} {pos : Pos} {L : Addr} {m : Str → Option Value} {news : List (Addr × Obj)}
theorem unpackE {elts : List PySem.Expr} {k : Nat} {l : Addr} {items : Array Value} {Q : Unit → Shared → Prop} (hh : A.handled = none) (hl : s.heap.IsList l items) (hn : (assignEach elts env).length = items.size)
    (hstar : (assignEach elts env).findIdx? (·.1) = none) (h : ∀ h', Heap.ExtBut s.heap.objs.size s.heap h' → wpAny (model prog w) A (assignInOrder ((assignEach elts env).map (·.2)) items.toList) Q E { s with heap := h' }) :
    wpAny (model prog w) A (assign (.Tuple elts k pos) env (.ref l)) Q E s := by
  rw [assign_Tuple]
  refine wpAny_bind (wpAny_standAt ?_)
  unfold unpack
  rw [hn, hstar]
  exact wpAny_bind (wpAny_holding (kun_itemsOf hh hl h))
theorem compPair_of {elt : PySem.Expr} {x x2 : Str} {px px2 tp : Pos} {tk} {scope : Scope} {cl : List (Str × Addr)} {ax : Addr} {its : List Value} {is : List Nat} {c : Nat} {Ps Pd : Nat → Value → Prop} {R : Value → Shared → Prop}
    (P : Addr) (G : Shared → Prop) (hGP : ∀ s, G s → ∃ o, s.heap.get? P = some o) (hG0 : ∀ s h tk, G s → h.get? P = s.heap.get? P → G { s with heap := h, toks := tk })
    (hh : A.handled = none) (hall : AllAt Ps its is) (hn : its.length ≤ 1000)
    (hclos : closureFor scope env = pure cl) (hcell : ∀ y ∈ scope.names, y.2 ≠ .cell) (hkind : scope.kind = .function)
    (hnames : ∀ y ∈ scope.names, y.2 = .local → scope.names.lookup y.1 = some .local) (hx : scope.names.lookup x = some .local) (hx2 : scope.names.lookup x2 = some .local) (hxx : x ≠ x2)
    (hpair : ∀ k v, k ∈ is → Ps k v → ∃ l v1 v2 cp, v = .ref l ∧ (l, listOf #[v1, v2] cp) ∈ news)
    (h : wpAny (model prog w) A (eval iter env) (SrcG h₀ L G (fun m₁ => m₁ = m) ax (listOf its.toArray c) news) noE s)
    (step : ∀ k l v1 v2 cp I oI C oC D ys m₂ s₁, k ∈ is → Ps k (.ref l) → (l, listOf #[v1, v2] cp) ∈ news → NsObj oC m₂ → m₂ x = some v1 → m₂ x2 = some v2 → G s₁ → Fr h₀ L s₁.heap m → News h₀ L s₁.heap ((I, oI) :: (C, oC) :: (D, lst ys) :: news) → (P ≠ I ∧ P ≠ C ∧ P ≠ D) → (∀ p ∈ news, p.1 ≠ C ∧ p.1 ≠ D ∧ p.1 ≠ I) →
      wpAny (model prog w) A (eval elt (compEnvC scope cl C env)) (EndG h₀ L m G ((I, oI) :: (C, oC) :: (D, lst ys) :: news) (Pd k)) noE s₁)
    (fin : ∀ D ys s', AllAt Pd ys is → G s' → Fr h₀ L s'.heap m → News h₀ L s'.heap ((D, lst ys) :: news) → R (.ref D) s')
    (hs : ∀ x, foldedSetIterable iter env x = pure x := by intro _; rfl) :
    wpAny (model prog w) A (eval (.ListComp elt [⟨.Tuple [.Name x px, .Name x2 px2] tk tp, iter, [], 0⟩] scope pos) env) R E s := by
  refine wpAny_mono (E := noE) ?_ (fun _ _ q => q) fun _ _ e => e.elim
  rw [eval_ListComp]
  refine wpAny_comprehension_free (use := none) rfl hs hclos hkind hnames (wpAny_mono h (fun xv s₁ h₁ => ?_) fun _ _ e => e)
  obtain ⟨rfl, m₁, hm₁, hG, F, N, hm⟩ := h₁
  rw [hm₁] at F
  have hl := N.isList hm
  obtain ⟨ol, hol, hol'⟩ := id hl
  have hlt : ax < s₁.heap.objs.size := Heap.lt_size hol
  have hlen := hall.length
  refine wpAny_pyIter_list hl ?_
  have up : ∀ b o, s₁.heap.get? b = some o → (s₁.heap.push { cls := .type "list_iterator", data := .fields #[.ref ax, .int 0 0] }).get? b = some o := fun b o e => Heap.get?_push_of_some _ e
  have hItAt : (s₁.heap.push { cls := .type "list_iterator", data := .fields #[.ref ax, .int 0 0] }).get? s₁.heap.objs.size = some { cls := .type "list_iterator", data := .fields #[.ref ax, .int 0 0] } := Heap.get?_push_size _ rfl
  have hPsz : (s₁.heap.push { cls := .type "list_iterator", data := .fields #[.ref ax, .int 0 0] }).objs.size = s₁.heap.objs.size + 1 := Heap.size_push ..
  generalize s₁.heap.push { cls := .type "list_iterator", data := .fields #[.ref ax, .int 0 0] } = H1 at up hItAt hPsz ⊢
  have W := Walks.list (prog := prog) (w := w) hh s₁.heap.objs.size ax (Nat.ne_of_lt hlt) its.toArray
  have hI₀ : h₀.get? s₁.heap.objs.size = none := next_is_new F
  have hLI : L ≠ s₁.heap.objs.size := Nat.ne_of_lt F.ns.lt
  have F1 : Fr h₀ L H1 m := F.keeps up
  have N1 : News h₀ L H1 news := N.grown up
  obtain ⟨oP, hoP⟩ := hGP _ hG
  have hPI : P < s₁.heap.objs.size := Heap.lt_size hoP
  refine wpAny_newObj_type (wpAny_newFunctionEnv hcell (by intro y hy; simp at hy) (fun h₁ hns₁ hsb₁ => ?_) hkind)
  dsimp only at hns₁ hsb₁ ⊢
  have hDat : (H1.push { cls := .type "list", dict := none, data := .seq ([] : List Value).toArray }).get? H1.objs.size = some (lst []) := Heap.get?_push_size _ rfl
  have up2 : ∀ b o, H1.get? b = some o → (H1.push { cls := .type "list", dict := none, data := .seq ([] : List Value).toArray }).get? b = some o := fun b o e => Heap.get?_push_of_some _ e
  have hC : (H1.push { cls := .type "list", dict := none, data := .seq ([] : List Value).toArray }).objs.size = H1.objs.size + 1 := Heap.size_push ..
  generalize H1.push { cls := .type "list", dict := none, data := .seq ([] : List Value).toArray } = H2 at hns₁ hsb₁ hDat up2 hC ⊢
  have below : ∀ b, b < H1.objs.size → b ≠ H2.objs.size ∧ b ≠ H1.objs.size := fun b hb => ⟨by rw [hC]; exact Nat.ne_of_lt (Nat.lt_succ_of_lt hb), Nat.ne_of_lt hb⟩
  have old : ∀ b o, H1.get? b = some o → h₁.get? b = some o := fun b o e => hsb₁.extBut b o (below b (Heap.lt_size e)).1 (Heap.get?_push_of_some _ (up2 b o e))
  have hDC : H1.objs.size ≠ H2.objs.size := by rw [hC]; exact Nat.ne_of_lt (Nat.lt_succ_self _)
  have hacc : h₁.get? H1.objs.size = some (lst []) := hsb₁.extBut _ _ hDC (Heap.get?_push_of_some _ hDat)
  have hIlt : s₁.heap.objs.size < H1.objs.size := by rw [hPsz]; exact Nat.lt_succ_self _
  have offI : ∀ p ∈ news, p.1 ≠ s₁.heap.objs.size := fun p hp => Nat.ne_of_lt (Heap.lt_size (N p hp).1)
  have off3 : ∀ p ∈ news, p.1 ≠ H2.objs.size ∧ p.1 ≠ H1.objs.size ∧ p.1 ≠ s₁.heap.objs.size := fun p hp => ⟨(below _ (Heap.lt_size (N1 p hp).1)).1, (below _ (Heap.lt_size (N1 p hp).1)).2, offI p hp⟩
  have hPH : P < H1.objs.size := Nat.lt_trans hPI hIlt
  have fresh₀ : ∀ a : Nat, H1.objs.size ≤ a → h₀.get? a = none := fun a ha => by
    cases e : h₀.get? a with
    | none => rfl
    | some o' => exact absurd (Heap.lt_size (F1.keep a o' e)) (Nat.not_lt.mpr ha)
  have hD₀ : h₀.get? H1.objs.size = none := fresh₀ _ (Nat.le_refl _)
  have hC₀ : h₀.get? H2.objs.size = none := fresh₀ _ (by rw [hC]; exact Nat.le_succ _)
  have hLlt : L < H1.objs.size := F1.ns.lt
  have hDL : H1.objs.size ≠ L := Ne.symm (below L hLlt).2
  have hCL : H2.objs.size ≠ L := Ne.symm (below L hLlt).1
  have hCI : s₁.heap.objs.size ≠ H2.objs.size := (below _ hIlt).1
  have hDI : s₁.heap.objs.size ≠ H1.objs.size := (below _ hIlt).2
  have hPC : P ≠ H2.objs.size := (below _ hPH).1
  have hPD : P ≠ H1.objs.size := (below _ hPH).2
  have gk : ∀ (s' : Shared) (h' : Heap) (tk : Nat), G s' → (∀ o, s'.heap.get? P = some o → h'.get? P = some o) → G { s' with heap := h', toks := tk } := fun s' h' tk g k => by
    obtain ⟨o, ho⟩ := hGP _ g
    exact hG0 s' h' tk g (by rw [ho]; exact k o ho)
  have loop : ∀ s₃ : Shared, s₃ = { s₁ with heap := h₁, toks := s₁.toks + ([] : List (Str × Value)).length } →
      codeAny (model prog w) A (.compLoop (.ListComp elt [⟨.Tuple [.Name x px, .Name x2 px2] tk tp, iter, [], 0⟩] scope pos) 0 (.ref s₁.heap.objs.size) (.ref H1.objs.size) (compEnvC scope cl H2.objs.size env))
        (compPost (model prog w) A noE none R (.ref H1.objs.size) H2.objs.size) s₃ := by
    rintro s₃ rfl
    refine LCp.codeAny_compLoop_pair
      (fun k s' => ∃ i ys m', s'.heap.IsListIter s₁.heap.objs.size ax i ∧ AllAt Pd ys (is.take i) ∧ ys.length = i ∧ G s' ∧ Fr h₀ L s'.heap m ∧ s'.heap.Ns H2.objs.size m' ∧ News h₀ L s'.heap ((H1.objs.size, lst ys) :: news) ∧ i ≤ its.length ∧ k = its.length + 1 - i) ?_ (its.length + 1)
      ⟨0, [], _, ⟨_, old _ _ hItAt, rfl, rfl⟩, by rw [List.take_zero]; exact .nil, rfl, gk s₁ _ _ hG (fun o e => old _ _ (up _ _ e)), F1.keeps old, hns₁, fun p hp => ?_, Nat.zero_le _, rfl⟩
    · rintro k s' ⟨i, ys, m', hit, hJ, hyl, hG', F', hn', N', hi, rfl⟩
      have hst : s'.heap.IsListIter s₁.heap.objs.size ax i ∧ s'.heap.IsList ax its.toArray := ⟨hit, N'.isList (.tail _ hm)⟩
      by_cases hlt' : i < its.length
      · refine W.item i _ _ _ (by simpa using hlt') hst fun v h₂ tk₂ hPv hst₂ hk₂ => ?_
        obtain ⟨kk, hkk, hp⟩ := hall.get (by simpa using hPv)
        obtain ⟨l, v1, v2, cp, rfl, hml⟩ := hpair kk v (List.mem_of_getElem? hkk) hp
        obtain ⟨oI, heI, hoI⟩ := hst₂.1
        have N₂ : News h₀ L h₂ ((H1.objs.size, lst ys) :: news) := news_but N' hk₂ fun p hp => by
          rcases List.mem_cons.mp hp with rfl | hp
          · exact Ne.symm hDI
          · exact offI p hp
        have hL₂ : h₂.IsList l #[v1, v2] := N₂.isList (.tail _ hml)
        refine letGo_listiter (target := .Tuple [.Name x px, .Name x2 px2] tk tp) (s' := { s' with heap := h₂, toks := tk₂ }) hst₂.1 ?_
        refine unpackE hh hL₂ rfl (by rfl) fun h₅ he => ?_
        have he' : ∀ b o, h₂.get? b = some o → h₅.get? b = some o := fun b o e => he b o (Nat.ne_of_lt (Heap.lt_size e)) e
        refine assignInOrder_cons (wpAny_assign_Name (wpAny_storeName_local (lookup_relabel_local hx) ((hn'.at' fun o e => hk₂ _ o (by simpa using Ne.symm hCI) e).at' fun o e => he' _ o e) (fun h₆ hn₆ hs₆ => ?_) (by simp [compEnvC, relabel, hkind])))
        refine assignInOrder_cons (wpAny_assign_Name (wpAny_storeName_local (lookup_relabel_local hx2) hn₆ (fun h₃ hn₃ hs₃ => ?_) (by simp [compEnvC, relabel, hkind])))
        refine assignInOrder_nil ?_
        have old3 : ∀ b o, b ≠ H2.objs.size → h₂.get? b = some o → h₃.get? b = some o := fun b o hb e => hs₃.extBut b o hb (hs₆.extBut b o hb (he' b o e))
        have heI3 : h₃.get? s₁.heap.objs.size = some oI := old3 _ _ hCI heI
        obtain ⟨oC, heC, hoC⟩ := ns_obj hn₃
        have F₃ : Fr h₀ L h₃ m := (((fr_but F' hk₂ hLI hI₀).keeps he').change hs₆ hCL hC₀).change hs₃ hCL hC₀
        have N₃ : News h₀ L h₃ ((s₁.heap.objs.size, oI) :: (H2.objs.size, oC) :: (H1.objs.size, lst ys) :: news) := fun p hp => by
          rcases List.mem_cons.mp hp with rfl | hp
          · exact ⟨heI3, Ne.symm hLI, hI₀⟩
          rcases List.mem_cons.mp hp with rfl | hp
          · exact ⟨heC, hCL, hC₀⟩
          · have z := N₂ p hp
            refine ⟨old3 _ _ ?_ z.1, z.2⟩
            rcases List.mem_cons.mp hp with rfl | hp
            · exact hDC
            · exact (off3 p hp).1
        have G₃ : G { s' with heap := h₃, toks := tk₂ + 1 + 1 } := gk s' h₃ (tk₂ + 1 + 1) hG' fun o e => old3 _ _ hPC (hk₂ _ _ (by simpa using Nat.ne_of_lt hPI) e)
        refine wpAny_mono (step kk l v1 v2 cp _ oI _ oC _ ys _ { s' with heap := h₃, toks := tk₂ + 1 + 1 } (List.mem_of_getElem? hkk) hp hml hoC (by simp [hxx]) (by simp) G₃ F₃ N₃ ⟨Nat.ne_of_lt hPI, hPC, hPD⟩ off3) (fun y s₄ h₄ => ?_) fun _ _ e => e.elim
        obtain ⟨G₄, F₄, N₄, hd⟩ := h₄
        have zI := (N₄ _ (.head _)).1
        have zC := (N₄ _ (.tail _ (.head _))).1
        have zD := (N₄ _ (.tail _ (.tail _ (.head _)))).1
        refine append_at (hsz := by show ys.toArray.size ≤ sizeLine; rw [List.size_toArray, hyl, sizeLine_eq]; omega) zD fun h₅ hs₅ hD₅ => ?_
        refine ⟨its.length + 1 - (i + 1), by omega, i + 1, ys ++ [y], _, ⟨oI, hs₅.extBut _ _ hDI zI, hoI⟩, by rw [take_snoc hkk]; exact .snoc hJ hd, by rw [List.length_append, List.length_singleton, hyl],
          gk s₄ h₅ _ G₄ fun o e => hs₅.extBut _ _ hPD e, F₄.change hs₅ hDL hD₀, (hoC.ns zC).sameBut hs₅ (Ne.symm hDC), fun p hp => ?_, hlt', rfl⟩
        rcases List.mem_cons.mp hp with rfl | hp
        · exact ⟨hD₅.trans (congrArg some (lst_snoc ys y)), hDL, hD₀⟩
        · have z := N₄ p (.tail _ (.tail _ (.tail _ hp)))
          exact ⟨hs₅.extBut _ _ (off3 p hp).2.1 z.1, z.2⟩
      · obtain rfl : i = its.length := Nat.le_antisymm hi (Nat.not_lt.mp hlt')
        refine W.done _ _ _ (by simpa using hst) fun h₂ tk₂ hk₂ => ?_
        refine ⟨m', hn'.at' fun o e => hk₂ _ o (by simpa using Ne.symm hCI) e, fun h'' hs'' => ?_⟩
        have F₂ := fr_but F' hk₂ hLI hI₀
        have N₂ : News h₀ L h₂ ((H1.objs.size, lst ys) :: news) := news_but N' hk₂ fun p hp => by
          rcases List.mem_cons.mp hp with rfl | hp
          · exact Ne.symm hDI
          · exact offI p hp
        refine fin H1.objs.size ys { s' with heap := h'', toks := tk₂ } (by rwa [List.take_of_length_le (by omega)] at hJ) (gk s' h'' tk₂ hG' fun o e => hs''.extBut _ _ hPC (hk₂ _ _ (by simpa using Nat.ne_of_lt hPI) e)) (F₂.change hs'' hCL hC₀) fun p hp => ?_
        have z := N₂ p hp
        refine ⟨hs''.extBut _ _ ?_ z.1, z.2⟩
        rcases List.mem_cons.mp hp with rfl | hp
        · exact hDC
        · exact (off3 p hp).1
    · rcases List.mem_cons.mp hp with rfl | hp
      · exact ⟨hacc, hDL, hD₀⟩
      · have z := N1 p hp
        exact ⟨old _ _ z.1, z.2⟩
  exact codeAny_compStart_list (loop _ rfl) (W.self 0 _ _ _ ⟨⟨_, old _ _ hItAt, rfl, rfl⟩, (N1.isList hm).at fun o e => old _ _ e⟩ (loop _ rfl))
end
theorem two_same {a b c d : Value} {n k : Nat} (h : some (listOf #[a, b] n) = some (listOf #[c, d] k)) : a = c ∧ b = d := by
  unfold W.listOf at h
  have h2 := Option.some.inj h
  injection h2 with _ _ h3
  injection h3 with h4 _
  have h5 := congrArg Array.toList h4
  simp at h5
  exact h5
end Mine
end mPR2
section walks
open PySem PySem.Spec PySem.Calls PySem.W PyProof.Rows
set_option maxRecDepth 100000
set_option maxHeartbeats 0
namespace Mine
set_option compiler.extract_closed false
local macro_rules | `(tactic| walk_at "#b") => `(tactic| (first | exact BindsTo.of_eq rfl | exact binds_K (by k_in) rfl (by k_is) rfl rfl rfl | (refine' kp_binds ?kx ?ke; (case kx => k_in); (case ke => exact fun _ => rfl))))
local macro_rules | `(tactic| walk_at "#i") => `(tactic| (first | with_reducible assumption | with_reducible exact ia4 | with_reducible exact ia3 | with_reducible exact ia2))
local macro_rules | `(tactic| walk_at "#s") => `(tactic| (first | with_reducible assumption | with_reducible exact sz4 | with_reducible exact sz3 | with_reducible exact sz2))
local macro_rules | `(tactic| walk_at "#n") => `(tactic| (first | with_reducible assumption | exact Nat.le_of_ble_eq_true rfl))
local macro_rules | `(tactic| walk_at "#o") => `(tactic| (first | with_reducible assumption | omega))
local macro_rules | `(tactic| k_all) => `(tactic| first | assumption | exact ne_all (by assumption) (by omega) | exact ne_allLt (by assumption))
local macro_rules | `(tactic| walk_at "leaving ref") => `(tactic| (k_here; k_dflt ((refine' leave_raiseX ?k1 ?k0 ?k2 ?k3 ?_ ?k4 ?k5; (case k0 => first | assumption | exact Heap.MadeExc.of (by assumption)); (case k2 | k1 => assumption); (case k3 => k_asm); (case k4 | k5 => exact rfl); k_whole; intro h' t' S' R' U'; (try dsimp only at S' R' U' ⊢)))))
local macro_rules | `(tactic| walk_at "call type:str") => `(tactic| (k_here; k_dflt ((rename Got _ _ _ _ _ => gotX); refine' str_own ?hu ?X ?_; (case X => exact ownStr_of (by assumption) (Fr.keep (by assumption)) (by assumption) gotX); (case hu => ((try simp only [units_deeper, Around.mark_units]); (try dsimp only [ktrTop]); omega)); k_whole)))
local macro_rules | `(tactic| walk_at "UnrEnd") => `(tactic| (k_dflt (refine' unrEnd_head ?F ?N ?o ?_; (case F => k_asm); (case N => assumption); (case o => k_all))))
local macro_rules | `(tactic| walk_at "call builtin:list.append") => `(tactic| (k_here; k_dflt (refine' append_K ?k1 ?k2 ?k3 ?_ ?z; (case k1 | k2 => k_asm); (case k3 => k_upd); (case z => assumption); k_whole; intro h' F' N')))
local macro_rules | `(tactic| walk_at "pyIter ref") => `(tactic| ((with_reducible show wpAny _ _ (pyIter (Value.ref _)) (fun it s₂ => LoopAtV _ _ _ _ _ _ _ _ _ it s₂) _ _); k_dflt (refine' iter_rangeUnr ?hh ?r ?sm ?sz ?F ?N ?_; (case hh => exact rfl); (case r => assumption); (case sm => first | assumption | decide | rfl); (case sz => first | assumption | exact (rfl : _ = ((16 : Nat) : Int))); (case F | N => k_asm)); intro i' l1; (try k_lt l1)))
local macro_rules | `(tactic| walk_at $s:str) => `(tactic| k_extra $s)
theorem filled : (fun (_ : OpenLaw) (_ : Params → Frag) => True) PySem.Challenge.rw_rw0072_01 hd.heap_39 := by
  k_fill
  w_top off
  k_with_none
  k_with "call ref" => (k_here; refine wpAny_call ?_; k_dflt (first
  | (refine' code_def ?t1qk1 ?t1qk2 ?t1qk3 ?t1qk4 ?t1qk5 ?t1qkA ?t1qkF ?t1qkK ?t1qk6 ?t1qk7 ?t1qk8 ?t1qk9 ?t1qkB ?_ ?t1qc2 ?t1qc3 ?t1qc4 ?t1qc5; (case t1qkA | t1qkF => exact rfl); (case t1qkK => first | assumption | exact rfl); (case t1qk1 | t1qk2 | t1qk3 | t1qk4 | t1qk5 => k_asm); (case t1qk6 | t1qk7 => k_is); (case t1qk8 => ktr_room); (case t1qk9 => walk_at "#b"); (case t1qc5 => decide); (case t1qkB => exact locs rfl); (case t1qc2 | t1qc3 | t1qc4 => exact rfl); k_whole; intro zzg zzL zzh zzFG zzF zzN zzB zzX zzT; (try dsimp only); (try k_lift zzB); (try k_fold))
  | (refine' code_defC ?t1qk1 ?t1qk2 ?t1qk3 ?t1qk4 ?t1qk5 ?t1qkA ?t1qkF ?t1qkK ?t1qk6 ?t1qk7 ?t1qk8 ?t1qk9 ?t1qkB ?t1qkD ?_ ?t1qc2 ?t1qc3 ?t1qc4; (case t1qkA | t1qkF => exact rfl); (case t1qkK => first | assumption | exact rfl); (case t1qk1 | t1qk2 | t1qk3 | t1qk4 | t1qk5 => k_asm); (case t1qk6 | t1qk7 => k_is); (case t1qk8 => ktr_room); (case t1qk9 => walk_at "#b"); (case t1qkB => exact rfl); (case t1qkD => decide); (case t1qc2 | t1qc3 | t1qc4 => exact rfl); k_whole; intro zzg zzL zzh zztk zzcells zzFG zzF zzN zzY zzB zzX zzT zzl; (try have zzlA := natLt (zzl _ (.head _))); (try dsimp only at zzlA); (try dsimp only); (k_cells zzY); (try simp only [List.cons_append, List.nil_append] at zzN); (try k_lift zzB); (try k_fold))))
  k_with "call builtin:math.fsum" => (k_here; k_dflt (refine fsum_is rfl (by assumption) (by assumption) (by k_mem) (by assumption) (by assumption) (by assumption) ?_; intro _ _ _ _ zzhf zzF zzN))
  k_with "call builtin:len" => (k_here; k_dflt (refine ref_len (by assumption) (by k_mem) (by assumption) (by assumption) ?_; intro _))
  k_with "binaryOp Div float int" => (k_here; k_dflt (refine div_fi_is rfl (by assumption) (by omega) (by assumption) (by assumption) ?_; intro _ _ zzhf))
  k_with "eval GeneratorExp" => (k_here; k_dflt (refine' gen_is ?t5qhh ?t5qhroom ?t5qF ?t5qN ?t5qT ?t5qC ?t5qU ?t5qht ?t5qhx ?t5qhl ?t5qhcl ?t5qhcm ?t5qhdc ?t5qhPc ?t5qhPl ?t5qhfx ?t5qhxs ?t5qhb ?t5qhd ?t5qhdb ?t5qhn ?t5qhclos ?t5qhcl2 ?_; (case t5qhh => exact rfl); (case t5qF | t5qN | t5qT => k_asm); (case t5qC => exact codeHas (by assumption)); (case t5qU => k_updF); (case t5qht => assumption); (case t5qhx => exact rfl); (case t5qhl => k_mem); (case t5qhclos => with_unfolding_all rfl); (case t5qhcl => exact rfl); (case t5qhcm => k_mem); (case t5qhdc => assumption); (case t5qhPc => k_ne); (case t5qhPl | t5qhfx | t5qhxs | t5qhb => assumption); (case t5qhd => exact fun _ _ => rfl); (case t5qhdb | t5qhn => assumption); (case t5qhcl2 => exact rfl); (case t5qhroom => ktr_room); k_whole; intro zzI zzC zza zzh zztk zzgs zzot zzz1 zzz2 zzz3 zzz4 zzhb zzht zzF zzN zzhk zzz5 zzz6 zzz7 zzz8 zzG))
  k_with "eval GeneratorExp" => (k_here; k_dflt (refine' gen_is ?t6qhh ?t6qhroom ?t6qF ?t6qN ?t6qT ?t6qC ?t6qU ?t6qht ?t6qhx ?t6qhl ?t6qhcl ?t6qhcm ?t6qhdc ?t6qhPc ?t6qhPl ?t6qhfx ?t6qhxs ?t6qhb ?t6qhd ?t6qhdb ?t6qhn ?t6qhclos ?t6qhcl2 ?_; (case t6qhh => exact rfl); (case t6qF | t6qN | t6qT => k_asm); (case t6qC => exact codeHas (by assumption)); (case t6qU => k_updF); (case t6qht => assumption); (case t6qhx => exact rfl); (case t6qhl => k_mem); (case t6qhclos => with_unfolding_all rfl); (case t6qhcl => exact rfl); (case t6qhcm => k_mem); (case t6qhdc => assumption); (case t6qhPc => k_ne); (case t6qhPl | t6qhfx | t6qhxs | t6qhb => assumption); (case t6qhd => exact fun _ _ => rfl); (case t6qhdb | t6qhn => assumption); (case t6qhcl2 => exact rfl); (case t6qhroom => ktr_room); k_whole; intro zzI zzC zza zzh zztk zzgs zzot zzz1 zzz2 zzz3 zzz4 zzhb zzht zzF zzN zzhk zzz5 zzz6 zzz7 zzz8 zzG))
  k_with "call builtin:math.sumprod" => (k_here; k_dflt (refine' sumprod_are ?t7qhh ?t7qhroom ?t7qF ?t7qN ?t7qT ?t7qG1 ?t7qG2 ?t7qhk ?t7qz1 ?t7qz2 ?t7qz3 ?t7qz4 ?t7qz5 ?t7qz6 ?t7qhLI ?t7qlA ?t7qhkeys ?t7qm1 ?t7qm2 ?t7qm3 ?t7qm4 ?t7qhb1 ?t7qhb2 ?t7qhc ?t7qhcb ?t7qhS ?t7qhn ?_; (case t7qhh => exact rfl); (case t7qhroom => ktr_room); (case t7qF | t7qN | t7qT => k_asm); (case t7qG1 | t7qG2 | t7qhk | t7qz1 | t7qz2 | t7qz3 | t7qz4 | t7qz5 | t7qz6 | t7qhLI | t7qlA => assumption); (case t7qhkeys => exact rfl); (case t7qm1 | t7qm2 | t7qm3 | t7qm4 => k_mem); (case t7qhb1 | t7qhb2 | t7qhc | t7qhcb | t7qhS => assumption); (case t7qhn => omega); k_whole; intro zzf zzu zzs zzhf zzF zzN zzhb zzhd zzho))
  k_with "call builtin:str.find" => (k_here; k_dflt (first | refine find_is (by assumption) ?_ | refine find3_is (by assumption) ?_))
  k_with "subscriptTail Name BinOp str int" => (k_here; k_dflt ((with_reducible show wpAny _ _ (subscriptTail _ _ (Value.str _ _) (Value.int _ _)) _ _ _); refine item_is (by assumption) (by omega) (by omega) (by assumption) ?_))
  k_with "subscriptTail Name Slice str ref" => (k_here; k_dflt ((with_reducible show wpAny _ _ (subscriptTail _ (Expr.Slice (some _) (some _) none _) (Value.str _ _) (Value.ref _)) _ _ _); refine slice_is (s := ⟨_, _, _, _, _⟩) (by assumption) (by assumption) (by assumption) (by assumption) ?_; intro _ _ _ zzF zzN))
  k_with "subscriptTail Name Slice str ref" => (k_here; k_dflt ((with_reducible show wpAny _ _ (subscriptTail _ (Expr.Slice none (some _) none _) (Value.str _ _) (Value.ref _)) _ _ _); refine slice3_is (s := ⟨_, _, _, _, _⟩) (by assumption) (by assumption) (by assumption) (by assumption) ?_; intro _ _ _ zzF zzN))
  k_with "call builtin:str.split" => (k_here; k_dflt (refine split5_is (by assumption) (by assumption) (by assumption) (by assumption) (by assumption) ?_; intro zzD zzt1 zzt2 zzt3 zzt4 zzt5 zzh zzk zzF zzN l1; (try k_lt l1)))
  k_with "compareOp NotEq str str" => (k_here; (first | (with_reducible refine ne_same ?_) | k_dflt (refine ne_diff (by assumption) ?_)))
  k_with "compareOp NotEq int int" => (k_here; (first | (with_reducible refine ne_int_same ?_) | k_dflt (refine ne_int_diff (by assumption) ?_)))
  k_with "call ref" => (k_here; (first | (with_reducible show wpAny _ _ (call (Value.ref 164) _) _ _ _) | (with_reducible show wpAny _ _ (call (Value.ref 157) _) _ _ _)); refine wpAny_call ?_; k_dflt (refine' code_defX0 ?t15qk1 ?t15qk2 ?t15qk3 ?t15qk4 ?t15qk5 ?t15qkA ?t15qkf ?t15qk6 ?t15qk7 ?t15qk8 ?t15qk9 ?t15qkB ?_ ?t15qcK ?t15qc2 ?t15qc3 ?t15qc4 ?t15qc5; (case t15qkA | t15qkf => exact rfl); (case t15qk2 | t15qk1 | t15qk3 | t15qk4 | t15qk5 => k_asm); (case t15qk6 | t15qk7 => k_is); (case t15qk8 => ktr_room); (case t15qk9 => walk_at "#b"); (case t15qkB => exact locs rfl); (case t15qcK => first | assumption | exact rfl); (case t15qc2 | t15qc3 | t15qc4 => exact rfl); (case t15qc5 => decide); k_whole; intro zzg zzL zzh zzFG zzF zzN zzB zzX zzT zzD; (try dsimp only); (try k_lift zzB); (try k_fold)))
  k_with "exec Raise some none" => (k_here; k_dflt (first | (refine' Raise_ownX ?t16qF ?t16qX ?t16qT ?t16qex ?t16qO PySem.F.excBase_ValueError ?t16qh ?_ ?t16qa ?t16qb ?t16qc ?t16qd ?t16qe; (case t16qF | t16qX | t16qT => k_asm); (case t16qO => exact own_of_in (by k_asm) (by k_asm) (by k_is) (by k_exc)); (case t16qex => k_is); (case t16qh => first | rfl | assumption); (case t16qa | t16qb | t16qc | t16qd => rfl); (case t16qe => decide); k_whole) | (refine' Raise_ownX ?t16qF ?t16qX ?t16qT ?t16qex ?t16qO PySem.F.excBase_Exception ?t16qh ?_ ?t16qa ?t16qb ?t16qc ?t16qd ?t16qe; (case t16qF | t16qX | t16qT => k_asm); (case t16qO => exact own_of_in (by k_asm) (by k_asm) (by k_is) (by k_exc)); (case t16qex => k_is); (case t16qh => first | rfl | assumption); (case t16qa | t16qb | t16qc | t16qd => rfl); (case t16qe => decide); k_whole)))
  k_with "exec Try" => (k_here; k_dflt (refine wpAny_Try_except ?_))
  k_with "call builtin:sorted" => (k_here; k_dflt (refine sorted_is (by assumption) (by assumption) (by k_mem) (by assumption) (by assumption) (by assumption) (by assumption) ?_; intro zzD zzv zzc zzh zzF zzN zzi zzn))
  k_with "subscriptTail Name BinOp ref int" => (k_here; k_dflt (first | (refine item_l (by assumption) (by k_mem) (by assumption) (At1.out (by assumption)) (by omega) (by assumption) ?_; intro _) | (refine item_l (by assumption) (by k_mem) (by assumption) (by assumption) (by omega) (by assumption) ?_; intro _)))
  k_with "subscriptTail Name Name ref int" => (k_here; k_dflt (first | (refine item_l (by assumption) (by k_mem) (by assumption) (At1.out (by assumption)) (by omega) (by assumption) ?_; intro _) | (refine item_l (by assumption) (by k_mem) (by assumption) (by assumption) (by omega) (by assumption) ?_; intro _)))
  k_with "binaryOp Div int int" => (k_here; k_dflt (refine div_ii_is rfl (by omega) (by assumption) (by assumption) ?_; intro _ _ zzhf))
  k_with "binaryOp FloorDiv int int" => (k_here; k_dflt (first | (refine fdiv_fact (by assumption) (by omega) (PyProof.noPylong_small (by omega)) ?_; intro _) | (refine fdiv_is (by omega) (PyProof.noPylong_of_log2 (by decide +kernel)) ?_; intro _) | (refine fdiv_is (by omega) (PyProof.noPylong_small (by omega)) ?_; intro _)))
  k_with "binaryOp Mod int int" => (k_here; k_dflt (refine fmod_is (by omega) ?_; intro _))
  k_with "compareOp Eq int int" => (k_here; k_dflt (first | refine eq_no (by omega) ?_ | refine eq_yes (by omega) ?_))
  k_with "compareOp Lt int int" => (k_here; k_dflt (first | refine lt_no (by omega) ?_ | refine lt_yes (by omega) ?_))
  k_with "compareOp Gt int int" => (k_here; k_dflt (first | refine gt_no (by omega) ?_ | refine gt_yes (by omega) ?_))
  k_with "truthy int" => (k_here; k_dflt (refine truthy_yes (by omega) ?_))
  trivial
theorem tog_ok (w : World) (p : Program) (loose : List Str) (mean : ExcName → Option Value) (mg mb : Str → Option Value)
   (dp un : Nat) (gd : Option (List Code)) (cn : Str) (cs : Scope) (a : Addr) (ccd : Value) (cl : List (Str × Addr)) (outer : List Env) (A₀ : Around) (base h₀ : Heap) (L : Addr) (m : Str → Option Value) (s : Shared) (Q E : Value → Shared → Prop)
   (B : Below A₀ base outer h₀) (F : Fr h₀ L s.heap m) (KX : (hd.heap_39 w.params).In h₀) (news : List (Addr × Obj)) (ot : Obj) (hot : CodeTab ot) (lx ly : Addr) (nlx : lx ≠ 94) (nly : ly ≠ 94) (vx vy : List Value) (kx ky : Nat) (off : ∀ q ∈ (lx, listOf vx.toArray kx) :: (ly, listOf vy.toArray ky) :: news, q.1 ≠ 94) (N : News h₀ L s.heap ((94, ot) :: (lx, listOf vx.toArray kx) :: (ly, listOf vy.toArray ky) :: news)) (T : Top p loose mean mg mb h₀) (hk : cs.kind = .function)
   (xs ys : List Int) (n : Nat) (sx : vx.toArray.size = n) (sy : vy.toArray.size = n) (n2 : 2 ≤ n) (n1000 : n ≤ 1000) (cx cy : Int) (hcx : 256 * xs.sum = cx * n) (hcy : 256 * ys.sum = cy * n) (cxb : cx.natAbs < 2 ^ 53) (cyb : cy.natAbs < 2 ^ 53) (ix : IntsAre vx xs) (iy : IntsAre vy ys) (bx : ∀ x ∈ xs, -(2 ^ 30) ≤ x ∧ x ≤ 2 ^ 30) (by' : ∀ x ∈ ys, -(2 ^ 30) ≤ x ∧ x ≤ 2 ^ 30) (hdx : ∀ i, i < xs.length → (256 * xs.getD i 0 - cx).natAbs < 2 ^ 53) (hdy : ∀ i, i < ys.length → (256 * ys.getD i 0 - cy).natAbs < 2 ^ 53) (e : Nat → Int) (he : ∀ i, i < n → (256 * xs.getD i 0 - cx) * (256 * ys.getD i 0 - cy) = 256 * e i) (heb : ∀ i, i < n → (e i).natAbs < 2 ^ 53) (hes : ∀ i, i ≤ n → (preSum e i).natAbs < 2 ^ 53) (R : Int) (hR : preSum e n = R * (n - 1)) (hRb : R.natAbs < 2 ^ 53) (nx : xs.length ≤ 100) (ny : ys.length ≤ 100)
   (hQ : ∀ f u s' ot', FV f R → CodeTab ot' → Fr h₀ L s'.heap m → News h₀ L s'.heap ((94, ot') :: (lx, listOf vx.toArray kx) :: (ly, listOf vy.toArray ky) :: news) → ((∀ y ∈ s.gens, y.bare = true) → ∀ y ∈ s'.gens, y.bare = true) → s'.drawn = s.drawn → s'.os = s.os → Q (.float f u) s')
   (hd1 : dp + 11 < recursionLimit) (hu1 : un + 48 < cLine) :
   wpAny (model PySem.Challenge.pw_rw0072_01 w) (ktrTop dp un gd cn cs L a ccd cl outer) (call (.ref 164) [.ref lx, .ref ly]) Q E s := by
  k_steps
  rename News h₀ _ _ _ => NN
  exact hQ _ _ _ _ (by assumption) (by assumption) (by assumption) (fun q hq => NN q (.tail _ (.tail _ hq))) (by assumption) (by assumption) (by assumption)
theorem tog_ref1 (w : World) (p : Program) (loose : List Str) (mean : ExcName → Option Value) (mg mb : Str → Option Value)
   (dp un : Nat) (gd : Option (List Code)) (cn : Str) (cs : Scope) (a : Addr) (ccd : Value) (cl : List (Str × Addr)) (A₀ : Around) (base h₀ : Heap) (L : Addr) (m : Str → Option Value) (s : Shared) (Q E : Value → Shared → Prop)
   (B : Below A₀ base [] h₀) (XB : (hd.heap_39 w.params).In base) (TB : Top p loose mean mg mb base) (F : Fr h₀ L s.heap m) (KX : (hd.heap_39 w.params).In h₀) (news : List (Addr × Obj)) (lx ly : Addr) (vx vy : List Value) (kx ky : Nat) (N : News h₀ L s.heap ((lx, listOf vx.toArray kx) :: (ly, listOf vy.toArray ky) :: news)) (T : Top p loose mean mg mb h₀) (hk : cs.kind = .function)
   (n n' : Nat) (sx : vx.toArray.size = n) (sy : vy.toArray.size = n') (n1000 : n ≤ 1000) (n1001 : n' ≤ 1000) (hne : (n' : Int) ≠ (n : Int))
   (hQ : ∀ t s', Fr h₀ L s'.heap m → News h₀ L s'.heap ((lx, listOf vx.toArray kx) :: (ly, listOf vy.toArray ky) :: news) → s'.gens = s.gens → s'.drawn = s.drawn → s'.os = s.os → Q (.str (Str.ofString "refused") t) s')
   (hd1 : dp + 11 < recursionLimit) (hu1 : un + 48 < cLine) :
   wpAny (model PySem.Challenge.pw_rw0072_01 w) (ktrTop dp un gd cn cs L a ccd cl []) (call (.ref 164) [.ref lx, .ref ly]) Q E s := by
  k_steps
  rename News h₀ _ _ _ => NN
  exact hQ _ _ (by assumption) (fun q hq => NN q (.tail _ (.tail _ hq))) rfl rfl rfl

theorem tog_ref2 (w : World) (p : Program) (loose : List Str) (mean : ExcName → Option Value) (mg mb : Str → Option Value)
   (dp un : Nat) (gd : Option (List Code)) (cn : Str) (cs : Scope) (a : Addr) (ccd : Value) (cl : List (Str × Addr)) (A₀ : Around) (base h₀ : Heap) (L : Addr) (m : Str → Option Value) (s : Shared) (Q E : Value → Shared → Prop)
   (B : Below A₀ base [] h₀) (XB : (hd.heap_39 w.params).In base) (TB : Top p loose mean mg mb base) (F : Fr h₀ L s.heap m) (KX : (hd.heap_39 w.params).In h₀) (news : List (Addr × Obj)) (lx ly : Addr) (vx vy : List Value) (kx ky : Nat) (N : News h₀ L s.heap ((lx, listOf vx.toArray kx) :: (ly, listOf vy.toArray ky) :: news)) (T : Top p loose mean mg mb h₀) (hk : cs.kind = .function)
   (n : Nat) (sx : vx.toArray.size = n) (sy : vy.toArray.size = n) (n1000 : n ≤ 1000) (n2 : n < 2)
   (hQ : ∀ t s', Fr h₀ L s'.heap m → News h₀ L s'.heap ((lx, listOf vx.toArray kx) :: (ly, listOf vy.toArray ky) :: news) → s'.gens = s.gens → s'.drawn = s.drawn → s'.os = s.os → Q (.str (Str.ofString "refused") t) s')
   (hd1 : dp + 11 < recursionLimit) (hu1 : un + 48 < cLine) :
   wpAny (model PySem.Challenge.pw_rw0072_01 w) (ktrTop dp un gd cn cs L a ccd cl []) (call (.ref 164) [.ref lx, .ref ly]) Q E s := by
  k_steps
  rename News h₀ _ _ _ => NN
  exact hQ _ _ (by assumption) (fun q hq => NN q (.tail _ (.tail _ hq))) rfl rfl rfl
theorem told_ok (w : World) (p : Program) (loose : List Str) (mean : ExcName → Option Value) (mg mb : Str → Option Value)
   (dp un : Nat) (gd : Option (List Code)) (cn : Str) (cs : Scope) (a : Addr) (ccd : Value) (cl : List (Str × Addr)) (outer : List Env) (A₀ : Around) (base h₀ : Heap) (L : Addr) (m : Str → Option Value) (s : Shared) (Q E : Value → Shared → Prop)
   (x : Str) (t : Tok) (r n : Int) (mk y e D : Str)
   (B : Below A₀ base outer h₀) (F : Fr h₀ L s.heap m) (KX : (hd.heap_39 w.params).In h₀) (news : List (Addr × Obj)) (N : News h₀ L s.heap news) (T : Top p loose mean mg mb h₀) (hk : cs.kind = .function)
   (hxl : x.length ≤ 1000) (hx3 : Txt.slice x none (some 3) = Str.ofString "229") (hf1 : Txt.find x (Str.ofString "(") = 4) (hf2 : Txt.find3 x (Str.ofString ")") (4 + 1) = r)
   (hr : 9 ≤ r) (hr2 : r < x.length) (hi1 : Txt.item x (4 + 1) = mk) (hi2 : Txt.item x (r - 1) = mk) (hsl : Txt.slice x (some (4 + 1)) (some r) = y) (hyl : y.length ≤ 1000) (hmk : mk.length = 1)
   (hsp : Txt.split y mk = [e, e, e, D, e]) (hn : PySem.intText? D = some n) (hDl : D.length ≤ 640)
   (hQ : ∀ D' t1 t2 c s', (∀ q ∈ news, q.1 < D') → Fr h₀ L s'.heap m → News h₀ L s'.heap ((D', listOf #[.str (Str.ofString "host") t1, .int n t2] c) :: news) → s'.gens = s.gens → s'.drawn = s.drawn → s'.os = s.os → Q (.ref D') s')
   (hd1 : dp + 10 < recursionLimit) (hu1 : un + 40 < cLine) :
   wpAny (model PySem.Challenge.pw_rw0072_01 w) (ktrTop dp un gd cn cs L a ccd cl outer) (call (.ref 157) [.str x t]) Q E s := by
  k_steps
  rename News h₀ _ _ _ => NN
  refine hQ _ _ _ _ _ ?lt (by assumption) (drop_news NN (fun q hq => by first | exact .tail _ hq | exact .tail _ (.tail _ hq) | exact .tail _ (.tail _ (.tail _ hq)) | exact .tail _ (.tail _ (.tail _ (.tail _ hq))))) rfl rfl rfl
  case lt => exact lt_allLt (by first | assumption | exact And.right (by assumption) | exact And.right (And.right (by assumption)) | exact And.right (And.right (And.right (by assumption))) | exact And.right (And.right (And.right (And.right (by assumption)))))
theorem told_ref (w : World) (p : Program) (loose : List Str) (mean : ExcName → Option Value) (mg mb : Str → Option Value)
   (dp un : Nat) (gd : Option (List Code)) (cn : Str) (cs : Scope) (a : Addr) (ccd : Value) (cl : List (Str × Addr)) (A₀ : Around) (base h₀ : Heap) (L : Addr) (m : Str → Option Value) (s : Shared) (Q E : Value → Shared → Prop)
   (x : Str) (t : Tok) (r : Int) (mk mk' : Str)
   (B : Below A₀ base [] h₀) (XB : (hd.heap_39 w.params).In base) (TB : Top p loose mean mg mb base) (F : Fr h₀ L s.heap m) (KX : (hd.heap_39 w.params).In h₀) (news : List (Addr × Obj)) (N : News h₀ L s.heap news) (T : Top p loose mean mg mb h₀) (hk : cs.kind = .function)
   (hxl : x.length ≤ 1000) (hx3 : Txt.slice x none (some 3) = Str.ofString "229") (hf1 : Txt.find x (Str.ofString "(") = 4) (hf2 : Txt.find3 x (Str.ofString ")") (4 + 1) = r)
   (hr : 9 ≤ r) (hr2 : r < x.length) (hi1 : Txt.item x (4 + 1) = mk) (hi2 : Txt.item x (r - 1) = mk') (hne : mk ≠ mk')
   (hQ : ∀ D' t1 t2 c s', (∀ q ∈ news, q.1 < D') → Fr h₀ L s'.heap m → News h₀ L s'.heap ((D', listOf #[.str (Str.ofString "form") t1, .str x t2] c) :: news) → s'.gens = s.gens → s'.drawn = s.drawn → s'.os = s.os → Q (.ref D') s')
   (hd1 : dp + 10 < recursionLimit) (hu1 : un + 40 < cLine) :
   wpAny (model PySem.Challenge.pw_rw0072_01 w) (ktrTop dp un gd cn cs L a ccd cl []) (call (.ref 157) [.str x t]) Q E s := by
  k_steps
  rename News h₀ _ _ _ => NN
  refine hQ _ _ _ _ _ ?lt (by assumption) (drop_news NN (fun q hq => by first | exact hq | exact .tail _ hq | exact .tail _ (.tail _ hq) | exact .tail _ (.tail _ (.tail _ hq)) | exact .tail _ (.tail _ (.tail _ (.tail _ hq))))) rfl rfl rfl
  case lt => exact lt_allLt (by first | assumption | exact And.right (by assumption) | exact And.right (And.right (by assumption)) | exact And.right (And.right (And.right (by assumption))) | exact And.right (And.right (And.right (And.right (by assumption)))))
theorem fmean_ok (w : World) (p : Program) (loose : List Str) (mean : ExcName → Option Value) (mg mb : Str → Option Value)
   (dp un : Nat) (gd : Option (List Code)) (cn : Str) (cs : Scope) (a : Addr) (ccd : Value) (cl : List (Str × Addr)) (outer : List Env) (A₀ : Around) (base h₀ : Heap) (L : Addr) (m : Str → Option Value) (s : Shared) (Q E : Value → Shared → Prop)
   (B : Below A₀ base outer h₀) (F : Fr h₀ L s.heap m) (KX : (hd.heap_39 w.params).In h₀) (news : List (Addr × Obj)) (lx : Addr) (vx : List Value) (kx : Nat) (N : News h₀ L s.heap ((lx, listOf vx.toArray kx) :: news)) (T : Top p loose mean mg mb h₀) (hk : cs.kind = .function)
   (xs : List Int) (n : Nat) (ix : IntsAre vx xs) (sx : vx.toArray.size = n) (n1000 : n ≤ 1000) (nx : xs.length ≤ 100) (bx : ∀ x ∈ xs, -(2 ^ 30) ≤ x ∧ x ≤ 2 ^ 30) (n2 : 1 ≤ n) (c : Int) (hc : 256 * xs.sum = c * n) (cb : c.natAbs < 2 ^ 53)
   (hQ : ∀ f t s', FV f c → Fr h₀ L s'.heap m → News h₀ L s'.heap ((lx, listOf vx.toArray kx) :: news) → s'.gens = s.gens → s'.drawn = s.drawn → s'.os = s.os → Q (.float f t) s')
   (hd1 : dp + 10 < recursionLimit) (hu1 : un + 40 < cLine) :
   wpAny (model PySem.Challenge.pw_rw0072_01 w) (ktrTop dp un gd cn cs L a ccd cl outer) (call (.ref 63) [.ref lx]) Q E s := by
  k_steps
  rename News h₀ _ _ _ => NN
  exact hQ _ _ _ (by assumption) (by assumption) (sub_news NN (fun q hq => by first | exact hq | exact .tail _ hq | exact .tail _ (.tail _ hq))) rfl rfl rfl
theorem median_even (w : World) (p : Program) (loose : List Str) (mean : ExcName → Option Value) (mg mb : Str → Option Value)
   (dp un : Nat) (gd : Option (List Code)) (cn : Str) (cs : Scope) (a : Addr) (ccd : Value) (cl : List (Str × Addr)) (outer : List Env) (A₀ : Around) (base h₀ : Heap) (L : Addr) (m : Str → Option Value) (s : Shared) (Q E : Value → Shared → Prop)
   (B : Below A₀ base outer h₀) (F : Fr h₀ L s.heap m) (KX : (hd.heap_39 w.params).In h₀) (news : List (Addr × Obj)) (lx : Addr) (vx : List Value) (kx : Nat) (N : News h₀ L s.heap ((lx, listOf vx.toArray kx) :: news)) (T : Top p loose mean mg mb h₀) (hk : cs.kind = .function)
   (xs : List Int) (n : Nat) (ix : IntsAre vx xs) (sx : vx.toArray.size = n) (n1000 : n ≤ 1000) (nx : xs.length ≤ 100) (bx : ∀ x ∈ xs, -(2 ^ 30) ≤ x ∧ x ≤ 2 ^ 30) (ys : List Int) (hys : SortOf ys xs) (n64 : n < 64) (ly : ys.length ≤ 1000) (k : Nat) (hn : n = 2 * k) (k1 : 1 ≤ k) (v0 v1 c : Int) (a0 : At0 ys ((k : Int) - 1) v0) (a1 : At1 ys (k : Int) v1) (hc : 256 * (v0 + v1) = c * 2) (cb : c.natAbs < 2 ^ 53) (vb : -(2 ^ 30) ≤ v0 ∧ v0 ≤ 2 ^ 30 ∧ -(2 ^ 30) ≤ v1 ∧ v1 ≤ 2 ^ 30)
   (hQ : ∀ f t s', FV f c → Fr h₀ L s'.heap m → News h₀ L s'.heap ((lx, listOf vx.toArray kx) :: news) → s'.gens = s.gens → s'.drawn = s.drawn → s'.os = s.os → Q (.float f t) s')
   (hd1 : dp + 10 < recursionLimit) (hu1 : un + 40 < cLine) :
   wpAny (model PySem.Challenge.pw_rw0072_01 w) (ktrTop dp un gd cn cs L a ccd cl outer) (call (.ref 70) [.ref lx]) Q E s := by
  k_steps
  rename News h₀ _ _ _ => NN
  exact hQ _ _ _ (by assumption) (by assumption) (sub_news NN (fun q hq => by first | exact hq | exact .tail _ hq | exact .tail _ (.tail _ hq))) rfl rfl rfl

theorem median_odd (w : World) (p : Program) (loose : List Str) (mean : ExcName → Option Value) (mg mb : Str → Option Value)
   (dp un : Nat) (gd : Option (List Code)) (cn : Str) (cs : Scope) (a : Addr) (ccd : Value) (cl : List (Str × Addr)) (outer : List Env) (A₀ : Around) (base h₀ : Heap) (L : Addr) (m : Str → Option Value) (s : Shared) (Q E : Value → Shared → Prop)
   (B : Below A₀ base outer h₀) (F : Fr h₀ L s.heap m) (KX : (hd.heap_39 w.params).In h₀) (news : List (Addr × Obj)) (lx : Addr) (vx : List Value) (kx : Nat) (N : News h₀ L s.heap ((lx, listOf vx.toArray kx) :: news)) (T : Top p loose mean mg mb h₀) (hk : cs.kind = .function)
   (xs : List Int) (n : Nat) (ix : IntsAre vx xs) (sx : vx.toArray.size = n) (n1000 : n ≤ 1000) (nx : xs.length ≤ 100) (bx : ∀ x ∈ xs, -(2 ^ 30) ≤ x ∧ x ≤ 2 ^ 30) (ys : List Int) (hys : SortOf ys xs) (n64 : n < 64) (ly : ys.length ≤ 1000) (k : Nat) (hn : n = 2 * k + 1) (v : Int) (a0 : At0 ys (k : Int) v)
   (hQ : ∀ t s', Fr h₀ L s'.heap m → News h₀ L s'.heap ((lx, listOf vx.toArray kx) :: news) → s'.gens = s.gens → s'.drawn = s.drawn → s'.os = s.os → Q (.int v t) s')
   (hd1 : dp + 10 < recursionLimit) (hu1 : un + 40 < cLine) :
   wpAny (model PySem.Challenge.pw_rw0072_01 w) (ktrTop dp un gd cn cs L a ccd cl outer) (call (.ref 70) [.ref lx]) Q E s := by
  k_steps
  rename News h₀ _ _ _ => NN
  exact hQ _ _ (by assumption) (sub_news NN (fun q hq => by first | exact hq | exact .tail _ hq | exact .tail _ (.tail _ hq))) rfl rfl rfl

theorem low_even (w : World) (p : Program) (loose : List Str) (mean : ExcName → Option Value) (mg mb : Str → Option Value)
   (dp un : Nat) (gd : Option (List Code)) (cn : Str) (cs : Scope) (a : Addr) (ccd : Value) (cl : List (Str × Addr)) (outer : List Env) (A₀ : Around) (base h₀ : Heap) (L : Addr) (m : Str → Option Value) (s : Shared) (Q E : Value → Shared → Prop)
   (B : Below A₀ base outer h₀) (F : Fr h₀ L s.heap m) (KX : (hd.heap_39 w.params).In h₀) (news : List (Addr × Obj)) (lx : Addr) (vx : List Value) (kx : Nat) (N : News h₀ L s.heap ((lx, listOf vx.toArray kx) :: news)) (T : Top p loose mean mg mb h₀) (hk : cs.kind = .function)
   (xs : List Int) (n : Nat) (ix : IntsAre vx xs) (sx : vx.toArray.size = n) (n1000 : n ≤ 1000) (nx : xs.length ≤ 100) (bx : ∀ x ∈ xs, -(2 ^ 30) ≤ x ∧ x ≤ 2 ^ 30) (ys : List Int) (hys : SortOf ys xs) (n64 : n < 64) (ly : ys.length ≤ 1000) (k : Nat) (hn : n = 2 * k) (k1 : 1 ≤ k) (v : Int) (a0 : At0 ys ((k : Int) - 1) v)
   (hQ : ∀ t s', Fr h₀ L s'.heap m → News h₀ L s'.heap ((lx, listOf vx.toArray kx) :: news) → s'.gens = s.gens → s'.drawn = s.drawn → s'.os = s.os → Q (.int v t) s')
   (hd1 : dp + 10 < recursionLimit) (hu1 : un + 40 < cLine) :
   wpAny (model PySem.Challenge.pw_rw0072_01 w) (ktrTop dp un gd cn cs L a ccd cl outer) (call (.ref 77) [.ref lx]) Q E s := by
  k_steps
  rename News h₀ _ _ _ => NN
  exact hQ _ _ (by assumption) (sub_news NN (fun q hq => by first | exact hq | exact .tail _ hq | exact .tail _ (.tail _ hq))) rfl rfl rfl

theorem low_odd (w : World) (p : Program) (loose : List Str) (mean : ExcName → Option Value) (mg mb : Str → Option Value)
   (dp un : Nat) (gd : Option (List Code)) (cn : Str) (cs : Scope) (a : Addr) (ccd : Value) (cl : List (Str × Addr)) (outer : List Env) (A₀ : Around) (base h₀ : Heap) (L : Addr) (m : Str → Option Value) (s : Shared) (Q E : Value → Shared → Prop)
   (B : Below A₀ base outer h₀) (F : Fr h₀ L s.heap m) (KX : (hd.heap_39 w.params).In h₀) (news : List (Addr × Obj)) (lx : Addr) (vx : List Value) (kx : Nat) (N : News h₀ L s.heap ((lx, listOf vx.toArray kx) :: news)) (T : Top p loose mean mg mb h₀) (hk : cs.kind = .function)
   (xs : List Int) (n : Nat) (ix : IntsAre vx xs) (sx : vx.toArray.size = n) (n1000 : n ≤ 1000) (nx : xs.length ≤ 100) (bx : ∀ x ∈ xs, -(2 ^ 30) ≤ x ∧ x ≤ 2 ^ 30) (ys : List Int) (hys : SortOf ys xs) (n64 : n < 64) (ly : ys.length ≤ 1000) (k : Nat) (hn : n = 2 * k + 1) (v : Int) (a0 : At0 ys (k : Int) v)
   (hQ : ∀ t s', Fr h₀ L s'.heap m → News h₀ L s'.heap ((lx, listOf vx.toArray kx) :: news) → s'.gens = s.gens → s'.drawn = s.drawn → s'.os = s.os → Q (.int v t) s')
   (hd1 : dp + 10 < recursionLimit) (hu1 : un + 40 < cLine) :
   wpAny (model PySem.Challenge.pw_rw0072_01 w) (ktrTop dp un gd cn cs L a ccd cl outer) (call (.ref 77) [.ref lx]) Q E s := by
  k_steps
  rename News h₀ _ _ _ => NN
  exact hQ _ _ (by assumption) (sub_news NN (fun q hq => by first | exact hq | exact .tail _ hq | exact .tail _ (.tail _ hq))) rfl rfl rfl

theorem high_any (w : World) (p : Program) (loose : List Str) (mean : ExcName → Option Value) (mg mb : Str → Option Value)
   (dp un : Nat) (gd : Option (List Code)) (cn : Str) (cs : Scope) (a : Addr) (ccd : Value) (cl : List (Str × Addr)) (outer : List Env) (A₀ : Around) (base h₀ : Heap) (L : Addr) (m : Str → Option Value) (s : Shared) (Q E : Value → Shared → Prop)
   (B : Below A₀ base outer h₀) (F : Fr h₀ L s.heap m) (KX : (hd.heap_39 w.params).In h₀) (news : List (Addr × Obj)) (lx : Addr) (vx : List Value) (kx : Nat) (N : News h₀ L s.heap ((lx, listOf vx.toArray kx) :: news)) (T : Top p loose mean mg mb h₀) (hk : cs.kind = .function)
   (xs : List Int) (n : Nat) (ix : IntsAre vx xs) (sx : vx.toArray.size = n) (n1000 : n ≤ 1000) (nx : xs.length ≤ 100) (bx : ∀ x ∈ xs, -(2 ^ 30) ≤ x ∧ x ≤ 2 ^ 30) (ys : List Int) (hys : SortOf ys xs) (n64 : n < 64) (ly : ys.length ≤ 1000) (n2 : 1 ≤ n) (k : Nat) (hn : n / 2 = k) (v : Int) (a0 : At0 ys (k : Int) v)
   (hQ : ∀ t s', Fr h₀ L s'.heap m → News h₀ L s'.heap ((lx, listOf vx.toArray kx) :: news) → s'.gens = s.gens → s'.drawn = s.drawn → s'.os = s.os → Q (.int v t) s')
   (hd1 : dp + 10 < recursionLimit) (hu1 : un + 40 < cLine) :
   wpAny (model PySem.Challenge.pw_rw0072_01 w) (ktrTop dp un gd cn cs L a ccd cl outer) (call (.ref 84) [.ref lx]) Q E s := by
  k_steps
  rename News h₀ _ _ _ => NN
  exact hQ _ _ (by assumption) (sub_news NN (fun q hq => by first | exact hq | exact .tail _ hq | exact .tail _ (.tail _ hq))) rfl rfl rfl
def quantDef : List Stmt × Scope := match PySem.Challenge.pw_rw0072_01.main.body.getD 7 (.Pass ⟨0, 0, 0, 0⟩) with
  | .FunctionDef _ _ body _ _ _ scope _ _ _ => (body, scope)
  | _ => ([], default)
abbrev quantMap (lx : Addr) (N : Int) (tn tm : Tok) : Str → Option Value := fun y => List.lookup y [(Str.ofString "method", .str (Str.ofString "exclusive") tm), (Str.ofString "n", .int N tn), (Str.ofString "data", .ref lx)]
theorem quant_body (w : World) (p : Program) (loose : List Str) (mean : ExcName → Option Value) (mg mb : Str → Option Value)
   (dp un : Nat) (gd : Option (List Code)) (cn : Str) (cs : Scope) (a : Addr) (ccd : Value) (cl : List (Str × Addr)) (outer : List Env) (base h₀ : Heap) (Lc L : Addr) (s : Shared) (Q : Flow → Shared → Prop) (E : Value → Shared → Prop)
   (N : Int) (tn tm : Tok) (lx : Addr) (qb : List Stmt) (qs : Scope) (hq : quantDef = (qb, qs))
   (B : Below (ktrTop dp un gd cn cs Lc a ccd cl outer) base (envX cn cs Lc a ccd cl :: outer) h₀) (F : Fr h₀ L s.heap (quantMap lx N tn tm)) (KX : (hd.heap_39 w.params).In h₀) (news : List (Addr × Obj)) (vx : List Value) (kx : Nat) (N₀ : News h₀ L s.heap ((lx, listOf vx.toArray kx) :: news)) (T : Top p loose mean mg mb h₀) (hk : cs.kind = .function)
   (xs ys cuts : List Int) (n : Nat) (ix : IntsAre vx xs) (sx : vx.toArray.size = n) (n2 : 2 ≤ n) (n64 : n < 64) (n1000 : n ≤ 1000) (hys : SortOf ys xs) (ly : ys.length ≤ 1000)
   (hN : 2 ≤ N ∧ N ≤ 1000) (cnt : Nat) (hsm : Builtin.Range.small 1 N 1 = true) (hsz : Builtin.Range.rangeSize 1 N 1 = (cnt : Int)) (hcl : cuts.length = cnt) (hcl2 : cnt ≤ 1000) (hcut : ∀ i, i < cnt → CutStep ys N n i (cuts.getD i 0))
   (hQ : ∀ R vr c s' m', FlAre vr cuts → Fr h₀ L s'.heap m' → News h₀ L s'.heap ((R, listOf vr.toArray c) :: (lx, listOf vx.toArray kx) :: news) → s'.gens = s.gens → s'.drawn = s.drawn → s'.os = s.os → Q (.ret (.ref R)) s')
   (hd1 : dp + 10 < recursionLimit) (hu1 : un + 40 < cLine) :
   wpAny (model PySem.Challenge.pw_rw0072_01 w) ((ktrTop dp un gd cn cs Lc a ccd cl outer).deeper (envOf (Str.ofString "quantiles") qs L 92 (.ref 91))) (execs qb (envOf (Str.ofString "quantiles") qs L 92 (.ref 91))) Q (fun e s' => wpAny (model PySem.Challenge.pw_rw0072_01 w) ((ktrTop dp un gd cn cs Lc a ccd cl outer).deeper (envOf (Str.ofString "quantiles") qs L 92 (.ref 91))) (leaving (envOf (Str.ofString "quantiles") qs L 92 (.ref 91)) e) (fun _ s'' => E e s'') (fun e' s'' => E e' s'') s') s := by
  have h1 : quantDef.1 = qb := congrArg Prod.fst hq
  have h2 : quantDef.2 = qs := congrArg Prod.snd hq
  conv at h1 => lhs; whnf
  conv at h2 => lhs; whnf
  subst h1 h2
  clear hq
  k_steps
  refine rangeRest_of (QJ _ _ _ cuts) ?step ?fin cnt 0 _ _ (Nat.zero_add _) ⟨[], _, none, none, none, none, FlAre.nil, mm_none (by rfl) (by rfl) (by rfl) (by rfl), rfl⟩
  case step =>
    rintro i m1 news1 t h tk hi ⟨vr, c, a1, b1, c1, d1, hfl, rfl, rfl⟩ F' N'
    obtain ⟨j0, j, va, vb, hj, hj1, hcase, ha0, ha1, hcc, hcb, hab, hva, hvb⟩ := hcut i hi
    have hz : vr.toArray.size ≤ sizeLine := by
      rw [sizeLine_eq, List.size_toArray, hfl.length, List.length_take]
      omega
    rcases hcase with ⟨hle, rfl⟩ | ⟨hgt, rfl⟩
    · k_steps
      exact QJ_next (by omega) hfl (by assumption)
    · k_steps
      exact QJ_next (by omega) hfl (by assumption)
  case fin =>
    rintro m1 news1 h tk ⟨vr, c, a1, b1, c1, d1, hfl, rfl, rfl⟩ F' N'
    have hfl' : FlAre vr cuts := by
      rw [List.take_of_length_le (by omega)] at hfl
      exact hfl
    k_steps
    rename News h₀ _ _ _ => NN
    exact hQ _ _ _ _ _ hfl' (by assumption) (drop_news NN (fun q hq => .tail _ hq)) rfl rfl rfl
theorem quant_kw (w : World) (p : Program) (loose : List Str) (mean : ExcName → Option Value) (mg mb : Str → Option Value)
   (dp un : Nat) (gd : Option (List Code)) (cn : Str) (cs : Scope) (a : Addr) (ccd : Value) (cl : List (Str × Addr)) (outer : List Env) (A₀ : Around) (base h₀ : Heap) (L : Addr) (m : Str → Option Value) (s : Shared) (Q E : Value → Shared → Prop)
   (B : Below A₀ base outer h₀) (F : Fr h₀ L s.heap m) (KX : (hd.heap_39 w.params).In h₀) (news : List (Addr × Obj)) (lx : Addr) (vx : List Value) (kx : Nat) (N₀ : News h₀ L s.heap ((lx, listOf vx.toArray kx) :: news)) (T : Top p loose mean mg mb h₀) (hk : cs.kind = .function)
   (xs ys cuts : List Int) (n : Nat) (ix : IntsAre vx xs) (sx : vx.toArray.size = n) (n2 : 2 ≤ n) (n64 : n < 64) (n1000 : n ≤ 1000) (hys : SortOf ys xs) (ly : ys.length ≤ 1000)
   (N : Int) (tn : Tok) (hN : 2 ≤ N ∧ N ≤ 1000) (cnt : Nat) (hsm : Builtin.Range.small 1 N 1 = true) (hsz : Builtin.Range.rangeSize 1 N 1 = (cnt : Int)) (hcl : cuts.length = cnt) (hcl2 : cnt ≤ 1000) (hcut : ∀ i, i < cnt → CutStep ys N n i (cuts.getD i 0))
   (hQ : ∀ R vr c s', FlAre vr cuts → Fr h₀ L s'.heap m → News h₀ L s'.heap ((R, listOf vr.toArray c) :: (lx, listOf vx.toArray kx) :: news) → s'.gens = s.gens → s'.drawn = s.drawn → s'.os = s.os → Q (.ref R) s')
   (hd1 : dp + 10 < recursionLimit) (hu1 : un + 40 < cLine) :
   wpAny (model PySem.Challenge.pw_rw0072_01 w) (ktrTop dp un gd cn cs L a ccd cl outer) (call (.ref 92) [.ref lx] [(Str.ofString "n", .int N tn)]) Q E s := by
  repeat ((fail_if_success (with_reducible show wpAny _ _ (execs (_ :: _) _) _ _ _)); (first | (k_unfold; (try dsimp only)) | walk1 | (dsimp only; walk1)))
  rename Below _ _ _ _ => zB
  rename Fr _ _ _ (fun _ => _) => zF
  rename News _ _ _ _ => zN
  rename Frag.In _ _ => zX
  rename Top _ _ _ _ _ _ => zT
  refine quant_body w p loose mean mg mb dp un gd cn cs a ccd cl outer base _ L _ _ _ _ N _ _ lx _ _ rfl zB zF zX news vx kx zN zT hk xs ys cuts n ix sx n2 n64 n1000 hys ly hN cnt hsm hsz hcl hcl2 hcut ?_ hd1 hu1
  intro R vr c s' m' hfl F2 N2 e1 e2 e3
  k_steps
  rename News h₀ _ _ _ => NN
  exact hQ _ _ _ _ hfl (by assumption) NN e1 e2 e3
theorem quant_def (w : World) (p : Program) (loose : List Str) (mean : ExcName → Option Value) (mg mb : Str → Option Value)
   (dp un : Nat) (gd : Option (List Code)) (cn : Str) (cs : Scope) (a : Addr) (ccd : Value) (cl : List (Str × Addr)) (outer : List Env) (A₀ : Around) (base h₀ : Heap) (L : Addr) (m : Str → Option Value) (s : Shared) (Q E : Value → Shared → Prop)
   (B : Below A₀ base outer h₀) (F : Fr h₀ L s.heap m) (KX : (hd.heap_39 w.params).In h₀) (news : List (Addr × Obj)) (lx : Addr) (vx : List Value) (kx : Nat) (N₀ : News h₀ L s.heap ((lx, listOf vx.toArray kx) :: news)) (T : Top p loose mean mg mb h₀) (hk : cs.kind = .function)
   (xs ys cuts : List Int) (n : Nat) (ix : IntsAre vx xs) (sx : vx.toArray.size = n) (n2 : 2 ≤ n) (n64 : n < 64) (n1000 : n ≤ 1000) (hys : SortOf ys xs) (ly : ys.length ≤ 1000)
    (cnt : Nat) (hsm : Builtin.Range.small 1 4 1 = true) (hsz : Builtin.Range.rangeSize 1 4 1 = (cnt : Int)) (hcl : cuts.length = cnt) (hcl2 : cnt ≤ 1000) (hcut : ∀ i, i < cnt → CutStep ys 4 n i (cuts.getD i 0))
   (hQ : ∀ R vr c s', FlAre vr cuts → Fr h₀ L s'.heap m → News h₀ L s'.heap ((R, listOf vr.toArray c) :: (lx, listOf vx.toArray kx) :: news) → s'.gens = s.gens → s'.drawn = s.drawn → s'.os = s.os → Q (.ref R) s')
   (hd1 : dp + 10 < recursionLimit) (hu1 : un + 40 < cLine) :
   wpAny (model PySem.Challenge.pw_rw0072_01 w) (ktrTop dp un gd cn cs L a ccd cl outer) (call (.ref 92) [.ref lx]) Q E s := by
  repeat ((fail_if_success (with_reducible show wpAny _ _ (execs (_ :: _) _) _ _ _)); (first | (k_unfold; (try dsimp only)) | walk1 | (dsimp only; walk1)))
  rename Below _ _ _ _ => zB
  rename Fr _ _ _ (fun _ => _) => zF
  rename News _ _ _ _ => zN
  rename Frag.In _ _ => zX
  rename Top _ _ _ _ _ _ => zT
  refine quant_body w p loose mean mg mb dp un gd cn cs a ccd cl outer base _ L _ _ _ _ 4 _ _ lx _ _ rfl zB zF zX news vx kx zN zT hk xs ys cuts n ix sx n2 n64 n1000 hys ly (by decide) cnt hsm hsz hcl hcl2 hcut ?_ hd1 hu1
  intro R vr c s' m' hfl F2 N2 e1 e2 e3
  k_steps
  rename News h₀ _ _ _ => NN
  exact hQ _ _ _ _ hfl (by assumption) NN e1 e2 e3
section kid
theorem filled_kid : True := by
  k_with "subscriptTail Name BinOp ref int" => (k_here; k_dflt (first | (refine item2_str (by assumption) (by k_mem) (by omega) ?_; intro _) | (refine item2_int (by assumption) (by k_mem) (by omega) (by assumption) (by assumption) ?_; intro zzv zzt zzhv zzhlo zzhhi)))
  k_with "subscriptTail Name Name ref int" => (k_here; k_dflt (first | (refine item2_str (by assumption) (by k_mem) (by omega) ?_; intro _) | (refine item2_int (by assumption) (by k_mem) (by omega) (by assumption) (by assumption) ?_; intro zzv zzt zzhv zzhlo zzhhi)))
  k_with "binaryOp Mult str int" => (k_here; k_dflt (refine mul3_v (pick_len (by assumption) (by assumption)) ?_; intro zzz zzt zzk zzhz zzhl))
  k_with "binaryOp Add str str" => (k_here; k_dflt (refine add_v (by first | assumption | exact (by decide : (Str.ofString "229 (").length ≤ 5) | exact (by decide : (Str.ofString ")").length ≤ 1) | exact pick_le (by assumption) (by assumption)) (by first | assumption | exact (by decide : (Str.ofString "229 (").length ≤ 5) | exact (by decide : (Str.ofString ")").length ≤ 1) | exact pick_le (by assumption) (by assumption)) (by omega) ?_; intro zzz zzt zzk zzhz zzhl))
  k_with "call type:str" => (k_here; k_dflt (refine str_int_v (by omega) ?_; intro zzz zzt zzhz zzhl))
  k_with "subscriptTail Call Name cons nil Slice str ref" => (k_here; k_dflt (refine slice1_v (s := ⟨_, _, _, _, _⟩) (by assumption) (by omega) (by assumption) (by assumption) ?_; intro zzz zzh zzt zzk zzhz zzhl zzF zzN))
  k_with "compareOp Eq str str" => (k_here; k_dflt (first | refine eqs_yes (by assumption) ?_ | refine eqs_no (by assumption) ?_))
  trivial
theorem kids_ok (w : World) (p : Program) (loose : List Str) (mean : ExcName → Option Value) (mg mb : Str → Option Value)
   (dp un : Nat) (gd : Option (List Code)) (cn : Str) (cs : Scope) (a : Addr) (ccd : Value) (cl : List (Str × Addr)) (outer : List Env) (A₀ : Around) (base h₀ : Heap) (L : Addr) (m : Str → Option Value) (s : Shared) (Q E : Value → Shared → Prop)
   (B : Below A₀ base outer h₀) (F : Fr h₀ L s.heap m) (KX : (hd.heap_39 w.params).In h₀) (news : List (Addr × Obj)) (lm lh lt : Addr) (f0 f1 : Str) (h0 h1 t0 t1 : Int) (q0 q1 q2 q3 q4 q5 : Tok) (km kh kt : Nat)
   (N₀ : News h₀ L s.heap ((lm, listOf #[.str f0 q0, .str f1 q1] km) :: (lh, listOf #[.int h0 q2, .int h1 q3] kh) :: (lt, listOf #[.int t0 q4, .int t1 q5] kt) :: news)) (T : Top p loose mean mg mb h₀) (hk : cs.kind = .function)
   (hf0 : f0.length = 1) (hf1 : f1.length = 1) (bh0 : 0 ≤ h0 ∧ h0 < 1000) (bh1 : 0 ≤ h1 ∧ h1 < 1000) (bt0 : 0 ≤ t0 ∧ t0 < 100) (bt1 : 0 ≤ t1 ∧ t1 < 100)
   (hQ : ∀ R own refs c s', Kids ⟨f0, f1, h0, h1, t0, t1⟩ 16 own refs → Fr h₀ L s'.heap m → News h₀ L s'.heap ((R, listOf refs.toArray c) :: (lm, listOf #[.str f0 q0, .str f1 q1] km) :: (lh, listOf #[.int h0 q2, .int h1 q3] kh) :: (lt, listOf #[.int t0 q4, .int t1 q5] kt) :: (own ++ news)) → s'.gens = s.gens → s'.drawn = s.drawn → s'.os = s.os → Q (.ref R) s')
   (hd1 : dp + 10 < recursionLimit) (hu1 : un + 40 < cLine) :
   wpAny (model PySem.Challenge.pw_rw0072_01 w) (ktrTop dp un gd cn cs L a ccd cl outer) (call (.ref 150) [.ref lm, .ref lh, .ref lt]) Q E s := by
  obtain ⟨cnt, hcnt⟩ : ∃ c : Nat, c = 16 := ⟨_, rfl⟩
  have hsz : Builtin.Range.rangeSize 0 16 1 = (cnt : Int) := by rw [hcnt]; rfl
  k_steps
  refine rangeRest_of (QK ⟨f0, f1, h0, h1, t0, t1⟩ _ _ [_, _, _] news) ?step ?fin cnt 0 _ _ (Nat.zero_add _) ⟨[], [], _, _, .nil, over_self, rfl, ?nn⟩
  case nn => (simp only [List.nil_append]; exact ne_allLt (by first | assumption | exact And.right (And.right (And.right (by assumption)))))
  case step =>
    rintro i m1 news1 t h tk hi ⟨own, refs, c, vals, hk1, rfl, rfl, hoff⟩ F' N'
    simp only [List.cons_append, List.nil_append] at N'
    have hz : refs.toArray.size ≤ sizeLine := by
      rw [sizeLine_eq, List.size_toArray, hk1.length]
      omega
    by_cases hfl : pick f0 f1 ((0 + (i : Int)) / 8) = pick f0 f1 ((0 + (i : Int)) / 4 % 2)
    · k_steps
      exact kid_host hk1 (flz hfl) (by assumption) (by assumption) ⟨_, over_kid⟩ (zrep (by assumption) (by assumption) (by assumption) (by assumption) (by assumption) (by assumption) (by assumption) (by assumption) (by assumption) (by assumption) (by assumption)) (by assumption) (by assumption) rfl rfl rfl hoff (ne_allLt (by first | assumption | exact And.right (And.right (And.right (And.right (by assumption)))))) (by k_ne) (by k_ne)
    · k_steps
      exact kid_form hk1 (flnz hfl) (by assumption) (by assumption) ⟨_, over_kid⟩ (zrep (by assumption) (by assumption) (by assumption) (by assumption) (by assumption) (by assumption) (by assumption) (by assumption) (by assumption) (by assumption) (by assumption)) rfl rfl rfl hoff (ne_allLt (by first | assumption | exact And.right (And.right (And.right (And.right (by assumption)))))) (by k_ne) (by k_ne)
  case fin =>
    rintro m1 news1 h tk ⟨own, refs, c, vals, hk1, rfl, rfl, hoff⟩ F' N'
    simp only [List.cons_append, List.nil_append] at N'
    k_steps
    rename News h₀ _ _ _ => NN
    subst hcnt
    exact hQ _ _ _ _ _ hk1 (by assumption) (by first | exact NN | exact drop_news NN (fun q hq => .tail _ hq)) rfl rfl rfl
end kid
section segs
local macro_rules | `(tactic| k_all) => `(tactic| (refine off_cons (by k_ne) ?_; k_all))
local macro_rules | `(tactic| walk_at "subscriptTail Name Constant ref int") => `(tactic| (k_here; k_dflt (refine' item_l (N := ?x_N) (hm := ?x_hm) (hi := ?x_hi) (ha := ?x_ha) (hij := ?x_hij) (hl := ?x_hl) (hQ := ?_) ?x_hs; (case x_N => assumption); (case x_hm => k_mem); (case x_hi => with_reducible assumption); (case x_hij => exact rfl); (case x_ha => with_reducible assumption); (case x_hl => omega); (case x_hs => with_unfolding_all rfl); intro _)))
theorem filled_segs : True := by
  k_with_none
  k_with "call ref" => (k_here; refine wpAny_call ?_; k_dflt (first
  | (refine' code_def ?t1qk1 ?t1qk2 ?t1qk3 ?t1qk4 ?t1qk5 ?t1qkA ?t1qkF ?t1qkK ?t1qk6 ?t1qk7 ?t1qk8 ?t1qk9 ?t1qkB ?_ ?t1qc2 ?t1qc3 ?t1qc4 ?t1qc5; (case t1qkA | t1qkF => exact rfl); (case t1qkK => first | assumption | exact rfl); (case t1qk1 | t1qk2 | t1qk3 | t1qk4 | t1qk5 => k_asm); (case t1qk6 | t1qk7 => k_is); (case t1qk8 => ktr_room); (case t1qk9 => walk_at "#b"); (case t1qc5 => decide); (case t1qkB => exact locs rfl); (case t1qc2 | t1qc3 | t1qc4 => exact rfl); k_whole; intro zzg zzL zzh zzFG zzF zzN zzB zzX zzT; (try dsimp only); (try k_lift zzB); (try k_fold))
  | (refine' code_defC ?t1qk1 ?t1qk2 ?t1qk3 ?t1qk4 ?t1qk5 ?t1qkA ?t1qkF ?t1qkK ?t1qk6 ?t1qk7 ?t1qk8 ?t1qk9 ?t1qkB ?t1qkD ?_ ?t1qc2 ?t1qc3 ?t1qc4; (case t1qkA | t1qkF => exact rfl); (case t1qkK => first | assumption | exact rfl); (case t1qk1 | t1qk2 | t1qk3 | t1qk4 | t1qk5 => k_asm); (case t1qk6 | t1qk7 => k_is); (case t1qk8 => ktr_room); (case t1qk9 => walk_at "#b"); (case t1qkB => exact rfl); (case t1qkD => decide); (case t1qc2 | t1qc3 | t1qc4 => exact rfl); k_whole; intro zzg zzL zzh zztk zzcells zzFG zzF zzN zzY zzB zzX zzT zzl; (try have zzlA := natLt (zzl _ (.head _))); (try dsimp only at zzlA); (try dsimp only); (k_cells zzY); (try simp only [List.cons_append, List.nil_append] at zzN); (try k_lift zzB); (try k_fold))))
  k_with "call builtin:math.fsum" => (k_here; k_dflt (refine fsum_is rfl (by assumption) (by assumption) (by k_mem) (by assumption) (by assumption) (by assumption) ?_; intro _ _ _ _ zzhf zzF zzN))
  k_with "call builtin:len" => (k_here; k_dflt (refine ref_len (by assumption) (by k_mem) (by assumption) (by assumption) ?_; intro _))
  k_with "binaryOp Div float int" => (k_here; k_dflt (refine div_fi_is rfl (by assumption) (by omega) (by assumption) (by assumption) ?_; intro _ _ zzhf))
  k_with "eval GeneratorExp" => (k_here; k_dflt (refine' gen_is ?t5qhh ?t5qhroom ?t5qF ?t5qN ?t5qT ?t5qC ?t5qU ?t5qht ?t5qhx ?t5qhl ?t5qhcl ?t5qhcm ?t5qhdc ?t5qhPc ?t5qhPl ?t5qhfx ?t5qhxs ?t5qhb ?t5qhd ?t5qhdb ?t5qhn ?t5qhclos ?t5qhcl2 ?_; (case t5qhh => exact rfl); (case t5qF | t5qN | t5qT => k_asm); (case t5qC => exact codeHas (by assumption)); (case t5qU => k_updF); (case t5qht => assumption); (case t5qhx => exact rfl); (case t5qhl => k_mem); (case t5qhclos => with_unfolding_all rfl); (case t5qhcl => exact rfl); (case t5qhcm => k_mem); (case t5qhdc => assumption); (case t5qhPc => k_ne); (case t5qhPl | t5qhfx | t5qhxs | t5qhb => assumption); (case t5qhd => exact fun _ _ => rfl); (case t5qhdb | t5qhn => assumption); (case t5qhcl2 => exact rfl); (case t5qhroom => ktr_room); k_whole; intro zzI zzC zza zzh zztk zzgs zzot zzz1 zzz2 zzz3 zzz4 zzhb zzht zzF zzN zzhk zzz5 zzz6 zzz7 zzz8 zzG))
  k_with "eval GeneratorExp" => (k_here; k_dflt (refine' gen_is ?t6qhh ?t6qhroom ?t6qF ?t6qN ?t6qT ?t6qC ?t6qU ?t6qht ?t6qhx ?t6qhl ?t6qhcl ?t6qhcm ?t6qhdc ?t6qhPc ?t6qhPl ?t6qhfx ?t6qhxs ?t6qhb ?t6qhd ?t6qhdb ?t6qhn ?t6qhclos ?t6qhcl2 ?_; (case t6qhh => exact rfl); (case t6qF | t6qN | t6qT => k_asm); (case t6qC => exact codeHas (by assumption)); (case t6qU => k_updF); (case t6qht => assumption); (case t6qhx => exact rfl); (case t6qhl => k_mem); (case t6qhclos => with_unfolding_all rfl); (case t6qhcl => exact rfl); (case t6qhcm => k_mem); (case t6qhdc => assumption); (case t6qhPc => k_ne); (case t6qhPl | t6qhfx | t6qhxs | t6qhb => assumption); (case t6qhd => exact fun _ _ => rfl); (case t6qhdb | t6qhn => assumption); (case t6qhcl2 => exact rfl); (case t6qhroom => ktr_room); k_whole; intro zzI zzC zza zzh zztk zzgs zzot zzz1 zzz2 zzz3 zzz4 zzhb zzht zzF zzN zzhk zzz5 zzz6 zzz7 zzz8 zzG))
  k_with "call builtin:math.sumprod" => (k_here; k_dflt (refine' sumprod_are ?t7qhh ?t7qhroom ?t7qF ?t7qN ?t7qT ?t7qG1 ?t7qG2 ?t7qhk ?t7qz1 ?t7qz2 ?t7qz3 ?t7qz4 ?t7qz5 ?t7qz6 ?t7qhLI ?t7qlA ?t7qhkeys ?t7qm1 ?t7qm2 ?t7qm3 ?t7qm4 ?t7qhb1 ?t7qhb2 ?t7qhc ?t7qhcb ?t7qhS ?t7qhn ?_; (case t7qhh => exact rfl); (case t7qhroom => ktr_room); (case t7qF | t7qN | t7qT => k_asm); (case t7qG1 | t7qG2 | t7qhk | t7qz1 | t7qz2 | t7qz3 | t7qz4 | t7qz5 | t7qz6 | t7qhLI | t7qlA => assumption); (case t7qhkeys => exact rfl); (case t7qm1 | t7qm2 | t7qm3 | t7qm4 => k_mem); (case t7qhb1 | t7qhb2 | t7qhc | t7qhcb | t7qhS => assumption); (case t7qhn => omega); k_whole; intro zzf zzu zzs zzhf zzF zzN zzhb zzhd zzho))
  k_with "call builtin:str.find" => (k_here; k_dflt (first | refine find_is (by assumption) ?_ | refine find3_is (by assumption) ?_))
  k_with "subscriptTail Name BinOp str int" => (k_here; k_dflt ((with_reducible show wpAny _ _ (subscriptTail _ _ (Value.str _ _) (Value.int _ _)) _ _ _); refine item_is (by assumption) (by omega) (by omega) (by assumption) ?_))
  k_with "subscriptTail Name Slice str ref" => (k_here; k_dflt ((with_reducible show wpAny _ _ (subscriptTail _ (Expr.Slice (some _) (some _) none _) (Value.str _ _) (Value.ref _)) _ _ _); refine slice_is (s := ⟨_, _, _, _, _⟩) (by assumption) (by assumption) (by assumption) (by assumption) ?_; intro _ _ _ zzF zzN))
  k_with "subscriptTail Name Slice str ref" => (k_here; k_dflt ((with_reducible show wpAny _ _ (subscriptTail _ (Expr.Slice none (some _) none _) (Value.str _ _) (Value.ref _)) _ _ _); refine slice3_is (s := ⟨_, _, _, _, _⟩) (by assumption) (by assumption) (by assumption) (by assumption) ?_; intro _ _ _ zzF zzN))
  k_with "call builtin:str.split" => (k_here; k_dflt (refine split5_is (by assumption) (by assumption) (by assumption) (by assumption) (by assumption) ?_; intro zzD zzt1 zzt2 zzt3 zzt4 zzt5 zzh zzk zzF zzN l1; (try k_lt l1)))
  k_with "compareOp NotEq str str" => (k_here; (first | (with_reducible refine ne_same ?_) | k_dflt (refine ne_diff (by assumption) ?_)))
  k_with "compareOp NotEq int int" => (k_here; (first | (with_reducible refine ne_int_same ?_) | k_dflt (refine ne_int_diff (by assumption) ?_)))
  k_with "call ref" => (k_here; (first | (with_reducible show wpAny _ _ (call (Value.ref 164) _) _ _ _) | (with_reducible show wpAny _ _ (call (Value.ref 157) _) _ _ _)); refine wpAny_call ?_; k_dflt (refine' code_defX0 ?t15qk1 ?t15qk2 ?t15qk3 ?t15qk4 ?t15qk5 ?t15qkA ?t15qkf ?t15qk6 ?t15qk7 ?t15qk8 ?t15qk9 ?t15qkB ?_ ?t15qcK ?t15qc2 ?t15qc3 ?t15qc4 ?t15qc5; (case t15qkA | t15qkf => exact rfl); (case t15qk2 | t15qk1 | t15qk3 | t15qk4 | t15qk5 => k_asm); (case t15qk6 | t15qk7 => k_is); (case t15qk8 => ktr_room); (case t15qk9 => walk_at "#b"); (case t15qkB => exact locs rfl); (case t15qcK => first | assumption | exact rfl); (case t15qc2 | t15qc3 | t15qc4 => exact rfl); (case t15qc5 => decide); k_whole; intro zzg zzL zzh zzFG zzF zzN zzB zzX zzT zzD; (try dsimp only); (try k_lift zzB); (try k_fold)))
  k_with "exec Raise some none" => (k_here; k_dflt (first | (refine' Raise_ownX ?t16qF ?t16qX ?t16qT ?t16qex ?t16qO PySem.F.excBase_ValueError ?t16qh ?_ ?t16qa ?t16qb ?t16qc ?t16qd ?t16qe; (case t16qF | t16qX | t16qT => k_asm); (case t16qO => exact own_of_in (by k_asm) (by k_asm) (by k_is) (by k_exc)); (case t16qex => k_is); (case t16qh => first | rfl | assumption); (case t16qa | t16qb | t16qc | t16qd => rfl); (case t16qe => decide); k_whole) | (refine' Raise_ownX ?t16qF ?t16qX ?t16qT ?t16qex ?t16qO PySem.F.excBase_Exception ?t16qh ?_ ?t16qa ?t16qb ?t16qc ?t16qd ?t16qe; (case t16qF | t16qX | t16qT => k_asm); (case t16qO => exact own_of_in (by k_asm) (by k_asm) (by k_is) (by k_exc)); (case t16qex => k_is); (case t16qh => first | rfl | assumption); (case t16qa | t16qb | t16qc | t16qd => rfl); (case t16qe => decide); k_whole)))
  k_with "exec Try" => (k_here; k_dflt (refine wpAny_Try_except ?_))
  k_with "call builtin:sorted" => (k_here; k_dflt (refine sorted_is (by assumption) (by assumption) (by k_mem) (by assumption) (by assumption) (by assumption) (by assumption) ?_; intro zzD zzv zzc zzh zzF zzN zzi zzn))
  k_with "subscriptTail Name BinOp ref int" => (k_here; k_dflt (first | (refine item_l (by assumption) (by k_mem) (by assumption) (At1.out (by assumption)) (by omega) (by assumption) ?_; intro _) | (refine item_l (by assumption) (by k_mem) (by assumption) (by assumption) (by omega) (by assumption) ?_; intro _)))
  k_with "subscriptTail Name Name ref int" => (k_here; k_dflt (first | (refine item_l (by assumption) (by k_mem) (by assumption) (At1.out (by assumption)) (by omega) (by assumption) ?_; intro _) | (refine item_l (by assumption) (by k_mem) (by assumption) (by assumption) (by omega) (by assumption) ?_; intro _)))
  k_with "binaryOp Div int int" => (k_here; k_dflt (refine div_ii_is rfl (by omega) (by assumption) (by assumption) ?_; intro _ _ zzhf))
  k_with "binaryOp FloorDiv int int" => (k_here; k_dflt (first | (refine fdiv_fact (by assumption) (by omega) (PyProof.noPylong_small (by omega)) ?_; intro _) | (refine fdiv_is (by omega) (PyProof.noPylong_of_log2 (by decide +kernel)) ?_; intro _) | (refine fdiv_is (by omega) (PyProof.noPylong_small (by omega)) ?_; intro _)))
  k_with "binaryOp Mod int int" => (k_here; k_dflt (refine fmod_is (by omega) ?_; intro _))
  k_with "compareOp Eq int int" => (k_here; k_dflt (first | refine eq_no (by omega) ?_ | refine eq_yes (by omega) ?_))
  k_with "compareOp Lt int int" => (k_here; k_dflt (first | refine lt_no (by omega) ?_ | refine lt_yes (by omega) ?_))
  k_with "compareOp Gt int int" => (k_here; k_dflt (first | refine gt_no (by omega) ?_ | refine gt_yes (by omega) ?_))
  k_with "truthy int" => (k_here; k_dflt (refine truthy_yes (by omega) ?_))
  k_with "exec" => ((with_reducible show wpAny _ _ (exec (lawFor _) _) _ _ _); k_dflt (conv => arg 3; arg 1; whnf))
  k_with "exec" => ((with_reducible show wpAny _ _ (exec (lawStmt _) _) _ _ _); k_dflt (conv => arg 3; arg 1; whnf))
  k_with "subscriptTail Constant str BinOp str int" => (k_here; k_dflt (refine mark_is (by omega) ?_))
  k_with "subscriptTail Name Constant ref int" => (k_here; k_dflt (refine item_lit (by assumption) (by k_mem) (by decide) (by decide) (by exact rfl) ?_))
  k_with "subscriptTail Subscript Name Constant Constant ref int" => (k_here; k_dflt (refine item_lit (by assumption) (by k_mem) (by decide) (by decide) (by exact rfl) ?_))
  k_with "eval Name" => (k_here; (with_reducible show wpAny _ _ (eval (Expr.Name _ _) (compEnvC _ _ _ _)) _ _ _); k_dflt (refine LCgL.ld_own (by assumption) (by k_mem) (by assumption) (by assumption) ?_))
  k_with "compareOp NotEq ref ref" => (k_here; k_dflt (refine ne_lists (by assumption) (by k_mem) (by k_mem) ?_ (by (dsimp only [ktrTop]; omega)) ?_))
  k_with "compareOp Eq ref ref" => (k_here; k_dflt (refine eq_lists (by assumption) (by k_mem) (by k_mem) ?_ (by (dsimp only [ktrTop]; omega)) ?_))
  k_with "eval ListComp" => (k_here; (with_reducible show wpAny _ _ (eval (Expr.ListComp _ [⟨_, _, [_], _⟩] _ _) _) _ _ _); k_dflt (refine LCt.ListComp_T (F₀ := by k_asm) (by with_unfolding_all rfl) (by decide) (by rfl) (by decide) (by rfl) ?_))
  k_with "eval ListComp" => (k_here; (with_reducible show wpAny _ _ (eval (Expr.ListComp _ [⟨_, _, [], _⟩] _ _) _) _ _ _); k_dflt (refine LCg.ListComp_U (F₀ := by k_asm) (by with_unfolding_all rfl) (by decide) (by rfl) (by decide) (by rfl) ?_))
  k_with "call ref" => (k_here; (with_reducible show wpAny _ _ (call (Value.ref 150) _) _ _ _); k_dflt (refine' kids_ok (gd := _) (cn := _) (a := _) (ccd := _) (cl := _) (E := _) (B := ?t45qB) (F := ?t45qF) (KX := ?t45qKX) (N₀ := ?t45qN) (T := ?t45qT) (hk := ?t45qhk) (hf0 := ?t45qhf0) (hf1 := ?t45qhf1) (bh0 := ?t45qbh0) (bh1 := ?t45qbh1) (bt0 := ?t45qbt0) (bt1 := ?t45qbt1) (hQ := ?_) (hd1 := ?t45qhd1) (hu1 := ?t45qhu1); (case t45qB | t45qF | t45qKX | t45qN | t45qT => k_asm); (case t45qhk => exact rfl); (case t45qhf0 | t45qhf1 | t45qbh0 | t45qbh1 | t45qbt0 | t45qbt1 => with_reducible assumption); (case t45qhd1 | t45qhu1 => omega); k_whole; intro zzR zzown zzrefs zzc zzs zzhk zzF zzN zzg1 zzg2 zzg3))
  k_with "call ref" => (k_here; (with_reducible show wpAny _ _ (call (Value.ref 157) _) _ _ _); k_dflt (refine' told_ok (t := _) (gd := _) (cn := _) (a := _) (ccd := _) (cl := _) (E := _) (B := ?t46qB) (F := ?t46qF) (KX := ?t46qKX) (N := ?t46qN) (T := ?t46qT) (hk := ?t46qhk) (hxl := ?t46qa1) (hx3 := ?t46qa2) (hf1 := ?t46qa3) (hf2 := ?t46qa4) (hr := ?t46qa5) (hr2 := ?t46qa6) (hi1 := ?t46qa7) (hi2 := ?t46qa8) (hsl := ?t46qa9) (hyl := ?t46qb1) (hmk := ?t46qb2) (hsp := ?t46qb3) (hn := ?t46qb4) (hDl := ?t46qb5) (hQ := ?_) (hd1 := ?t46qhd1) (hu1 := ?t46qhu1); (case t46qB | t46qF | t46qKX | t46qN | t46qT => k_asm); (case t46qhk => exact rfl); (case t46qa1 | t46qa2 | t46qa3 | t46qa7 | t46qb2 | t46qb4 | t46qa4 | t46qa5 | t46qa6 | t46qa8 | t46qa9 | t46qb1 | t46qb3 | t46qb5 => with_reducible assumption); (case t46qhd1 | t46qhu1 => omega); k_whole; intro zzR zzt1 zzt2 zzc zzs zzlt zzF zzN zzg1 zzg2 zzg3))
  k_with "call ref" => (k_here; (with_reducible show wpAny _ _ (call (Value.ref 157) _) _ _ _); k_dflt (refine' told_ref (t := _) (gd := _) (cn := _) (a := _) (ccd := _) (cl := _) (E := _) (B := ?t47qB) (XB := ?t47qXB) (TB := ?t47qTB) (F := ?t47qF) (KX := ?t47qKX) (N := ?t47qN) (T := ?t47qT) (hk := ?t47qhk) (hxl := ?t47qa1) (hx3 := ?t47qa2) (hf1 := ?t47qa3) (hf2 := ?t47qa4) (hr := ?t47qa5) (hr2 := ?t47qa6) (hi1 := ?t47qa7) (hi2 := ?t47qa8) (hne := ?t47qa9) (hQ := ?_) (hd1 := ?t47qhd1) (hu1 := ?t47qhu1); (case t47qB => k_asm); (case t47qXB | t47qTB => with_reducible assumption); (case t47qF | t47qKX | t47qN | t47qT => k_asm); (case t47qhk => exact rfl); (case t47qa1 | t47qa2 | t47qa3 | t47qa9 | t47qa4 | t47qa5 | t47qa6 | t47qa7 | t47qa8 => with_reducible assumption); (case t47qhd1 | t47qhu1 => omega); k_whole; intro zzR zzt1 zzt2 zzc zzs zzlt zzF zzN zzg1 zzg2 zzg3))
  k_with "call ref" => (k_here; (with_reducible show wpAny _ _ (call (Value.ref 63) _) _ _ _); k_dflt (refine' fmean_ok  (gd := _) (cn := _) (a := _) (ccd := _) (cl := _) (E := _) (B := ?t48qx_B) (F := ?t48qx_F) (KX := ?t48qx_KX) (N := ?t48qx_N) (T := ?t48qx_T) (hk := ?t48qx_hk) (ix := ?t48qx_ix) (sx := ?t48qx_sx) (n1000 := ?t48qx_n1000) (nx := ?t48qx_nx) (bx := ?t48qx_bx) (n2 := ?t48qx_n2) (hc := ?t48qx_hc) (cb := ?t48qx_cb) (hd1 := ?t48qx_hd1) (hu1 := ?t48qx_hu1) (hQ := ?_); (case t48qx_B | t48qx_F | t48qx_KX | t48qx_N | t48qx_T => k_asm); (case t48qx_hk => exact rfl); (case t48qx_ix => walk_at "#i"); (case t48qx_sx => walk_at "#s"); (case t48qx_n1000 => walk_at "#o"); (case t48qx_nx => walk_at "#n"); (case t48qx_bx => with_reducible assumption); (case t48qx_n2 => walk_at "#o"); (case t48qx_hc | t48qx_cb => with_reducible assumption); (case t48qx_hd1 | t48qx_hu1 => omega); k_whole; intro zzf zzt zzs zzhf zzF zzN zzg1 zzg2 zzg3; obtain ⟨zzh1, zzk1, zze1⟩ := shared_ex zzg1 zzg2 zzg3; subst zze1; clear zzg1 zzg2 zzg3; (try dsimp only at zzF zzN)))
  k_with "call ref" => (k_here; (with_reducible show wpAny _ _ (call (Value.ref 70) _) _ _ _); k_dflt (refine' median_even  (gd := _) (cn := _) (a := _) (ccd := _) (cl := _) (E := _) (B := ?t49qx_B) (F := ?t49qx_F) (KX := ?t49qx_KX) (N := ?t49qx_N) (T := ?t49qx_T) (hk := ?t49qx_hk) (ix := ?t49qx_ix) (sx := ?t49qx_sx) (n1000 := ?t49qx_n1000) (nx := ?t49qx_nx) (bx := ?t49qx_bx) (hys := ?t49qx_hys) (n64 := ?t49qx_n64) (ly := ?t49qx_ly) (hn := ?t49qx_hn) (k1 := ?t49qx_k1) (a0 := ?t49qx_a0) (a1 := ?t49qx_a1) (hc := ?t49qx_hc) (cb := ?t49qx_cb) (vb := ?t49qx_vb) (hd1 := ?t49qx_hd1) (hu1 := ?t49qx_hu1) (hQ := ?_); (case t49qx_B | t49qx_F | t49qx_KX | t49qx_N | t49qx_T => k_asm); (case t49qx_hk => exact rfl); (case t49qx_ix => walk_at "#i"); (case t49qx_sx => walk_at "#s"); (case t49qx_n1000 => walk_at "#o"); (case t49qx_nx => walk_at "#n"); (case t49qx_bx | t49qx_hys => with_reducible assumption); (case t49qx_n64 => walk_at "#o"); (case t49qx_ly | t49qx_hn | t49qx_k1 | t49qx_a0 | t49qx_a1 | t49qx_hc | t49qx_cb | t49qx_vb => with_reducible assumption); (case t49qx_hd1 | t49qx_hu1 => omega); k_whole; intro zzf zzt zzs zzhf zzF zzN zzg1 zzg2 zzg3; obtain ⟨zzh1, zzk1, zze1⟩ := shared_ex zzg1 zzg2 zzg3; subst zze1; clear zzg1 zzg2 zzg3; (try dsimp only at zzF zzN)))
  k_with "call ref" => (k_here; (with_reducible show wpAny _ _ (call (Value.ref 70) _) _ _ _); k_dflt (refine' median_odd  (gd := _) (cn := _) (a := _) (ccd := _) (cl := _) (E := _) (B := ?t50qx_B) (F := ?t50qx_F) (KX := ?t50qx_KX) (N := ?t50qx_N) (T := ?t50qx_T) (hk := ?t50qx_hk) (ix := ?t50qx_ix) (sx := ?t50qx_sx) (n1000 := ?t50qx_n1000) (nx := ?t50qx_nx) (bx := ?t50qx_bx) (hys := ?t50qx_hys) (n64 := ?t50qx_n64) (ly := ?t50qx_ly) (hn := ?t50qx_hn) (a0 := ?t50qx_a0) (hd1 := ?t50qx_hd1) (hu1 := ?t50qx_hu1) (hQ := ?_); (case t50qx_B | t50qx_F | t50qx_KX | t50qx_N | t50qx_T => k_asm); (case t50qx_hk => exact rfl); (case t50qx_ix => walk_at "#i"); (case t50qx_sx => walk_at "#s"); (case t50qx_n1000 => walk_at "#o"); (case t50qx_nx => walk_at "#n"); (case t50qx_bx | t50qx_hys => with_reducible assumption); (case t50qx_n64 => walk_at "#o"); (case t50qx_ly | t50qx_a0 => with_reducible assumption); (case t50qx_hn => first | with_reducible assumption | exact rfl); (case t50qx_hd1 | t50qx_hu1 => omega); k_whole; intro zzt zzs zzF zzN zzg1 zzg2 zzg3; obtain ⟨zzh1, zzk1, zze1⟩ := shared_ex zzg1 zzg2 zzg3; subst zze1; clear zzg1 zzg2 zzg3; (try dsimp only at zzF zzN)))
  k_with "call ref" => (k_here; (with_reducible show wpAny _ _ (call (Value.ref 77) _) _ _ _); k_dflt (refine' low_even  (gd := _) (cn := _) (a := _) (ccd := _) (cl := _) (E := _) (B := ?t51qx_B) (F := ?t51qx_F) (KX := ?t51qx_KX) (N := ?t51qx_N) (T := ?t51qx_T) (hk := ?t51qx_hk) (ix := ?t51qx_ix) (sx := ?t51qx_sx) (n1000 := ?t51qx_n1000) (nx := ?t51qx_nx) (bx := ?t51qx_bx) (hys := ?t51qx_hys) (n64 := ?t51qx_n64) (ly := ?t51qx_ly) (hn := ?t51qx_hn) (k1 := ?t51qx_k1) (a0 := ?t51qx_a0) (hd1 := ?t51qx_hd1) (hu1 := ?t51qx_hu1) (hQ := ?_); (case t51qx_B | t51qx_F | t51qx_KX | t51qx_N | t51qx_T => k_asm); (case t51qx_hk => exact rfl); (case t51qx_ix => walk_at "#i"); (case t51qx_sx => walk_at "#s"); (case t51qx_n1000 => walk_at "#o"); (case t51qx_nx => walk_at "#n"); (case t51qx_bx | t51qx_hys => with_reducible assumption); (case t51qx_n64 => walk_at "#o"); (case t51qx_ly | t51qx_hn | t51qx_k1 | t51qx_a0 => with_reducible assumption); (case t51qx_hd1 | t51qx_hu1 => omega); k_whole; intro zzt zzs zzF zzN zzg1 zzg2 zzg3; obtain ⟨zzh1, zzk1, zze1⟩ := shared_ex zzg1 zzg2 zzg3; subst zze1; clear zzg1 zzg2 zzg3; (try dsimp only at zzF zzN)))
  k_with "call ref" => (k_here; (with_reducible show wpAny _ _ (call (Value.ref 77) _) _ _ _); k_dflt (refine' low_odd  (gd := _) (cn := _) (a := _) (ccd := _) (cl := _) (E := _) (B := ?t52qx_B) (F := ?t52qx_F) (KX := ?t52qx_KX) (N := ?t52qx_N) (T := ?t52qx_T) (hk := ?t52qx_hk) (ix := ?t52qx_ix) (sx := ?t52qx_sx) (n1000 := ?t52qx_n1000) (nx := ?t52qx_nx) (bx := ?t52qx_bx) (hys := ?t52qx_hys) (n64 := ?t52qx_n64) (ly := ?t52qx_ly) (hn := ?t52qx_hn) (a0 := ?t52qx_a0) (hd1 := ?t52qx_hd1) (hu1 := ?t52qx_hu1) (hQ := ?_); (case t52qx_B | t52qx_F | t52qx_KX | t52qx_N | t52qx_T => k_asm); (case t52qx_hk => exact rfl); (case t52qx_ix => walk_at "#i"); (case t52qx_sx => walk_at "#s"); (case t52qx_n1000 => walk_at "#o"); (case t52qx_nx => walk_at "#n"); (case t52qx_bx | t52qx_hys => with_reducible assumption); (case t52qx_n64 => walk_at "#o"); (case t52qx_ly | t52qx_a0 => with_reducible assumption); (case t52qx_hn => first | with_reducible assumption | exact rfl); (case t52qx_hd1 | t52qx_hu1 => omega); k_whole; intro zzt zzs zzF zzN zzg1 zzg2 zzg3; obtain ⟨zzh1, zzk1, zze1⟩ := shared_ex zzg1 zzg2 zzg3; subst zze1; clear zzg1 zzg2 zzg3; (try dsimp only at zzF zzN)))
  k_with "call ref" => (k_here; (with_reducible show wpAny _ _ (call (Value.ref 84) _) _ _ _); k_dflt (refine' high_any  (gd := _) (cn := _) (a := _) (ccd := _) (cl := _) (E := _) (B := ?t53qx_B) (F := ?t53qx_F) (KX := ?t53qx_KX) (N := ?t53qx_N) (T := ?t53qx_T) (hk := ?t53qx_hk) (ix := ?t53qx_ix) (sx := ?t53qx_sx) (n1000 := ?t53qx_n1000) (nx := ?t53qx_nx) (bx := ?t53qx_bx) (hys := ?t53qx_hys) (n64 := ?t53qx_n64) (ly := ?t53qx_ly) (n2 := ?t53qx_n2) (hn := ?t53qx_hn) (a0 := ?t53qx_a0) (hd1 := ?t53qx_hd1) (hu1 := ?t53qx_hu1) (hQ := ?_); (case t53qx_B | t53qx_F | t53qx_KX | t53qx_N | t53qx_T => k_asm); (case t53qx_hk => exact rfl); (case t53qx_ix => walk_at "#i"); (case t53qx_sx => walk_at "#s"); (case t53qx_n1000 => walk_at "#o"); (case t53qx_nx => walk_at "#n"); (case t53qx_bx | t53qx_hys => with_reducible assumption); (case t53qx_n64 => walk_at "#o"); (case t53qx_ly => with_reducible assumption); (case t53qx_n2 => walk_at "#o"); (case t53qx_hn => first | with_reducible assumption | exact (rfl : 3 / 2 = 1)); (case t53qx_a0 => with_reducible assumption); (case t53qx_hd1 | t53qx_hu1 => omega); k_whole; intro zzt zzs zzF zzN zzg1 zzg2 zzg3; obtain ⟨zzh1, zzk1, zze1⟩ := shared_ex zzg1 zzg2 zzg3; subst zze1; clear zzg1 zzg2 zzg3; (try dsimp only at zzF zzN)))
  k_with "call ref" => (k_here; (with_reducible show wpAny _ _ (call (Value.ref 92) _ _) _ _ _); k_dflt (refine' quant_kw (tn := _) (gd := _) (cn := _) (a := _) (ccd := _) (cl := _) (E := _) (B := ?t54qx_B) (F := ?t54qx_F) (KX := ?t54qx_KX) (N₀ := ?t54qx_N₀) (T := ?t54qx_T) (hk := ?t54qx_hk) (ix := ?t54qx_ix) (sx := ?t54qx_sx) (n1000 := ?t54qx_n1000) (n2 := ?t54qx_n2) (hys := ?t54qx_hys) (n64 := ?t54qx_n64) (ly := ?t54qx_ly) (hN := ?t54qx_hN) (hsm := ?t54qx_hsm) (hsz := ?t54qx_hsz) (hcl := ?t54qx_hcl) (hcl2 := ?t54qx_hcl2) (hcut := ?t54qx_hcut) (hd1 := ?t54qx_hd1) (hu1 := ?t54qx_hu1) (hQ := ?_); (case t54qx_B | t54qx_F | t54qx_KX | t54qx_N₀ | t54qx_T => k_asm); (case t54qx_hk => exact rfl); (case t54qx_ix => walk_at "#i"); (case t54qx_sx => walk_at "#s"); (case t54qx_n1000 | t54qx_n2 => walk_at "#o"); (case t54qx_hys => with_reducible assumption); (case t54qx_n64 => walk_at "#o"); (case t54qx_ly | t54qx_hN | t54qx_hsm | t54qx_hsz | t54qx_hcut | t54qx_hcl => with_reducible assumption); (case t54qx_hcl2 => first | with_reducible assumption | exact Nat.le_of_ble_eq_true rfl | omega); (case t54qx_hd1 | t54qx_hu1 => omega); k_whole; intro zzR zzvr zzc zzs zzhf zzF zzN zzg1 zzg2 zzg3; obtain ⟨zzh1, zzk1, zze1⟩ := shared_ex zzg1 zzg2 zzg3; subst zze1; clear zzg1 zzg2 zzg3; (try dsimp only at zzF zzN)))
  k_with "call ref" => (k_here; (with_reducible show wpAny _ _ (call (Value.ref 92) _) _ _ _); k_dflt (refine' quant_def  (gd := _) (cn := _) (a := _) (ccd := _) (cl := _) (E := _) (B := ?t55qx_B) (F := ?t55qx_F) (KX := ?t55qx_KX) (N₀ := ?t55qx_N₀) (T := ?t55qx_T) (hk := ?t55qx_hk) (ix := ?t55qx_ix) (sx := ?t55qx_sx) (n1000 := ?t55qx_n1000) (n2 := ?t55qx_n2) (hys := ?t55qx_hys) (n64 := ?t55qx_n64) (ly := ?t55qx_ly) (hsm := ?t55qx_hsm) (hsz := ?t55qx_hsz) (hcl := ?t55qx_hcl) (hcl2 := ?t55qx_hcl2) (hcut := ?t55qx_hcut) (hd1 := ?t55qx_hd1) (hu1 := ?t55qx_hu1) (hQ := ?_); (case t55qx_B | t55qx_F | t55qx_KX | t55qx_N₀ | t55qx_T => k_asm); (case t55qx_hk => exact rfl); (case t55qx_ix => walk_at "#i"); (case t55qx_sx => walk_at "#s"); (case t55qx_n1000 | t55qx_n2 => walk_at "#o"); (case t55qx_hys => with_reducible assumption); (case t55qx_n64 => walk_at "#o"); (case t55qx_ly => with_reducible assumption); (case t55qx_hsm => exact rfl); (case t55qx_hsz => exact (rfl : Builtin.Range.rangeSize 1 4 1 = ((3 : Nat) : Int))); (case t55qx_hcut | t55qx_hcl => with_reducible assumption); (case t55qx_hcl2 => first | with_reducible assumption | exact Nat.le_of_ble_eq_true rfl | omega); (case t55qx_hd1 | t55qx_hu1 => omega); k_whole; intro zzR zzvr zzc zzs zzhf zzF zzN zzg1 zzg2 zzg3; obtain ⟨zzh1, zzk1, zze1⟩ := shared_ex zzg1 zzg2 zzg3; subst zze1; clear zzg1 zzg2 zzg3; (try dsimp only at zzF zzN)))
  k_with "binaryOp Mult int float" => (k_here; k_dflt (refine mul_if_is rfl (by assumption) (by omega) (by omega) ?_; intro zzg zzt zzhf))
  k_with "call builtin:sorted" => (k_here; k_dflt (refine sorted_is (by assumption) (by assumption) (by k_mem) ia3 sz3 (by omega) (by assumption) ?_; intro zzD zzv zzc zzh zzF zzN zzi zzn))
  k_with "call ref" => (k_here; (with_reducible show wpAny _ _ (call (Value.ref 164) _) _ _ _); k_dflt (refine' tog_ok (gd := _) (cn := _) (a := _) (ccd := _) (cl := _) (E := _) (B := ?t58qx_B) (F := ?t58qx_F) (KX := ?t58qx_KX) (N := ?t58qx_N) (hot := ?t58qx_hot) (nlx := ?t58qx_nlx) (nly := ?t58qx_nly) (off := ?t58qx_off) (T := ?t58qx_T) (hk := ?t58qx_hk) (ix := ?t58qx_ix) (iy := ?t58qx_iy) (sx := ?t58qx_sx) (sy := ?t58qx_sy) (n2 := ?t58qx_n2) (n1000 := ?t58qx_n1000) (hcx := ?t58qx_hcx) (hcy := ?t58qx_hcy) (cxb := ?t58qx_cxb) (cyb := ?t58qx_cyb) (bx := ?t58qx_bx) (by' := ?t58qx_byq) (hdx := ?t58qx_hdx) (hdy := ?t58qx_hdy) (he := ?t58qx_he) (heb := ?t58qx_heb) (hes := ?t58qx_hes) (hR := ?t58qx_hR) (hRb := ?t58qx_hRb) (nx := ?t58qx_nx) (ny := ?t58qx_ny) (hd1 := ?t58qx_hd1) (hu1 := ?t58qx_hu1) (hQ := ?_); (case t58qx_B | t58qx_F | t58qx_KX => k_asm); (case t58qx_N => first | with_reducible assumption | exact tog_dup (by with_reducible assumption) | exact tog_two (by with_reducible assumption)); (case t58qx_hot => with_reducible assumption); (case t58qx_nlx | t58qx_nly => first | with_reducible assumption | k_ne); (case t58qx_off => first | with_reducible assumption | k_all); (case t58qx_T => k_asm); (case t58qx_hk => exact rfl); (case t58qx_ix | t58qx_iy => walk_at "#i"); (case t58qx_sx | t58qx_sy => walk_at "#s"); (case t58qx_n2 | t58qx_n1000 => walk_at "#o"); (case t58qx_hcx | t58qx_hcy | t58qx_cxb | t58qx_cyb | t58qx_bx | t58qx_byq | t58qx_hdx | t58qx_hdy | t58qx_he | t58qx_heb | t58qx_hes | t58qx_hR | t58qx_hRb => with_reducible assumption); (case t58qx_nx | t58qx_ny => walk_at "#n"); (case t58qx_hd1 | t58qx_hu1 => omega); k_whole; intro zzf zzu zzs zzot zzhf zzhot zzF zzN zzg1 zzg2 zzg3))
  k_with "call ref" => (k_here; (with_reducible show wpAny _ _ (call (Value.ref 164) _) _ _ _); k_dflt (refine' tog_ok (gd := _) (cn := _) (a := _) (ccd := _) (cl := _) (E := _) (B := ?t59qx_B) (F := ?t59qx_F) (KX := ?t59qx_KX) (N := ?t59qx_N) (hot := ?t59qx_hot) (nlx := ?t59qx_nlx) (nly := ?t59qx_nly) (off := ?t59qx_off) (T := ?t59qx_T) (hk := ?t59qx_hk) (ix := ?t59qx_ix) (iy := ?t59qx_iy) (sx := ?t59qx_sx) (sy := ?t59qx_sy) (n2 := ?t59qx_n2) (n1000 := ?t59qx_n1000) (hcx := ?t59qx_hcx) (hcy := ?t59qx_hcy) (cxb := ?t59qx_cxb) (cyb := ?t59qx_cyb) (bx := ?t59qx_bx) (by' := ?t59qx_byq) (hdx := ?t59qx_hdx) (hdy := ?t59qx_hdy) (he := ?t59qx_he) (heb := ?t59qx_heb) (hes := ?t59qx_hes) (hR := ?t59qx_hR) (hRb := ?t59qx_hRb) (nx := ?t59qx_nx) (ny := ?t59qx_ny) (hd1 := ?t59qx_hd1) (hu1 := ?t59qx_hu1) (hQ := ?_); (case t59qx_B | t59qx_F | t59qx_KX => k_asm); (case t59qx_N => first | with_reducible assumption | exact tog_dup (by with_reducible assumption) | exact tog_two (by with_reducible assumption)); (case t59qx_hot => with_reducible assumption); (case t59qx_nlx | t59qx_nly => first | with_reducible assumption | k_ne); (case t59qx_off => first | with_reducible assumption | k_all); (case t59qx_T => k_asm); (case t59qx_hk => exact rfl); (case t59qx_ix | t59qx_iy => walk_at "#i"); (case t59qx_sx | t59qx_sy => walk_at "#s"); (case t59qx_n2 | t59qx_n1000 => walk_at "#o"); (case t59qx_hcx | t59qx_hcy | t59qx_cxb | t59qx_cyb | t59qx_bx | t59qx_byq | t59qx_hdx | t59qx_hdy | t59qx_he | t59qx_heb | t59qx_hes | t59qx_hR | t59qx_hRb => with_reducible assumption); (case t59qx_nx | t59qx_ny => walk_at "#n"); (case t59qx_hd1 | t59qx_hu1 => omega); k_whole; intro zzf zzu zzs zzot zzhf zzhot zzF zzN zzg1 zzg2 zzg3))
  trivial
section
variable (w : World) (p : Program) (loose : List Str) (mean : ExcName → Option Value) (mg mb : Str → Option Value)
   (dp un : Nat) (gd : Option (List Code)) (cn : Str) (a : Addr) (ccd : Value) (cl : List (Str × Addr)) (A₀ : Around) (base h₀ : Heap) (L : Addr) (m : Str → Option Value) (s : Shared) (Q : Flow → Shared → Prop) (E : Value → Shared → Prop)
   (B : Below A₀ base [] h₀) (XB : (hd.heap_39 w.params).In base) (TB : Top p loose mean mg mb base) (KX : (hd.heap_39 w.params).In h₀) (T : Top p loose mean mg mb h₀)
   (hd1 : dp + 12 < recursionLimit) (hu1 : un + 60 < cLine)
   (F : Fr h₀ L s.heap m)
include B XB TB KX T hd1 hu1 F
theorem seg0 (news : List (Addr × Obj)) (N : News h₀ L s.heap news) (ls : Addr) (vs : List Value) (ns : List Int) (hs : m (Str.ofString "script") = some (.ref ls)) (hl : h₀.IsList ls vs.toArray) (hi : IntsAre vs ns) (hn : ns.length ≤ 63)
   (hQ : ∀ D t1 t2 t3 t4 n1 n2 n3 n4 c s', Fr h₀ L s'.heap (fun y => if y = Str.ofString "numbers" then some (.ref D) else m y) → News h₀ L s'.heap ((D, listOf #[.int n1 t1, .int n2 t2, .int n3 t3, .int n4 t4] c) :: news) → s'.gens = s.gens → s'.drawn = s.drawn → s'.os = s.os → Q .next s') :
   wpAny (model PySem.Challenge.pw_rw0072_01 w) (ktrTop dp un gd cn lawScope L a ccd cl []) (exec (lawStmt 0) (envX cn lawScope L a ccd cl)) Q E s := by
  conv => arg 3; arg 1; whnf
  obtain ⟨m₀, rfl⟩ : ∃ m₀, m = fun y => if y = Str.ofString "script" then some (.ref ls) else m₀ y := ⟨m, pull hs⟩
  (try dsimp only)
  k_steps
  rename IntsAre _ (List.take _ _) => hI
  rename News h₀ _ _ _ => NN
  rename Fr h₀ _ _ _ => FF
  obtain ⟨n1, n2, n3, n4, t1, t2, t3, t4, rfl⟩ := ints4 hI (by simp)
  exact hQ _ _ _ _ _ _ _ _ _ _ _ FF (drop_news NN (fun q hq => .tail _ (.tail _ hq))) rfl rfl rfl
theorem seg1 (news : List (Addr × Obj)) (D : Addr) (n1 n2 n3 n4 : Int) (t1 t2 t3 t4 : Tok) (c : Nat) (N : News h₀ L s.heap ((D, listOf #[.int n1 t1, .int n2 t2, .int n3 t3, .int n4 t4] c) :: news)) (hs : m (Str.ofString "numbers") = some (.ref D))
   (hQ : ∀ lm lh lt q0 q1 q2 q3 q4 q5 km kh kt s', Fr h₀ L s'.heap (fun y => if y = Str.ofString "tails" then some (.ref lt) else if y = Str.ofString "heads" then some (.ref lh) else if y = Str.ofString "marks" then some (.ref lm) else m y) → News h₀ L s'.heap ((lm, listOf #[.str (mkAt (n1 / 1000 % 3)) q0, .str (mkAt (n3 / 1000 % 3)) q1] km) :: (lh, listOf #[.int (n1 % 1000) q2, .int (n3 % 1000) q3] kh) :: (lt, listOf #[.int (n2 % 100) q4, .int (n4 % 100) q5] kt) :: news) → s'.gens = s.gens → s'.drawn = s.drawn → s'.os = s.os → Q .next s') :
   wpAny (model PySem.Challenge.pw_rw0072_01 w) (ktrTop dp un gd cn lawScope L a ccd cl []) (execs [lawStmt 1, lawStmt 2, lawStmt 3] (envX cn lawScope L a ccd cl)) Q E s := by
  obtain ⟨m₀, rfl⟩ : ∃ m₀, m = fun y => if y = Str.ofString "numbers" then some (.ref D) else m₀ y := ⟨m, pull hs⟩
  k_steps
  rename News h₀ _ _ _ => NN
  rename Fr h₀ _ _ _ => FF

  try simp only [show [n1, n2, n3, n4].getD (Int.toNat 0) 0 = n1 from rfl, show [n1, n2, n3, n4].getD (Int.toNat 1) 0 = n2 from rfl, show [n1, n2, n3, n4].getD (Int.toNat 2) 0 = n3 from rfl, show [n1, n2, n3, n4].getD (Int.toNat 3) 0 = n4 from rfl] at NN

  have N3 := news_p3 NN


  refine' hQ _ _ _ _ _ _ _ _ _ _ _ _ _ ?a1 ?a2 ?a3 ?a4 ?a5

  case a1 => exact FF

  case a2 => exact N3

  case a3 => rfl

  case a4 => rfl

  case a5 => rfl
theorem seg4 (news : List (Addr × Obj)) (lm lh lt : Addr) (f0 f1 : Str) (h0 h1 t0 t1 : Int) (q0 q1 q2 q3 q4 q5 : Tok) (km kh kt : Nat) (N : News h₀ L s.heap ((lm, listOf #[.str f0 q0, .str f1 q1] km) :: (lh, listOf #[.int h0 q2, .int h1 q3] kh) :: (lt, listOf #[.int t0 q4, .int t1 q5] kt) :: news))
   (hf0 : f0.length = 1) (hf1 : f1.length = 1) (bh0 : 0 ≤ h0 ∧ h0 < 1000) (bh1 : 0 ≤ h1 ∧ h1 < 1000) (bt0 : 0 ≤ t0 ∧ t0 < 100) (bt1 : 0 ≤ t1 ∧ t1 < 100)
   (hm : m (Str.ofString "marks") = some (.ref lm)) (hh : m (Str.ofString "heads") = some (.ref lh)) (ht : m (Str.ofString "tails") = some (.ref lt))
   (hQ : ∀ R own refs c s', Kids ⟨f0, f1, h0, h1, t0, t1⟩ 16 own refs → Fr h₀ L s'.heap (fun y => if y = Str.ofString "children" then some (.ref R) else m y) → News h₀ L s'.heap ((R, listOf refs.toArray c) :: (lm, listOf #[.str f0 q0, .str f1 q1] km) :: (lh, listOf #[.int h0 q2, .int h1 q3] kh) :: (lt, listOf #[.int t0 q4, .int t1 q5] kt) :: (own ++ news)) → s'.gens = s.gens → s'.drawn = s.drawn → s'.os = s.os → Q .next s') :
   wpAny (model PySem.Challenge.pw_rw0072_01 w) (ktrTop dp un gd cn lawScope L a ccd cl []) (exec (lawStmt 4) (envX cn lawScope L a ccd cl)) Q E s := by
  obtain ⟨m₀, rfl⟩ : ∃ m₀, m = fun y => if y = Str.ofString "marks" then some (.ref lm) else if y = Str.ofString "heads" then some (.ref lh) else if y = Str.ofString "tails" then some (.ref lt) else m₀ y := ⟨m, pull3 hm hh ht⟩
  k_steps
  exact hQ _ _ _ _ _ (by assumption) (by assumption) (by assumption) (by assumption) (by assumption) (by assumption)
theorem seg5 (news : List (Addr × Obj)) (R : Addr) (own : List (Addr × Obj)) (refs : List Value) (cR : Nat) (K : KidPar) (hk : AllAt (PKid K own) refs (List.range 16)) (hown : ∀ q ∈ own, q ∈ news) (N : News h₀ L s.heap ((R, listOf refs.toArray cR) :: news))
   (hc : m (Str.ofString "children") = some (.ref R)) (ht : KidText K)
   (hQ : ∀ TR own' trefs c' s', AllAt (PDue K own') trefs (List.range 16) → (∀ q ∈ own', ∃ its n, q.2 = listOf its n) → Fr h₀ L s'.heap (fun y => if y = Str.ofString "told" then some (.ref TR) else m y) → News h₀ L s'.heap ((TR, listOf trefs.toArray c') :: (own' ++ ((R, listOf refs.toArray cR) :: news))) → s'.gens = s.gens → s'.drawn = s.drawn → s'.os = s.os → Q .next s') :
   wpAny (model PySem.Challenge.pw_rw0072_01 w) (ktrTop dp un gd cn lawScope L a ccd cl []) (exec (lawStmt 5) (envX cn lawScope L a ccd cl)) Q E s := by
  obtain ⟨m₀, rfl⟩ : ∃ m₀, m = fun y => if y = Str.ofString "children" then some (.ref R) else m₀ y := ⟨m, pull hc⟩
  conv => arg 3; arg 1; whnf
  refine LCg.Assign_ListComp_U (F₀ := F) (by rfl) (by with_unfolding_all rfl) (by rfl) (by decide) (by rfl) (by decide) (by rfl) (by rfl) (by rfl) ?_
  k_steps
  have hl := hk.length
  refine LCg.CompSrc.ledger (by rfl) F N (.head _) (by rw [sizeLine_eq, List.size_toArray, hl, List.length_range]; omega) ?_
  intro g
  refine told_rest hk (.head _) (fun q hq => .tail _ (hown q hq)) ?step ?fin
  case fin =>
    intro ys own' hJ hcl D h tk F1 N1 o1
    exact hQ D own' ys _ _ hJ hcl F1 N1 rfl rfl rfl
  case step =>
    intro k I oI C oC D ys m₂ h tk E' c d t t1 t2 n rest hk16 hC hx F' N'
    unfold kidObj at N'
    unfold kidObj
    by_cases hf : K.f k = K.l k
    · obtain ⟨r, mk, y, e, DD, b1, b2, b3, b4, b5, b6, b7, b8, b9, b10, b11, b12, b13, b14⟩ := ((ht k hk16).1 hf).out
      k_steps
      exact toldPost_host hf (by assumption) (by assumption) (by assumption) (by assumption) (by assumption) (by assumption)
    · obtain ⟨r, mk, mk', b1, b2, b3, b4, b5, b6, b7, b8, b9⟩ := ((ht k hk16).2 hf).out
      k_steps
      exact toldPost_form hf (by assumption) (by assumption) (by assumption) (by assumption) (by assumption) (by assumption)
theorem seg6 (news : List (Addr × Obj)) (R TR : Addr) (own own' : List (Addr × Obj)) (refs trefs : List Value) (cR cT : Nat) (K : KidPar) (hk : AllAt (PKid K own) refs (List.range 16)) (ht : AllAt (PDue K own') trefs (List.range 16)) (hown : ∀ q ∈ own, q ∈ news) (hown' : ∀ q ∈ own', q ∈ news)
   (N : News h₀ L s.heap ((R, listOf refs.toArray cR) :: (TR, listOf trefs.toArray cT) :: news))
   (hc : m (Str.ofString "children") = some (.ref R)) (htl : m (Str.ofString "told") = some (.ref TR))
   (hQ : ∀ s', Fr h₀ L s'.heap m → News h₀ L s'.heap ((R, listOf refs.toArray cR) :: (TR, listOf trefs.toArray cT) :: news) → s'.gens = s.gens → s'.drawn = s.drawn → s'.os = s.os → Q .next s') :
   wpAny (model PySem.Challenge.pw_rw0072_01 w) (ktrTop dp un gd cn lawScope L a ccd cl []) (exec (lawStmt 6) (envX cn lawScope L a ccd cl)) Q E s := by
  obtain ⟨m₀, rfl⟩ : ∃ m₀, m = fun y => if y = Str.ofString "children" then some (.ref R) else if y = Str.ofString "told" then some (.ref TR) else m₀ y := ⟨m, pull2 hc htl⟩
  conv => arg 3; arg 1; whnf
  k_steps
  refine LCg.CompSrc.ledger (by rfl) F N (.head _) (sz_ok hk.length (by simp)) ?_
  intro g
  refine rest_U (Ps := PKid K own) (Pd := PDue K own) hk (.inr ⟨_, .head _, rfl, _, rfl⟩) ?step ?fin
  case step =>
    rintro k v I oI C oC D ys m₂ h tk E' hk16 ⟨c, d, t, t1, t2, n, rfl, hm, hd⟩ hC hx F' N'
    have N2 := news_front N' (q := (c, kidObj K k d t t1 t2 n)) (.tail _ (.tail _ (.tail _ (.tail _ (.tail _ (hown _ hm))))))
    unfold kidObj at N2
    clear N'
    k_steps
    exact ⟨_, _, rfl, F', drop1 N2, _, rfl, hd⟩
  case fin =>
    intro ys hJ D h tk F1 N1 o1
    k_steps
    · refine eqAll_of ht hJ ?_
      rintro k v w' hk16 ⟨d, rfl, hd⟩ ⟨d', rfl, hd'⟩
      exact due_eq hd hd' (fun q hq => .tail _ (.tail _ (.tail _ (hown' q hq)))) (fun q hq => .tail _ (.tail _ (.tail _ (hown q hq)))) N1 (by (show un + 1 < cLine); omega)
    · exact hQ _ (by assumption) (fun q hq => N1 q (.tail _ hq)) rfl rfl rfl
theorem seg7 (news : List (Addr × Obj)) (R : Addr) (own : List (Addr × Obj)) (refs : List Value) (cR : Nat) (K : KidPar) (hk : AllAt (PKid K own) refs (List.range 16)) (hown : ∀ q ∈ own, q ∈ news)
   (N : News h₀ L s.heap ((R, listOf refs.toArray cR) :: news)) (hc : m (Str.ofString "children") = some (.ref R))
   (hQ : ∀ KR krefs c' s', AllAt (PKid K own) krefs ((List.range 16).filter fun k => decide (K.f k = K.l k)) → Fr h₀ L s'.heap (fun y => if y = Str.ofString "taken" then some (.ref KR) else m y) → News h₀ L s'.heap ((KR, listOf krefs.toArray c') :: (R, listOf refs.toArray cR) :: news) → s'.gens = s.gens → s'.drawn = s.drawn → s'.os = s.os → Q .next s') :
   wpAny (model PySem.Challenge.pw_rw0072_01 w) (ktrTop dp un gd cn lawScope L a ccd cl []) (exec (lawStmt 7) (envX cn lawScope L a ccd cl)) Q E s := by
  obtain ⟨m₀, rfl⟩ : ∃ m₀, m = fun y => if y = Str.ofString "children" then some (.ref R) else m₀ y := ⟨m, pull hc⟩
  conv => arg 3; arg 1; whnf
  refine LCt.Assign_ListComp_T (F₀ := F) (by rfl) (by with_unfolding_all rfl) (by with_unfolding_all rfl) (by decide) (by rfl) (by decide) (by rfl) (by rfl) (by rfl) ?_
  k_steps
  refine LCt.CompSrcT.ledger (by rfl) F N (.head _) (sz_ok hk.length (by simp)) ?_
  intro g
  refine rest_T (t := fun k => decide (K.f k = K.l k)) (Ps := PKid K own) (Pd := PKid K own) hk (.inr ⟨_, .head _, rfl, _, rfl⟩) ?test ?step ?fin
  case test =>
    rintro k v I oI C oC D ys m₂ h tk E' hk16 ⟨c, d, t, t1, t2, n, rfl, hm, hd⟩ hC hx F' N'
    rcases hd with ⟨hf, u, u', cu, hd⟩ | ⟨hf, u, u', cu, hd⟩
    · have N2 := news_front2 N' (q := (c, kidObj K k d t t1 t2 n)) (q2 := (d, hostObj (K.port k) u u' cu)) (.tail _ (.tail _ (.tail _ (.tail _ (hown _ hm))))) (.tail _ (.tail _ (.tail _ (.tail _ (hown _ hd)))))
      unfold kidObj hostObj at N2
      clear N'
      k_steps
      exact ⟨_, _, rfl, F', drop2 N2, (by rw [decide_eq_true hf]; first | rfl | decide)⟩
    · have N2 := news_front2 N' (q := (c, kidObj K k d t t1 t2 n)) (q2 := (d, formObj (K.rep k) u u' cu)) (.tail _ (.tail _ (.tail _ (.tail _ (hown _ hm))))) (.tail _ (.tail _ (.tail _ (.tail _ (hown _ hd)))))
      unfold kidObj formObj at N2
      clear N'
      k_steps
      exact ⟨_, _, rfl, F', drop2 N2, (by rw [decide_eq_false hf]; first | rfl | decide)⟩
  case step =>
    rintro k v I oI C oC D ys m₂ h tk E' hk16 hf hp hC hx F' N'
    k_steps
    exact ⟨_, _, rfl, F', N', hp⟩
  case fin =>
    intro ys hJ D h tk F1 N1 o1
    exact hQ D ys _ _ hJ F1 N1 rfl rfl rfl
theorem seg8 (news : List (Addr × Obj)) (oP : Obj) (vP : Option Value) (hP : oP.data = .cell vP) (TR : Addr) (own' : List (Addr × Obj)) (trefs : List Value) (cT : Nat) (K : KidPar) (ht : AllAt (PDue K own') trefs (List.range 16)) (hown' : ∀ q ∈ own', q ∈ news)
   (N : News h₀ L s.heap ((L + 1, oP) :: (TR, listOf trefs.toArray cT) :: news)) (off : ∀ q ∈ news, q.1 ≠ L + 1) (hne : TR ≠ L + 1) (htl : m (Str.ofString "told") = some (.ref TR))
   (hQ : ∀ PR pvs c' oP' s', AllAt (fun k v => ∃ t, v = .int (K.port k) t) pvs ((List.range 16).filter fun k => decide (K.f k = K.l k)) → oP'.data = .cell (some (.ref PR)) → Fr h₀ L s'.heap m → News h₀ L s'.heap ((L + 1, oP') :: (PR, listOf pvs.toArray c') :: (TR, listOf trefs.toArray cT) :: news) → s'.gens = s.gens → s'.drawn = s.drawn → s'.os = s.os → Q .next s') :
   wpAny (model PySem.Challenge.pw_rw0072_01 w) (ktrTop dp un gd cn lawScope L a ccd (lawCells L) []) (exec (lawStmt 8) (envX cn lawScope L a ccd (lawCells L))) Q E s := by
  obtain ⟨m₀, rfl⟩ : ∃ m₀, m = fun y => if y = Str.ofString "told" then some (.ref TR) else m₀ y := ⟨m, pull htl⟩
  conv => arg 3; arg 1; whnf
  k_steps
  refine LCt.CompSrcT.ledger (by rfl) F N (.tail _ (.head _)) (sz_ok ht.length (by simp)) ?_
  intro g
  refine rest_T (t := fun k => decide (K.f k = K.l k)) (Ps := PDue K own') (Pd := fun k v => ∃ t, v = .int (K.port k) t) ht (.inr ⟨_, .tail _ (.head _), rfl, _, rfl⟩) ?test ?step ?fin
  case test =>
    rintro k v I oI C oC D ys m₂ h tk E' hk16 ⟨d, rfl, hd⟩ hC hx F' N'
    rcases hd with ⟨hf, u, u', cu, hd⟩ | ⟨hf, u, u', cu, hd⟩
    · have N2 := news_front N' (q := (d, hostObj (K.port k) u u' cu)) (.tail _ (.tail _ (.tail _ (.tail _ (.tail _ (hown' _ hd))))))
      unfold hostObj at N2
      clear N'
      k_steps
      exact ⟨_, _, rfl, F', drop1 N2, (by rw [decide_eq_true hf]; first | rfl | decide)⟩
    · have N2 := news_front N' (q := (d, formObj (K.rep k) u u' cu)) (.tail _ (.tail _ (.tail _ (.tail _ (.tail _ (hown' _ hd))))))
      unfold formObj at N2
      clear N'
      k_steps
      exact ⟨_, _, rfl, F', drop1 N2, (by rw [decide_eq_false hf]; first | rfl | decide)⟩
  case step =>
    rintro k v I oI C oC D ys m₂ h tk E' hk16 hf ⟨d, rfl, hd⟩ hC hx F' N'
    rcases hd with ⟨hf', u, u', cu, hd⟩ | ⟨hf', u, u', cu, hd⟩
    · have N2 := news_front N' (q := (d, hostObj (K.port k) u u' cu)) (.tail _ (.tail _ (.tail _ (.tail _ (.tail _ (hown' _ hd))))))
      unfold hostObj at N2
      clear N'
      k_steps
      exact ⟨_, _, rfl, F', drop1 N2, _, rfl⟩
    · exact absurd (of_decide_eq_true hf) hf'
  case fin =>
    intro ys hJ D h tk F1 N1 o1
    k_steps
    refine storeX_C F1 N1 (c := L + 1) rfl (UpdF.tail (fun e => o1.1 e.symm) (UpdF.head (fun q hq => by
      rcases List.mem_cons.mp hq with rfl | hq
      · exact hne
      · exact off q hq))) hP ?_ rfl rfl
    intro h' o' F2 N2 d'
    exact hQ D ys _ o' _ hJ d' F2 (news_swap N2) rfl rfl rfl
theorem seg9 (news : List (Addr × Obj)) (oP oS oB : Obj) (vS vB : Option Value) (PR lh lt : Addr) (hP : oP.data = .cell (some (.ref PR))) (hS : oS.data = .cell vS) (hB : oB.data = .cell vB) (pvs : List Value) (cP : Nat) (n : Nat) (hn : pvs.toArray.size = n) (n1000 : n ≤ 1000)
   (h0 h1 t0 t1 : Int) (q2 q3 q4 q5 : Tok) (kh kt : Nat) (bh0 : 0 ≤ h0 ∧ h0 < 1000) (bh1 : 0 ≤ h1 ∧ h1 < 1000) (bt0 : 0 ≤ t0 ∧ t0 < 100) (bt1 : 0 ≤ t1 ∧ t1 < 100)
   (N : News h₀ L s.heap ((L + 1 + 1, oS) :: (L + 1 + 1 + 1, oB) :: (L + 1, oP) :: (PR, listOf pvs.toArray cP) :: (lh, listOf #[.int h0 q2, .int h1 q3] kh) :: (lt, listOf #[.int t0 q4, .int t1 q5] kt) :: news))
   (off2 : ∀ q ∈ (PR, listOf pvs.toArray cP) :: (lh, listOf #[.int h0 q2, .int h1 q3] kh) :: (lt, listOf #[.int t0 q4, .int t1 q5] kt) :: news, q.1 ≠ L + 1 + 1) (off3 : ∀ q ∈ (PR, listOf pvs.toArray cP) :: (lh, listOf #[.int h0 q2, .int h1 q3] kh) :: (lt, listOf #[.int t0 q4, .int t1 q5] kt) :: news, q.1 ≠ L + 1 + 1 + 1)
   (hh : m (Str.ofString "heads") = some (.ref lh)) (ht : m (Str.ofString "tails") = some (.ref lt))
   (hQ : ∀ oS' oB' tS tB u1 u2 u3 u4 u5 s', oS'.data = .cell (some (.int (n : Int) tS)) → oB'.data = .cell (some (.int (100 * (h0 + (h1 + 0)) + (t0 + (t1 + 0))) tB)) →
      Fr h₀ L s'.heap (fun y => if y = Str.ofString "wide" then some (.int (iabs (100 * (h1 - h0)) + iabs (t1 - t0)) u1) else if y = Str.ofString "near" then some (.int (iabs (iabs (100 * (h1 - h0)) - iabs (t1 - t0))) u2) else if y = Str.ofString "gap" then some (.int (100 * (h1 - h0) + (t1 - t0)) u3)
        else if y = Str.ofString "small" then some (.int (t1 - t0) u4) else if y = Str.ofString "change" then some (.int (100 * (h1 - h0)) u5) else m y) →
      News h₀ L s'.heap ((L + 1 + 1, oS') :: (L + 1 + 1 + 1, oB') :: (L + 1, oP) :: (PR, listOf pvs.toArray cP) :: (lh, listOf #[.int h0 q2, .int h1 q3] kh) :: (lt, listOf #[.int t0 q4, .int t1 q5] kt) :: news) → s'.gens = s.gens → s'.drawn = s.drawn → s'.os = s.os → Q .next s') :
   wpAny (model PySem.Challenge.pw_rw0072_01 w) (ktrTop dp un gd cn lawScope L a ccd (lawCells L) []) (execs [lawStmt 9, lawStmt 10, lawStmt 11, lawStmt 12, lawStmt 13, lawStmt 14, lawStmt 15] (envX cn lawScope L a ccd (lawCells L))) Q E s := by
  obtain ⟨m₀, rfl⟩ : ∃ m₀, m = fun y => if y = Str.ofString "heads" then some (.ref lh) else if y = Str.ofString "tails" then some (.ref lt) else m₀ y := ⟨m, pull2 hh ht⟩
  k_steps
  rename News h₀ _ _ _ => NN
  rename Fr h₀ _ _ _ => FF
  refine' hQ _ _ _ _ _ _ _ _ _ _ ?a1 ?a2 ?a3 ?a4 ?a5 ?a6 ?a7
  case a3 => exact FF
  case a4 => exact NN
  case a1 => assumption
  case a2 => assumption
  case a5 => rfl
  case a6 => rfl
  case a7 => rfl
theorem seg16 (news : List (Addr × Obj)) (oP oS oB : Obj) (vS : Option Value) (PR : Addr) (hP : oP.data = .cell (some (.ref PR))) (hS : oS.data = .cell vS) (both near : Int) (tB tN : Tok) (hB : oB.data = .cell (some (.int both tB))) (pvs : List Value) (cP : Nat) (n : Nat)
   (N : News h₀ L s.heap ((PR, listOf pvs.toArray cP) :: (L + 1 + 1, oS) :: (L + 1 + 1 + 1, oB) :: (L + 1, oP) :: news))
   (hnr : m (Str.ofString "near") = some (.int near tN))
   (xs ys : List Int) (ix : IntsAre pvs xs) (sx : pvs.toArray.size = n) (nx : xs.length ≤ 100) (bx : ∀ x ∈ xs, -(2 ^ 30) ≤ x ∧ x ≤ 2 ^ 30) (hys : SortOf ys xs) (n64 : n < 64) (ly : ys.length ≤ 1000) (k : Nat) (hn : n = 2 * k) (hn' : n / 2 = k) (k1 : 1 ≤ k) (n2 : 1 ≤ n)
   (v0 v1 : Int) (a0 : At0 ys ((k : Int) - 1) v0) (a1 : At1 ys (k : Int) v1) (a1' : At0 ys (k : Int) v1) (hc : 256 * xs.sum = (128 * both) * n) (hc' : 256 * (v0 + v1) = (128 * both) * 2) (cb : (128 * both).natAbs < 2 ^ 53) (cb2 : both.natAbs < 2 ^ 40) (vb : -(2 ^ 30) ≤ v0 ∧ v0 ≤ 2 ^ 30 ∧ -(2 ^ 30) ≤ v1 ∧ v1 ≤ 2 ^ 30)
   (e0 : 2 * v0 = both - near) (e1 : 2 * v1 = both + near)
   (hQ : ∀ s', Fr h₀ L s'.heap m → News h₀ L s'.heap ((PR, listOf pvs.toArray cP) :: (L + 1 + 1, oS) :: (L + 1 + 1 + 1, oB) :: (L + 1, oP) :: news) → s'.gens = s.gens → s'.drawn = s.drawn → s'.os = s.os → Q .next s') :
   wpAny (model PySem.Challenge.pw_rw0072_01 w) (ktrTop dp un gd cn lawScope L a ccd (lawCells L) []) (exec (lawStmt 16) (envX cn lawScope L a ccd (lawCells L))) Q E s := by
  obtain ⟨m₀, rfl⟩ : ∃ m₀, m = fun y => if y = Str.ofString "near" then some (.int near tN) else m₀ y := ⟨m, pull hnr⟩
  conv => arg 3; arg 1; whnf
  k_steps
  · exact .cons (eqAt_fe (by assumption) (by omega)) (.cons (eqAt_fe (by assumption) (by omega)) (.cons (eqAt_ie e0) (.cons (eqAt_ie e1) .nil)))
  · rename News h₀ _ _ _ => NN
    exact hQ _ (by assumption) (drop2 NN) rfl rfl rfl
theorem seg17 (news : List (Addr × Obj)) (oP oS oB : Obj) (PR : Addr) (hP : oP.data = .cell (some (.ref PR))) (both near wide : Int) (n q : Nat) (tS tB tN tW : Tok) (hS : oS.data = .cell (some (.int (n : Int) tS))) (hB : oB.data = .cell (some (.int both tB))) (pvs : List Value) (cP : Nat)
   (N : News h₀ L s.heap ((PR, listOf pvs.toArray cP) :: (L + 1 + 1, oS) :: (L + 1 + 1 + 1, oB) :: (L + 1, oP) :: news))
   (hnr : m (Str.ofString "near") = some (.int near tN)) (hwd : m (Str.ofString "wide") = some (.int wide tW))
   (xs ys : List Int) (ix : IntsAre pvs xs) (sx : pvs.toArray.size = n) (nx : xs.length ≤ 100) (bx : ∀ x ∈ xs, -(2 ^ 30) ≤ x ∧ x ≤ 2 ^ 30) (hys : SortOf ys xs) (n2 : 2 ≤ n) (n64 : n < 64) (n1000 : n ≤ 1000) (ly : ys.length ≤ 1000)
   (hN : 2 ≤ (n : Int) + 1 ∧ (n : Int) + 1 ≤ 1000) (hsm : Builtin.Range.small 1 ((n : Int) + 1) 1 = true) (hsz : Builtin.Range.rangeSize 1 ((n : Int) + 1) 1 = (n : Int)) (cuts : List Int) (hcl : cuts.length = n) (hcut : ∀ i, i < n → CutStep ys ((n : Int) + 1) n i (cuts.getD i 0)) (cutb : ∀ i, i < n → (cuts.getD i 0).natAbs < 2 ^ 40)
   (hq : (n : Int) / 4 = (q : Int)) (q100 : q ≤ 100) (hsm2 : Builtin.Range.small 0 (q : Int) 1 = true) (hrs2 : Builtin.Range.rangeSize 0 (q : Int) 1 = (q : Int)) (f : Nat → Nat) (hfl : ([0, 1, 2, 3] : List Nat).flatMap (fun k => List.replicate q k) = (List.range n).map f)
   (wy : Nat → Int) (w0 : wy 0 = -wide) (w1 : wy 1 = -near) (w2 : wy 2 = near) (w3 : wy 3 = wide) (heq : ∀ k, k < n → 2 * cuts.getD k 0 = 256 * (both + wy (f k)))
   (hQ : ∀ s', Fr h₀ L s'.heap m → News h₀ L s'.heap ((PR, listOf pvs.toArray cP) :: (L + 1 + 1, oS) :: (L + 1 + 1 + 1, oB) :: (L + 1, oP) :: news) → s'.gens = s.gens → s'.drawn = s.drawn → s'.os = s.os → Q .next s') :
   wpAny (model PySem.Challenge.pw_rw0072_01 w) (ktrTop dp un gd cn lawScope L a ccd (lawCells L) []) (exec (lawStmt 17) (envX cn lawScope L a ccd (lawCells L))) Q E s := by
  obtain ⟨m₀, rfl⟩ : ∃ m₀, m = fun y => if y = Str.ofString "near" then some (.int near tN) else if y = Str.ofString "wide" then some (.int wide tW) else m₀ y := ⟨m, pull2 hnr hwd⟩
  conv => arg 3; arg 1; whnf
  k_steps
  rename FlAre _ _ => hfl'
  rename News h₀ _ _ _ => NN
  rename Fr h₀ _ _ _ => FF
  refine LCg.CompSrc.ledger (by rfl) FF NN (.head _) (sz_ok hfl'.length (by omega)) ?_
  intro g
  refine rest_U (Ps := fun k v => ∃ f t, v = .float f t ∧ FV f (cuts.getD k 0)) (Pd := fun k v => ∃ f t, v = .float f t ∧ FV f (2 * cuts.getD k 0)) hfl'.all (.inr ⟨_, .head _, rfl, _, rfl⟩) ?step ?fin
  case step =>
    rintro k v I oI C oC D zs m₂ h tk E' hk ⟨f, t, rfl, hf⟩ hC hx F' N'
    have hb := cutb k (by rw [← hcl]; exact List.mem_range.mp hk)
    k_steps
    exact ⟨_, _, rfl, F', N', _, _, rfl, by assumption⟩
  case fin =>
    intro zs hJ D h tk F1 N1 o1
    repeat ((fail_if_success (with_reducible show wpAny _ _ (eval (Expr.ListComp _ _ _ _) _) _ _ _)); (first | (k_unfold; (try dsimp only)) | walk1 | (dsimp only; walk1)))
    refine comp2_of (h₀ := h₀) (L := L) (m := fun y => if y = Str.ofString "near" then some (.int near tN) else if y = Str.ofString "wide" then some (.int wide tW) else m₀ y) (G := fun s' => s'.gens = s.gens ∧ s'.drawn = s.drawn ∧ s'.os = s.os) (q := q) (is := [0, 1, 2, 3]) (Ps := PInt wy) (Pd := PInt fun j => both + wy j) (fun s h tk g => g) rfl q100 hsm2 hrs2 (by with_unfolding_all rfl) (by decide) (by rfl) (by decide) (by rfl) (by rfl) (by decide) ?_
    k_steps
    rename News h₀ _ _ _ => N2
    rename Fr h₀ _ _ _ => F2
    refine' ⟨_, [_, _, _, _], _, _, rfl, ⟨rfl, rfl, rfl⟩, F2, N2, .head _, all4 (PInt.of w0.symm) (PInt.of w1.symm) (PInt.of w2.symm) (PInt.of w3.symm), Nat.le_of_ble_eq_true rfl, ?it1, ?stp, ?fn⟩
    case it1 =>
      rintro k v I oI C oC D2 zs2 m₂ s₁ hk ⟨t, rfl⟩ hC hx ⟨g1, g2, g3⟩ F' N'
      k_steps
      refine LCgL.ld_built F' KX T (by k_is) (by boot_fast) (by decide) ?_
      k_steps
      rename IsRange _ _ _ _ _ _ _ _ => hR
      rw [Int.fdiv_eq_ediv_of_nonneg _ (by omega), hq] at hR
      rename News h₀ _ _ _ => N3
      rename Fr h₀ _ _ _ => F3
      exact ⟨_, _, _, _, rfl, hR, ⟨g1, g2, g3⟩, F3, N3⟩
    case stp =>
      rintro k v I1 oI1 I oI C oC D2 zs2 m₂ s₁ hk ⟨t, rfl⟩ hC hx ⟨g1, g2, g3⟩ F' N'
      k_steps
      exact ⟨⟨g1, g2, g3⟩, F', N', PInt.of rfl⟩
    case fn =>
      rintro D2 zs2 s' hJ2 ⟨g1, g2, g3⟩ F' N'
      k_steps
      · rw [hcl] at hJ
        refine eqAll_of hJ (hJ2.unmap (List.range n) hfl) ?_
        rintro k v w' hk ⟨ff, t, rfl, hf⟩ ⟨t', rfl⟩
        exact eqAt_fe hf (heq k (List.mem_range.mp hk))
      · rename News h₀ _ _ _ => N3
        exact hQ _ (by assumption) (fun p hp => N3 p (by first | with_reducible exact hp | with_reducible exact List.mem_cons_of_mem _ (hp) | with_reducible exact List.mem_cons_of_mem _ (List.mem_cons_of_mem _ (hp)) | with_reducible exact List.mem_cons_of_mem _ (List.mem_cons_of_mem _ (List.mem_cons_of_mem _ (hp))) | with_reducible exact List.mem_cons_of_mem _ (List.mem_cons_of_mem _ (List.mem_cons_of_mem _ (List.mem_cons_of_mem _ (hp)))) | with_reducible exact List.mem_cons_of_mem _ (List.mem_cons_of_mem _ (List.mem_cons_of_mem _ (List.mem_cons_of_mem _ (List.mem_cons_of_mem _ (hp))))) | with_reducible exact List.mem_cons_of_mem _ (List.mem_cons_of_mem _ (List.mem_cons_of_mem _ (List.mem_cons_of_mem _ (List.mem_cons_of_mem _ (List.mem_cons_of_mem _ (hp)))))) | with_reducible exact List.mem_cons_of_mem _ (List.mem_cons_of_mem _ (List.mem_cons_of_mem _ (List.mem_cons_of_mem _ (List.mem_cons_of_mem _ (List.mem_cons_of_mem _ (List.mem_cons_of_mem _ (hp))))))) | with_reducible exact List.mem_cons_of_mem _ (List.mem_cons_of_mem _ (List.mem_cons_of_mem _ (List.mem_cons_of_mem _ (List.mem_cons_of_mem _ (List.mem_cons_of_mem _ (List.mem_cons_of_mem _ (List.mem_cons_of_mem _ (hp)))))))) | with_reducible exact List.mem_cons_of_mem _ (List.mem_cons_of_mem _ (List.mem_cons_of_mem _ (List.mem_cons_of_mem _ (List.mem_cons_of_mem _ (List.mem_cons_of_mem _ (List.mem_cons_of_mem _ (List.mem_cons_of_mem _ (List.mem_cons_of_mem _ (hp))))))))))) g1 g2 g3
theorem seg18a (news : List (Addr × Obj)) (l : Addr) (one other : Int) (t u : Tok) (N : News h₀ L s.heap news)
   (h1 : m (Str.ofString "one") = some (.int one t)) (h2 : m (Str.ofString "other") = some (.int other u))
   (hQ : ∀ row u1 u2 u3 u4 c s', Fr h₀ L s'.heap (fun y => if y = Str.ofString "row" then some (.ref row) else m y) → News h₀ L s'.heap ((row, listOf #[.int one u1, .int other u2, .int one u3, .int one u4] c) :: news) → (∀ q ∈ news, q.1 < row) → s'.gens = s.gens → s'.drawn = s.drawn → s'.os = s.os → Q .next s') :
   wpAny (model PySem.Challenge.pw_rw0072_01 w) (ktrTop dp un gd cn lawScope L a ccd (lawCells L) []) (exec (lawFor 0) (envX cn lawScope L a ccd (lawCells L))) Q E s := by
  obtain ⟨m₀, rfl⟩ : ∃ m₀, m = fun y => if y = Str.ofString "one" then some (.int one t) else if y = Str.ofString "other" then some (.int other u) else m₀ y := ⟨m, pull2 h1 h2⟩
  k_steps
  exact hQ _ _ _ _ _ _ _ (by assumption) (by assumption) (by first | assumption | exact lt_allLt (by assumption)) rfl rfl rfl
theorem seg18b (news : List (Addr × Obj)) (row : Addr) (one other : Int) (t u u1 u2 u3 u4 : Tok) (c : Nat) (N : News h₀ L s.heap ((row, listOf #[.int one u1, .int other u2, .int one u3, .int one u4] c) :: news))
   (h1 : m (Str.ofString "one") = some (.int one t)) (h2 : m (Str.ofString "other") = some (.int other u)) (h3 : m (Str.ofString "row") = some (.ref row)) (ys3 : List Int) (H : RowMid one other ys3) (b1 : 0 ≤ one ∧ one < 100000) (b2 : 0 ≤ other ∧ other < 100000)
   (hQ : ∀ s', Fr h₀ L s'.heap m → News h₀ L s'.heap ((row, listOf #[.int one u1, .int other u2, .int one u3, .int one u4] c) :: news) → s'.gens = s.gens → s'.drawn = s.drawn → s'.os = s.os → Q .next s') :
   wpAny (model PySem.Challenge.pw_rw0072_01 w) (ktrTop dp un gd cn lawScope L a ccd (lawCells L) []) (exec (lawFor 1) (envX cn lawScope L a ccd (lawCells L))) Q E s := by
  obtain ⟨m₀, rfl⟩ : ∃ m₀, m = fun y => if y = Str.ofString "one" then some (.int one t) else if y = Str.ofString "other" then some (.int other u) else if y = Str.ofString "row" then some (.ref row) else m₀ y := ⟨m, pull3 h1 h2 h3⟩
  obtain ⟨bx4, hc4, cb4, bx3, hys3, ly3, a03⟩ := H
  k_steps
  · exact .cons (eqAt_fe (by assumption) (by omega)) (.cons (eqAt_ie rfl) (.cons (eqAt_ie rfl) (.cons (eqAt_ie rfl) .nil)))
  · rename News h₀ _ _ _ => NN
    exact hQ _ (by assumption) (fun q hq => NN q (by first | with_reducible exact hq | with_reducible exact List.mem_cons_of_mem _ (hq) | with_reducible exact List.mem_cons_of_mem _ (List.mem_cons_of_mem _ (hq)) | with_reducible exact List.mem_cons_of_mem _ (List.mem_cons_of_mem _ (List.mem_cons_of_mem _ (hq))) | with_reducible exact List.mem_cons_of_mem _ (List.mem_cons_of_mem _ (List.mem_cons_of_mem _ (List.mem_cons_of_mem _ (hq)))) | with_reducible exact List.mem_cons_of_mem _ (List.mem_cons_of_mem _ (List.mem_cons_of_mem _ (List.mem_cons_of_mem _ (List.mem_cons_of_mem _ (hq))))) | with_reducible exact List.mem_cons_of_mem _ (List.mem_cons_of_mem _ (List.mem_cons_of_mem _ (List.mem_cons_of_mem _ (List.mem_cons_of_mem _ (List.mem_cons_of_mem _ (hq)))))) | with_reducible exact List.mem_cons_of_mem _ (List.mem_cons_of_mem _ (List.mem_cons_of_mem _ (List.mem_cons_of_mem _ (List.mem_cons_of_mem _ (List.mem_cons_of_mem _ (List.mem_cons_of_mem _ (hq))))))) | with_reducible exact List.mem_cons_of_mem _ (List.mem_cons_of_mem _ (List.mem_cons_of_mem _ (List.mem_cons_of_mem _ (List.mem_cons_of_mem _ (List.mem_cons_of_mem _ (List.mem_cons_of_mem _ (List.mem_cons_of_mem _ (hq)))))))))) rfl rfl rfl
theorem seg18c (news : List (Addr × Obj)) (row : Addr) (one other : Int) (t u u1 u2 u3 u4 : Tok) (c : Nat) (N : News h₀ L s.heap ((row, listOf #[.int one u1, .int other u2, .int one u3, .int one u4] c) :: news))
   (h1 : m (Str.ofString "one") = some (.int one t)) (h2 : m (Str.ofString "other") = some (.int other u)) (h3 : m (Str.ofString "row") = some (.ref row)) (ys4 cuts sc : List Int) (H : RowCut one other ys4 cuts sc) (b1 : 0 ≤ one ∧ one < 100000) (b2 : 0 ≤ other ∧ other < 100000)
   (hQ : ∀ s', Fr h₀ L s'.heap m → News h₀ L s'.heap ((row, listOf #[.int one u1, .int other u2, .int one u3, .int one u4] c) :: news) → s'.gens = s.gens → s'.drawn = s.drawn → s'.os = s.os → Q .next s') :
   wpAny (model PySem.Challenge.pw_rw0072_01 w) (ktrTop dp un gd cn lawScope L a ccd (lawCells L) []) (exec (lawFor 2) (envX cn lawScope L a ccd (lawCells L))) Q E s := by
  obtain ⟨m₀, rfl⟩ : ∃ m₀, m = fun y => if y = Str.ofString "one" then some (.int one t) else if y = Str.ofString "other" then some (.int other u) else if y = Str.ofString "row" then some (.ref row) else m₀ y := ⟨m, pull3 h1 h2 h3⟩
  obtain ⟨bx4, hys4, ly4, hcl, hcut, cutb, hsc, heq, lsc⟩ := H
  k_steps
  rename FlAre _ _ => hfl
  rename News h₀ _ _ _ => NN
  rename Fr h₀ _ _ _ => FF
  refine LCg.CompSrc.ledger (by rfl) FF NN (.head _) (sz_ok hfl.length (by omega)) ?_
  intro g
  refine rest_U (Ps := fun k v => ∃ f t, v = .float f t ∧ FV f (cuts.getD k 0)) (Pd := fun k v => ∃ f t, v = .float f t ∧ FV f (4 * cuts.getD k 0)) hfl.all (.inr ⟨_, .head _, rfl, _, rfl⟩) ?step ?fin
  case step =>
    rintro k v I oI C oC D ys m₂ h tk E' hk ⟨f, t, rfl, hf⟩ hC hx F' N'
    have hb := cutb k (by rw [← hcl]; exact List.mem_range.mp hk)
    k_steps
    exact ⟨_, _, rfl, F', N', _, _, rfl, by assumption⟩
  case fin =>
    intro ys hJ D h tk F1 N1 o1
    k_steps
    · rename IntsAre _ sc => hi
      have ha := intsAll hi
      rw [lsc] at ha
      rw [hcl] at hJ
      refine eqAll_of hJ ha ?_
      rintro k v w' hk ⟨f, t, rfl, hf⟩ ⟨t', rfl⟩
      exact eqAt_fe hf (heq k (List.mem_range.mp hk))
    · rename News h₀ _ _ _ => N2
      exact hQ _ (by assumption) (fun q hq => N2 q (by first | with_reducible exact hq | with_reducible exact List.mem_cons_of_mem _ (hq) | with_reducible exact List.mem_cons_of_mem _ (List.mem_cons_of_mem _ (hq)) | with_reducible exact List.mem_cons_of_mem _ (List.mem_cons_of_mem _ (List.mem_cons_of_mem _ (hq))) | with_reducible exact List.mem_cons_of_mem _ (List.mem_cons_of_mem _ (List.mem_cons_of_mem _ (List.mem_cons_of_mem _ (hq)))) | with_reducible exact List.mem_cons_of_mem _ (List.mem_cons_of_mem _ (List.mem_cons_of_mem _ (List.mem_cons_of_mem _ (List.mem_cons_of_mem _ (hq))))) | with_reducible exact List.mem_cons_of_mem _ (List.mem_cons_of_mem _ (List.mem_cons_of_mem _ (List.mem_cons_of_mem _ (List.mem_cons_of_mem _ (List.mem_cons_of_mem _ (hq)))))) | with_reducible exact List.mem_cons_of_mem _ (List.mem_cons_of_mem _ (List.mem_cons_of_mem _ (List.mem_cons_of_mem _ (List.mem_cons_of_mem _ (List.mem_cons_of_mem _ (List.mem_cons_of_mem _ (hq))))))) | with_reducible exact List.mem_cons_of_mem _ (List.mem_cons_of_mem _ (List.mem_cons_of_mem _ (List.mem_cons_of_mem _ (List.mem_cons_of_mem _ (List.mem_cons_of_mem _ (List.mem_cons_of_mem _ (List.mem_cons_of_mem _ (hq)))))))))) rfl rfl rfl
theorem seg18d (news : List (Addr × Obj)) (ot : Obj) (hot : CodeTab ot) (row : Addr) (hrow : @LT.lt Nat _ 94 row) (off : ∀ q ∈ news, q.1 ≠ 94) (one other gap : Int) (t u tg u1 u2 u3 u4 : Tok) (c : Nat) (N : News h₀ L s.heap ((94, ot) :: (row, listOf #[.int one u1, .int other u2, .int one u3, .int one u4] c) :: news))
   (h1 : m (Str.ofString "one") = some (.int one t)) (h2 : m (Str.ofString "other") = some (.int other u)) (h3 : m (Str.ofString "row") = some (.ref row)) (h4 : m (Str.ofString "gap") = some (.int gap tg)) (e1 e2 : Nat → Int) (H : RowTog one other gap e1 e2) (b1 : 0 ≤ one ∧ one < 100000) (b2 : 0 ≤ other ∧ other < 100000)
   (hQ : ∀ s' ot', CodeTab ot' → Fr h₀ L s'.heap m → News h₀ L s'.heap ((94, ot') :: (row, listOf #[.int one u1, .int other u2, .int one u3, .int one u4] c) :: news) → ((∀ y ∈ s.gens, y.bare = true) → ∀ y ∈ s'.gens, y.bare = true) → s'.drawn = s.drawn → s'.os = s.os → Q .next s') :
   wpAny (model PySem.Challenge.pw_rw0072_01 w) (ktrTop dp un gd cn lawScope L a ccd (lawCells L) []) (exec (lawFor 3) (envX cn lawScope L a ccd (lawCells L))) Q E s := by
  obtain ⟨m₀, rfl⟩ : ∃ m₀, m = fun y => if y = Str.ofString "one" then some (.int one t) else if y = Str.ofString "other" then some (.int other u) else if y = Str.ofString "row" then some (.ref row) else if y = Str.ofString "gap" then some (.int gap tg) else m₀ y := ⟨m, pull4 h1 h2 h3 h4⟩
  obtain ⟨bx4, hc4, cb4, hd4, he4, heb4, hes4, hR4, hRb4, bx2, by2, hc2, hc2', cb2, hd2, hd2', he2, heb2, hes2, hR2, hRb2, gb, gg⟩ := H
  k_steps
  · exact .cons (eqAt_fe (by assumption) (by omega)) (.cons (eqAt_fe (by assumption) (by rw [Int.neg_mul]; omega)) .nil)
  · rename News h₀ _ _ _ => NN
    refine' hQ _ _ ?a1 ?a2 (fun q hq => ?a3) ?a4 ?a5 ?a6
    case a1 => assumption
    case a2 => assumption
    case a3 =>
      rcases List.mem_cons.mp hq with rfl | hq
      · exact NN _ (by k_mem)
      rcases List.mem_cons.mp hq with rfl | hq
      · exact NN _ (by k_mem)
      exact NN _ (by first | with_reducible exact hq | with_reducible exact List.mem_cons_of_mem _ (hq) | with_reducible exact List.mem_cons_of_mem _ (List.mem_cons_of_mem _ (hq)) | with_reducible exact List.mem_cons_of_mem _ (List.mem_cons_of_mem _ (List.mem_cons_of_mem _ (hq))) | with_reducible exact List.mem_cons_of_mem _ (List.mem_cons_of_mem _ (List.mem_cons_of_mem _ (List.mem_cons_of_mem _ (hq)))) | with_reducible exact List.mem_cons_of_mem _ (List.mem_cons_of_mem _ (List.mem_cons_of_mem _ (List.mem_cons_of_mem _ (List.mem_cons_of_mem _ (hq))))) | with_reducible exact List.mem_cons_of_mem _ (List.mem_cons_of_mem _ (List.mem_cons_of_mem _ (List.mem_cons_of_mem _ (List.mem_cons_of_mem _ (List.mem_cons_of_mem _ (hq)))))) | with_reducible exact List.mem_cons_of_mem _ (List.mem_cons_of_mem _ (List.mem_cons_of_mem _ (List.mem_cons_of_mem _ (List.mem_cons_of_mem _ (List.mem_cons_of_mem _ (List.mem_cons_of_mem _ (hq))))))) | with_reducible exact List.mem_cons_of_mem _ (List.mem_cons_of_mem _ (List.mem_cons_of_mem _ (List.mem_cons_of_mem _ (List.mem_cons_of_mem _ (List.mem_cons_of_mem _ (List.mem_cons_of_mem _ (List.mem_cons_of_mem _ (hq)))))))) | with_reducible exact List.mem_cons_of_mem _ (List.mem_cons_of_mem _ (List.mem_cons_of_mem _ (List.mem_cons_of_mem _ (List.mem_cons_of_mem _ (List.mem_cons_of_mem _ (List.mem_cons_of_mem _ (List.mem_cons_of_mem _ (List.mem_cons_of_mem _ (hq))))))))))
    case a4 => (intro h; solve_by_elim)
    case a5 => exact Eq.trans (by assumption) (by assumption)
    case a6 => exact Eq.trans (by assumption) (by assumption)
theorem seg18e (news : List (Addr × Obj)) (ot : Obj) (hot : CodeTab ot) (off : ∀ q ∈ news, q.1 ≠ 94) (one other gap : Int) (t u tg : Tok) (N : News h₀ L s.heap ((94, ot) :: news))
   (h1 : m (Str.ofString "one") = some (.int one t)) (h2 : m (Str.ofString "other") = some (.int other u)) (h4 : m (Str.ofString "gap") = some (.int gap tg)) (ys3 ys4 cuts sc : List Int) (e1 e2 : Nat → Int) (H1 : RowMid one other ys3) (H2 : RowCut one other ys4 cuts sc) (H3 : RowTog one other gap e1 e2) (b1 : 0 ≤ one ∧ one < 100000) (b2 : 0 ≤ other ∧ other < 100000)
   (hQ : ∀ row s' ot', CodeTab ot' → Fr h₀ L s'.heap (fun y => if y = Str.ofString "row" then some (.ref row) else m y) → News h₀ L s'.heap ((94, ot') :: news) → ((∀ y ∈ s.gens, y.bare = true) → ∀ y ∈ s'.gens, y.bare = true) → s'.drawn = s.drawn → s'.os = s.os → Q .next s') :
   wpAny (model PySem.Challenge.pw_rw0072_01 w) (ktrTop dp un gd cn lawScope L a ccd (lawCells L) []) (execs lawForParts.2 (envX cn lawScope L a ccd (lawCells L))) Q E s := by
  have e : lawForParts.2 = [lawFor 0, lawFor 1, lawFor 2, lawFor 3] := rfl
  rw [e]
  refine wpAny_execs_cons (seg18a w p loose mean mg mb dp un gd cn a ccd A₀ base h₀ L m s _ E B XB TB KX T hd1 hu1 F _ 0 one other t u N h1 h2 ?_)
  intro row u1 u2 u3 u4 c s1 F1 N1 lt1 g1 d1 o1
  have k1 : (fun y => if y = Str.ofString "row" then some (Value.ref row) else m y) (Str.ofString "one") = some (.int one t) := (if_neg (by decide)).trans h1
  have k2 : (fun y => if y = Str.ofString "row" then some (Value.ref row) else m y) (Str.ofString "other") = some (.int other u) := (if_neg (by decide)).trans h2
  have k3 : (fun y => if y = Str.ofString "row" then some (Value.ref row) else m y) (Str.ofString "row") = some (.ref row) := if_pos rfl
  have k4 : (fun y => if y = Str.ofString "row" then some (Value.ref row) else m y) (Str.ofString "gap") = some (.int gap tg) := (if_neg (by decide)).trans h4
  refine wpAny_execs_cons (seg18b w p loose mean mg mb dp un gd cn a ccd A₀ base h₀ L _ s1 _ E B XB TB KX T hd1 hu1 F1 _ row one other t u u1 u2 u3 u4 c N1 k1 k2 k3 ys3 H1 b1 b2 ?_)
  intro s2 F2 N2 g2 d2 o2
  refine wpAny_execs_cons (seg18c w p loose mean mg mb dp un gd cn a ccd A₀ base h₀ L _ s2 _ E B XB TB KX T hd1 hu1 F2 _ row one other t u u1 u2 u3 u4 c N2 k1 k2 k3 ys4 cuts sc H2 b1 b2 ?_)
  intro s3 F3 N3 g3 d3 o3
  refine wpAny_execs_cons (seg18d w p loose mean mg mb dp un gd cn a ccd A₀ base h₀ L _ s3 _ E B XB TB KX T hd1 hu1 F3 news ot hot row (lt1 (94, ot) (.head _)) off one other gap t u tg u1 u2 u3 u4 c (news_swap N3) k1 k2 k3 k4 e1 e2 H3 b1 b2 ?_)
  intro s4 ot4 hot4 F4 N4 g4 d4 o4
  refine wpAny_execs_nil (hQ row s4 ot4 hot4 F4 (fun q hq => N4 q (by
    rcases List.mem_cons.mp hq with rfl | hq
    · exact .head _
    · exact .tail _ (.tail _ hq))) (fun h => g4 (by rw [g3, g2, g1]; exact h)) (d4.trans (d3.trans (d2.trans d1))) (o4.trans (o3.trans (o2.trans o1))))
theorem seg18s (s0 : Shared) (mB vals : Str → Option Value) (hmB : m = over rowNames vals mB) (news : List (Addr × Obj)) (off : ∀ q ∈ news, q.1 ≠ 94) (one other gap : Int) (t u tg : Tok) (l : Addr) (c : Nat) (hm : (l, listOf #[.int one t, .int other u] c) ∈ news) (N : News h₀ L s.heap news) (h94 : 94 ≠ L ∧ h₀.get? 94 = none)
   (hG : GL s0 s) (h4 : mB (Str.ofString "gap") = some (.int gap tg)) (ys3 ys4 cuts sc : List Int) (e1 e2 : Nat → Int) (H1 : RowMid one other ys3) (H2 : RowCut one other ys4 cuts sc) (H3 : RowTog one other gap e1 e2) (b1 : 0 ≤ one ∧ one < 100000) (b2 : 0 ≤ other ∧ other < 100000) :
   wpAny (model PySem.Challenge.pw_rw0072_01 w) (ktrTop dp un gd cn lawScope L a ccd (lawCells L) []) (assign lawForParts.1 (envX cn lawScope L a ccd (lawCells L)) (.ref l)) (fun _ s₂ =>
     wpAny (model PySem.Challenge.pw_rw0072_01 w) (ktrTop dp un gd cn lawScope L a ccd (lawCells L) []) (execs lawForParts.2 (envX cn lawScope L a ccd (lawCells L))) (TurnEnd h₀ L (GL s0) (fun m₁ => ∃ vals, m₁ = over rowNames vals mB) news) noE s₂) noE s := by
  subst hmB
  obtain ⟨g1, g2, g3, ot, hot, hat⟩ := hG
  have N1 : News h₀ L s.heap ((94, ot) :: news) := fun q hq => by
    rcases List.mem_cons.mp hq with rfl | hq
    · exact ⟨hat, h94⟩
    · exact N q hq
  refine kun_list F N1 (N.isList hm) rfl rfl rfl ?_
  intro h' F2 N2
  repeat ((fail_if_success (with_reducible show wpAny _ _ (execs _ _) _ _ _)); (first | (k_unfold; (try dsimp only)) | walk1 | (dsimp only; walk1)))
  rename News h₀ _ _ _ => NN
  rename Fr h₀ _ _ _ => FF
  refine seg18e w p loose mean mg mb dp un gd cn a ccd A₀ base h₀ L _ _ _ noE B XB TB KX T hd1 hu1 FF news ot hot off one other gap t u tg NN ((if_neg (by decide)).trans (if_pos rfl)) (if_pos rfl) ((if_neg (by decide)).trans ((if_neg (by decide)).trans ((if_neg (by decide)).trans h4))) ys3 ys4 cuts sc e1 e2 H1 H2 H3 b1 b2 ?_
  intro row s' ot' hot' F3 N3 q1 q2 q3
  obtain ⟨vals', hv⟩ := over_row (a1 := some (Value.ref row)) (a2 := some (Value.int other u)) (a3 := some (Value.int one t)) (vals := vals) (m0 := mB)
  rw [hv] at F3
  exact ⟨rfl, _, ⟨vals', rfl⟩, ⟨q2.trans g1, q3.trans g2, fun h => q1 (g3 h), ot', hot', (N3 _ (.head _)).1⟩, F3, fun q hq => N3 q (.tail _ hq)⟩
theorem seg18 (news : List (Addr × Obj)) (oP ot : Obj) (PR : Addr) (hP : oP.data = .cell (some (.ref PR))) (hot : CodeTab ot) (gap : Int) (tG : Tok) (pvs : List Value) (cP : Nat) (p0 p3 : Int) (off : ∀ q ∈ (L + 1, oP) :: (PR, listOf pvs.toArray cP) :: news, q.1 ≠ 94)
   (N : News h₀ L s.heap ((94, ot) :: (L + 1, oP) :: (PR, listOf pvs.toArray cP) :: news)) (hgp : m (Str.ofString "gap") = some (.int gap tG))
   (xs : List Int) (ix : IntsAre pvs xs) (nx : xs.length ≤ 100) (i0 : At0 xs 0 p0) (i3 : At0 xs 3 p3) (b1 : 0 ≤ p0 ∧ p0 < 100000) (b2 : 0 ≤ p3 ∧ p3 < 100000)
   (ys3 ys3' ys4 ys4' cuts cuts' sc sc' : List Int) (e1 e2 e1' e2' : Nat → Int) (H1 : RowMid p0 p3 ys3) (H2 : RowCut p0 p3 ys4 cuts sc) (H3 : RowTog p0 p3 gap e1 e2) (H1' : RowMid p3 p0 ys3') (H2' : RowCut p3 p0 ys4' cuts' sc') (H3' : RowTog p3 p0 gap e1' e2')
   (hQ : ∀ vals s' ot', CodeTab ot' → Fr h₀ L s'.heap (over rowNames vals m) → News h₀ L s'.heap ((94, ot') :: (L + 1, oP) :: (PR, listOf pvs.toArray cP) :: news) → ((∀ y ∈ s.gens, y.bare = true) → ∀ y ∈ s'.gens, y.bare = true) → s'.drawn = s.drawn → s'.os = s.os → Q .next s') :
   wpAny (model PySem.Challenge.pw_rw0072_01 w) (ktrTop dp un gd cn lawScope L a ccd (lawCells L) []) (exec (lawStmt 18) (envX cn lawScope L a ccd (lawCells L))) Q E s := by
  obtain ⟨m₀, rfl⟩ : ∃ m₀, m = fun y => if y = Str.ofString "gap" then some (.int gap tG) else m₀ y := ⟨m, pull hgp⟩
  have h94 := (N _ (.head _)).2
  have G0 : GL s s := ⟨rfl, rfl, fun h => h, ot, hot, (N _ (.head _)).1⟩
  conv => arg 3; arg 1; whnf
  repeat ((fail_if_success (with_reducible show wpAny _ _ (exec (Stmt.For _ _ _ _ _) _) _ _ _)); (first | (k_unfold; (try dsimp only)) | walk1 | (dsimp only; walk1)))
  refine forList_of (h₀ := h₀) 94 (GL s) (GL.at s) (GL.keep s) rfl ?_
  k_steps
  rename News h₀ _ _ _ => NN
  rename Fr h₀ _ _ _ => FF
  have NW := news_drop4 NN
  have hat0 := (NN _ (.tail _ (.tail _ (.tail _ (.head _))))).1
  clear NN
  refine' ⟨_, [_, _], _, _, _, (fun _ m₁ => ∃ vals, m₁ = over rowNames vals _), rfl, ⟨_, over_self⟩, ⟨rfl, rfl, fun h => h, ot, hot, hat0⟩, FF, NW, .head _, ?step, ?fin⟩
  case fin =>
    rintro m' s' ⟨vals, rfl⟩ ⟨g1, g2, g3, ot1, hot1, hat⟩ F1 N1
    refine hQ vals s' ot1 hot1 F1 (fun q hq => ?_) g3 g1 g2
    rcases List.mem_cons.mp hq with rfl | hq
    · exact ⟨hat, h94⟩
    · exact N1 _ (.tail _ (.tail _ (.tail _ hq)))
  case step =>
    rintro i v m₁ s₁ I oI hv ⟨vals, hvals⟩ hG F1 N1 off1 pI
    rcases i with _ | _ | i
    · obtain rfl := Option.some.inj hv
      exact seg18s w p loose mean mg mb dp un gd cn a ccd A₀ base h₀ L _ s₁ B XB TB KX T hd1 hu1 F1 s _ vals hvals _ (by exact off_cons pI.symm (off_cons (by k_ne) (off_cons (by k_ne) (off_cons (by k_ne) off)))) p0 p3 gap _ _ tG _ _ (by exact .tail _ (.tail _ (.tail _ (.head _)))) N1 h94 hG (if_pos rfl) ys3 ys4 cuts sc e1 e2 H1 H2 H3 b1 b2
    · obtain rfl := Option.some.inj hv
      exact seg18s w p loose mean mg mb dp un gd cn a ccd A₀ base h₀ L _ s₁ B XB TB KX T hd1 hu1 F1 s _ vals hvals _ (by exact off_cons pI.symm (off_cons (by k_ne) (off_cons (by k_ne) (off_cons (by k_ne) off)))) p3 p0 gap _ _ tG _ _ (by exact .tail _ (.tail _ (.head _))) N1 h94 hG (if_pos rfl) ys3' ys4' cuts' sc' e1' e2' H1' H2' H3' b2 b1
    · simp at hv
theorem seg19 (news : List (Addr × Obj)) (oP : Obj) (PR KR : Addr) (hP : oP.data = .cell (some (.ref PR))) (own : List (Addr × Obj)) (krefs : List Value) (cK : Nat) (K : KidPar) (tk : List Nat) (hk : AllAt (PKid K own) krefs tk) (htk : tk.length ≤ 1000) (hown : ∀ q ∈ own, q ∈ news)
   (N : News h₀ L s.heap ((L + 1, oP) :: (KR, listOf krefs.toArray cK) :: news)) (hc : m (Str.ofString "taken") = some (.ref KR))
   (hQ : ∀ SR S1 S2 S3 y1 y2 y3 c0 c1 c2 c3 s', AllAt (PInt hsd) y1 tk → AllAt (PInt tsd) y2 tk → AllAt (PInt fun k => hsd k * tsd k) y3 tk → Fr h₀ L s'.heap (fun y => if y = Str.ofString "sides" then some (.ref SR) else m y) →
      News h₀ L s'.heap ((SR, listOf #[.ref S1, .ref S2, .ref S3, .ref PR] c0) :: (S3, listOf y3.toArray c3) :: (S2, listOf y2.toArray c2) :: (S1, listOf y1.toArray c1) :: (L + 1, oP) :: (KR, listOf krefs.toArray cK) :: news) → (∀ q ∈ (S3, listOf y3.toArray c3) :: (S2, listOf y2.toArray c2) :: (S1, listOf y1.toArray c1) :: (L + 1, oP) :: (KR, listOf krefs.toArray cK) :: news, q.1 < SR) → s'.gens = s.gens → s'.drawn = s.drawn → s'.os = s.os → Q .next s') :
   wpAny (model PySem.Challenge.pw_rw0072_01 w) (ktrTop dp un gd cn lawScope L a ccd (lawCells L) []) (exec (lawStmt 19) (envX cn lawScope L a ccd (lawCells L))) Q E s := by
  obtain ⟨m₀, rfl⟩ : ∃ m₀, m = fun y => if y = Str.ofString "taken" then some (.ref KR) else m₀ y := ⟨m, pull hc⟩
  conv => arg 3; arg 1; whnf
  k_steps
  refine LCg.CompSrc.ledger (by rfl) F N (.tail _ (.head _)) (sz_ok hk.length htk) ?_
  intro g
  have hmem : ∀ q ∈ news, q ∈ (L + 1, oP) :: (KR, listOf krefs.toArray cK) :: news := fun q hq => .tail _ (.tail _ hq)
  refine rest_U (Ps := PKid K own) (Pd := PInt hsd) hk (.inr ⟨_, .tail _ (.head _), rfl, _, rfl⟩) ?step ?fin
  case step =>
    rintro k v I oI C oC D ys m₂ h tk E' hk ⟨c, d, t, t1, t2, n, rfl, hm, hd⟩ hC hx F' N'
    have N2 := news_front N' (q := (c, kidObj K k d t t1 t2 n)) (List.mem_cons_of_mem _ (List.mem_cons_of_mem _ (List.mem_cons_of_mem _ (hmem _ (hown _ hm)))))
    unfold kidObj at N2
    clear N'
    k_steps
    exact ⟨_, _, rfl, F', drop1 N2, PInt.of rfl⟩
  case fin =>
    intro y1 hJ1 S1 h1 tk1 F1 N1 o1
    k_steps
    refine LCg.CompSrc.ledger (by rfl) F1 N1 (.tail _ (.tail _ (.head _))) (sz_ok hk.length htk) ?_
    intro g1
    have hmem : ∀ q ∈ news, q ∈ (S1, LCg.lst y1) :: (L + 1, oP) :: (KR, listOf krefs.toArray cK) :: news := fun q hq => .tail _ (.tail _ (.tail _ hq))
    refine rest_U (Ps := PKid K own) (Pd := PInt tsd) hk (.inr ⟨_, .tail _ (.tail _ (.head _)), rfl, _, rfl⟩) ?step ?fin
    case step =>
      rintro k v I oI C oC D ys m₂ h tk E' hk ⟨c, d, t, t1, t2, n, rfl, hm, hd⟩ hC hx F' N'
      have N2 := news_front N' (q := (c, kidObj K k d t t1 t2 n)) (List.mem_cons_of_mem _ (List.mem_cons_of_mem _ (List.mem_cons_of_mem _ (hmem _ (hown _ hm)))))
      unfold kidObj at N2
      clear N'
      k_steps
      exact ⟨_, _, rfl, F', drop1 N2, PInt.of rfl⟩
    case fin =>
      intro y2 hJ2 S2 h2 tk2 F2 N2 o2
      k_steps
      refine LCg.CompSrc.ledger (by rfl) F2 N2 (.tail _ (.tail _ (.tail _ (.head _)))) (sz_ok hk.length htk) ?_
      intro g2
      have hmem : ∀ q ∈ news, q ∈ (S2, LCg.lst y2) :: (S1, LCg.lst y1) :: (L + 1, oP) :: (KR, listOf krefs.toArray cK) :: news := fun q hq => .tail _ (.tail _ (.tail _ (.tail _ hq)))
      refine rest_U (Ps := PKid K own) (Pd := PInt fun k => hsd k * tsd k) hk (.inr ⟨_, .tail _ (.tail _ (.tail _ (.head _))), rfl, _, rfl⟩) ?step ?fin
      case step =>
        rintro k v I oI C oC D ys m₂ h tk E' hk ⟨c, d, t, t1, t2, n, rfl, hm, hd⟩ hC hx F' N'
        have N2 := news_front N' (q := (c, kidObj K k d t t1 t2 n)) (List.mem_cons_of_mem _ (List.mem_cons_of_mem _ (List.mem_cons_of_mem _ (hmem _ (hown _ hm)))))
        unfold kidObj at N2
        clear N'
        k_steps
        exact ⟨_, _, rfl, F', drop1 N2, PInt.of rfl⟩
      case fin =>
        intro y3 hJ3 S3 h3 tk3 F3 N3 o3
        k_steps
        refine' hQ _ S1 S2 S3 y1 y2 y3 _ _ _ _ _ hJ1 hJ2 hJ3 ?a1 ?a2 ?a3 ?a4 ?a5 ?a6
        case a1 => assumption
        case a2 => assumption
        case a3 => first | assumption | exact lt_allLt (by assumption) | exact lt_allLt (by (repeat' apply And.intro) <;> simp_all)
        case a4 => rfl
        case a5 => rfl
        case a6 => rfl
theorem seg20 (news : List (Addr × Obj)) (oS : Obj) (n : Int) (tS : Tok) (SR : Addr) (hS : oS.data = .cell (some (.int n tS))) (hn : 0 ≤ n ∧ n ≤ 16) (g : Nat → Nat → Int) (hg : ∀ j k, j < 4 → -200000 < g j k ∧ g j k < 200000) (tk : List Nat) (htk : tk.length ≤ 1000) (svs : List Value) (cS : Nat) (hs : AllAt (PRow g tk news) svs [0, 1, 2, 3])
   (N : News h₀ L s.heap ((L + 1 + 1, oS) :: (SR, listOf svs.toArray cS) :: news)) (hc : m (Str.ofString "sides") = some (.ref SR))
   (hQ : ∀ CR cvs own' c0 s', AllAt (PRow (fun j k => (n - 1) * g j k) tk own') cvs [0, 1, 2, 3] → AreLists own' → Fr h₀ L s'.heap (fun y => if y = Str.ofString "columns" then some (.ref CR) else m y) →
      News h₀ L s'.heap ((CR, listOf cvs.toArray c0) :: (own' ++ ((L + 1 + 1, oS) :: (SR, listOf svs.toArray cS) :: news))) → s'.gens = s.gens → s'.drawn = s.drawn → s'.os = s.os → Q .next s') :
   wpAny (model PySem.Challenge.pw_rw0072_01 w) (ktrTop dp un gd cn lawScope L a ccd (lawCells L) []) (exec (lawStmt 20) (envX cn lawScope L a ccd (lawCells L))) Q E s := by
  obtain ⟨m₀, rfl⟩ : ∃ m₀, m = fun y => if y = Str.ofString "sides" then some (.ref SR) else m₀ y := ⟨m, pull hc⟩
  conv => arg 3; arg 1; whnf
  refine LCg.Assign_ListComp_U (F₀ := F) (by rfl) (by with_unfolding_all rfl) (by with_unfolding_all rfl) (by decide) (by rfl) (by decide) (by rfl) (by rfl) (by rfl) ?_
  k_steps
  refine LCg.CompSrc.ledger (by rfl) F N (.tail _ (.head _)) (sz_ok hs.length (by simp)) ?_
  intro g0
  refine grow_rest (Pd := PRow (fun j k => (n - 1) * g j k) tk) (fun _ _ _ _ p q => PRow.mono _ _ _ _ p q) hs (.tail _ (.head _)) ?step ?fin
  case step =>
    rintro j v I oI C oC D ys m₂ h tk' E' rest hj ⟨d, rs, cr, rfl, hm, ha⟩ hC hx F' hsub N'
    have hj4 : j < 4 := by simp at hj; omega
    have N2 := news_front2 N' (q := (d, listOf rs.toArray cr)) (q2 := (L + 1 + 1, oS)) (.tail _ (.tail _ (.tail _ (hsub _ (.tail _ (.tail _ hm)))))) (.tail _ (.tail _ (.tail _ (hsub _ (.head _)))))
    clear N'
    k_steps
    refine LCg.CompSrc.ledger (by rfl) F' N2 (.head _) (sz_ok ha.length htk) ?_
    intro g1
    refine rest_U (Ps := PInt (g j)) (Pd := PInt fun k => (n - 1) * g j k) ha (.inr ⟨_, .head _, rfl, _, rfl⟩) ?step2 ?fin2
    case step2 =>
      rintro k v I2 oI2 C2 oC2 D2 ys2 m3 h2 tk2 E2 hk ⟨t, rfl⟩ hC2 hx2 F2 N3
      have hb := hg j k hj4
      k_steps
      exact ⟨_, _, rfl, F2, N3, PInt.of rfl⟩
    case fin2 =>
      intro ys2 hJ2 D2 h2 tk2 F2 N3 o2
      exact ⟨_, _, D2, _, _, rfl, rfl, (fun q hq => off1_ne o2 q (.tail _ (.tail _ hq))), F2, (fun q hq => N3 q (by
        rcases List.mem_cons.mp hq with rfl | hq
        · exact .head _
        · exact .tail _ (.tail _ (.tail _ hq)))), ⟨D2, ys2, _, rfl, .head _, hJ2⟩⟩
  case fin =>
    intro ys own' hJ hL D h tk' F1 N1 o1
    exact hQ D ys own' _ _ hJ hL F1 N1 rfl rfl rfl
theorem seg21 (news : List (Addr × Obj)) (N : News h₀ L s.heap news) (change small : Int) (tc ts : Tok) (h1 : m (Str.ofString "change") = some (.int change tc)) (h2 : m (Str.ofString "small") = some (.int small ts)) (bc : -100000 < change ∧ change < 100000) (bs : -100000 < small ∧ small < 100000)
   (hQ : ∀ u s', Fr h₀ L s'.heap (fun y => if y = Str.ofString "squares" then some (.int (change * change + small * small) u) else m y) → News h₀ L s'.heap news → s'.gens = s.gens → s'.drawn = s.drawn → s'.os = s.os → Q .next s') :
   wpAny (model PySem.Challenge.pw_rw0072_01 w) (ktrTop dp un gd cn lawScope L a ccd (lawCells L) []) (exec (lawStmt 21) (envX cn lawScope L a ccd (lawCells L))) Q E s := by
  obtain ⟨m₀, rfl⟩ : ∃ m₀, m = fun y => if y = Str.ofString "change" then some (.int change tc) else if y = Str.ofString "small" then some (.int small ts) else m₀ y := ⟨m, pull2 h1 h2⟩
  k_steps
  exact hQ _ _ (by assumption) (by assumption) rfl rfl rfl
theorem seg22 (news : List (Addr × Obj)) (oP oS : Obj) (ot : Obj) (hot : CodeTab ot) (n : Nat) (tS : Tok) (PR CR : Addr) (hP : oP.data = .cell (some (.ref PR))) (hS : oS.data = .cell (some (.int (n : Int) tS))) (n2 : 2 ≤ n) (n16 : n ≤ 16) (pvs : List Value) (cP : Nat) (xs : List Int) (ix : IntsAre pvs xs) (sx : pvs.toArray.size = n) (nx : xs.length ≤ 100)
   (col : Nat → Nat → Int) (tk : List Nat) (htk : tk.length = n) (own : List (Addr × Obj)) (cvs : List Value) (c0 : Nat) (hs : AllAt (PRow col tk own) cvs [0, 1, 2, 3]) (hown : ∀ q ∈ own, q ∈ news) (tgt : Nat → Int) (htog : ∀ j, j < 4 → TogOk xs (tk.map (col j)) n (256 * tgt j))
   (change small squares : Int) (tc ts tq : Tok) (e0 : tgt 0 = (n : Int) / 2 * change) (e1 : tgt 1 = (n : Int) / 2 * small) (e2 : tgt 2 = 0) (e3 : tgt 3 = (n : Int) / 4 * squares) (bc : -100000 < change ∧ change < 100000) (bs : -100000 < small ∧ small < 100000) (bq : 0 ≤ squares ∧ squares ≤ 20000000000)
   (off : ∀ q ∈ (L + 1, oP) :: (L + 1 + 1, oS) :: (PR, listOf pvs.toArray cP) :: (CR, listOf cvs.toArray c0) :: news, q.1 ≠ 94)
   (N : News h₀ L s.heap ((94, ot) :: (L + 1, oP) :: (L + 1 + 1, oS) :: (PR, listOf pvs.toArray cP) :: (CR, listOf cvs.toArray c0) :: news))
   (hc : m (Str.ofString "columns") = some (.ref CR)) (h1 : m (Str.ofString "change") = some (.int change tc)) (h2 : m (Str.ofString "small") = some (.int small ts)) (h3 : m (Str.ofString "squares") = some (.int squares tq))
   (hQ : ∀ s' ot', CodeTab ot' → Fr h₀ L s'.heap m → News h₀ L s'.heap ((94, ot') :: (L + 1, oP) :: (L + 1 + 1, oS) :: (PR, listOf pvs.toArray cP) :: (CR, listOf cvs.toArray c0) :: news) → ((∀ y ∈ s.gens, y.bare = true) → ∀ y ∈ s'.gens, y.bare = true) → s'.drawn = s.drawn → s'.os = s.os → Q .next s') :
   wpAny (model PySem.Challenge.pw_rw0072_01 w) (ktrTop dp un gd cn lawScope L a ccd (lawCells L) []) (exec (lawStmt 22) (envX cn lawScope L a ccd (lawCells L))) Q E s := by
  obtain ⟨m₀, rfl⟩ : ∃ m₀, m = fun y => if y = Str.ofString "columns" then some (.ref CR) else if y = Str.ofString "change" then some (.int change tc) else if y = Str.ofString "small" then some (.int small ts) else if y = Str.ofString "squares" then some (.int squares tq) else m₀ y := ⟨m, pull4 hc h1 h2 h3⟩
  conv => arg 3; arg 1; whnf
  have h94 := (N _ (.head _)).2
  have N0 : News h₀ L s.heap ((L + 1, oP) :: (L + 1 + 1, oS) :: (PR, listOf pvs.toArray cP) :: (CR, listOf cvs.toArray c0) :: news) := drop1 N
  have G0 : GL s s := ⟨rfl, rfl, fun h => h, ot, hot, (N _ (.head _)).1⟩
  clear N
  repeat ((fail_if_success (with_reducible show wpAny _ _ (eval (Expr.ListComp _ _ _ _) _) _ _ _)); (first | (k_unfold; (try dsimp only)) | walk1 | (dsimp only; walk1)))
  refine compList_of (h₀ := h₀) (L := L) (ax := CR) (c := c0) (m := fun y => if y = Str.ofString "columns" then some (.ref CR) else if y = Str.ofString "change" then some (.int change tc) else if y = Str.ofString "small" then some (.int small ts) else if y = Str.ofString "squares" then some (.int squares tq) else m₀ y) (news := (L + 1, oP) :: (L + 1 + 1, oS) :: (PR, listOf pvs.toArray cP) :: (CR, listOf cvs.toArray c0) :: news) 94 (GL s) (GL.at s) (GL.keep s) rfl (Pd := fun j y => ∃ f t, y = .float f t ∧ FV f (256 * tgt j)) hs (by rw [hs.length]; decide) (by with_unfolding_all rfl) (by decide) (by rfl) (by decide) (by rfl) ?hh0 ?stp ?fn
  case hh0 =>
    k_steps
    exact ⟨rfl, _, rfl, GL.keep s _ _ _ G0 rfl, F, N0, .tail _ (.tail _ (.tail _ (.head _)))⟩
  case stp =>
    rintro j v I oI C oC D ys m₂ s₁ hj ⟨d, rs, cr, rfl, hm, ha⟩ hC hx ⟨g1, g2, g3, ot1, hot1, hat⟩ F' N' ⟨pI, pC, pD⟩ off3
    have hj4 : j < 4 := by simp at hj; omega
    have iy := allInts ha
    have sy : rs.toArray.size = n := by rw [List.size_toArray, ha.length, htk]
    have ny : (tk.map (col j)).length ≤ 100 := by rw [List.length_map, htk]; omega
    obtain ⟨cx, cy, e, hcx, hcy, cxb, cyb, bx, by', hdx, hdy, he, heb, hes, hR, hRb⟩ := htog j hj4
    have N2 : News h₀ L s₁.heap ((94, ot1) :: (PR, listOf pvs.toArray cP) :: (d, listOf rs.toArray cr) :: (I, oI) :: (C, oC) :: (D, LCg.lst ys) :: (L + 1, oP) :: (L + 1 + 1, oS) :: (PR, listOf pvs.toArray cP) :: (CR, listOf cvs.toArray c0) :: news) := fun q hq => by
      rcases List.mem_cons.mp hq with rfl | hq
      · exact ⟨hat, h94⟩
      rcases List.mem_cons.mp hq with rfl | hq
      · exact N' _ (.tail _ (.tail _ (.tail _ (.tail _ (.tail _ (.head _))))))
      rcases List.mem_cons.mp hq with rfl | hq
      · exact N' _ (.tail _ (.tail _ (.tail _ (.tail _ (.tail _ (.tail _ (.tail _ (hown _ hm))))))))
      · exact N' _ hq
    have o1 : ∀ q ∈ (PR, listOf pvs.toArray cP) :: (d, listOf rs.toArray cr) :: (I, oI) :: (C, oC) :: (D, LCg.lst ys) :: (L + 1, oP) :: (L + 1 + 1, oS) :: (PR, listOf pvs.toArray cP) :: (CR, listOf cvs.toArray c0) :: news, q.1 ≠ 94 :=
      off_cons (off _ (.tail _ (.tail _ (.head _)))) (off_cons (off _ (.tail _ (.tail _ (.tail _ (.tail _ (hown _ hm)))))) (off_cons pI.symm (off_cons pC.symm (off_cons pD.symm off))))
    have nPR : PR ≠ 94 := o1 _ (.head _)
    have nd : d ≠ 94 := o1 _ (.tail _ (.head _))
    clear N'
    k_steps
    rename News h₀ _ _ _ => NN
    rename CodeTab _ => hot2
    refine' ⟨⟨?a4, ?a5, ?a6, _, hot2, (NN _ (.head _)).1⟩, ?a1, (fun q hq => NN q (.tail _ (.tail _ (.tail _ hq)))), _, _, rfl, ?a7⟩
    case a1 => assumption
    case a7 => assumption
    case a4 => exact Eq.trans (by assumption) g1
    case a5 => exact Eq.trans (by assumption) g2
    case a6 => (intro h; solve_by_elim)
  case fn =>
    rintro D ys s' hJ ⟨g1, g2, g3, ot1, hot1, hat⟩ F' N'
    have N2 : News h₀ L s'.heap ((D, LCg.lst ys) :: (94, ot1) :: (L + 1, oP) :: (L + 1 + 1, oS) :: (PR, listOf pvs.toArray cP) :: (CR, listOf cvs.toArray c0) :: news) := fun q hq => by
      rcases List.mem_cons.mp hq with rfl | hq
      · exact N' _ (.head _)
      rcases List.mem_cons.mp hq with rfl | hq
      · exact ⟨hat, h94⟩
      · exact N' _ (.tail _ hq)
    clear N'
    k_steps
    · refine eqAll_of hJ (all4 (P := fun j v => ∃ n t, v = .int n t ∧ n = tgt j) ⟨_, _, rfl, e0.symm⟩ ⟨_, _, rfl, e1.symm⟩ ⟨_, _, rfl, e2.symm⟩ ⟨_, _, rfl, e3.symm⟩) ?_
      rintro k v w' hk ⟨f, u, rfl, hf⟩ ⟨n', t', rfl, hn⟩
      exact eqAt_fe hf (by rw [hn])
    · rename News h₀ _ _ _ => NN
      exact hQ _ ot1 hot1 (by assumption) (fun q hq => NN q (by first | with_reducible exact hq | with_reducible exact List.mem_cons_of_mem _ (hq) | with_reducible exact List.mem_cons_of_mem _ (List.mem_cons_of_mem _ (hq)) | with_reducible exact List.mem_cons_of_mem _ (List.mem_cons_of_mem _ (List.mem_cons_of_mem _ (hq))) | with_reducible exact List.mem_cons_of_mem _ (List.mem_cons_of_mem _ (List.mem_cons_of_mem _ (List.mem_cons_of_mem _ (hq)))) | with_reducible exact List.mem_cons_of_mem _ (List.mem_cons_of_mem _ (List.mem_cons_of_mem _ (List.mem_cons_of_mem _ (List.mem_cons_of_mem _ (hq))))) | with_reducible exact List.mem_cons_of_mem _ (List.mem_cons_of_mem _ (List.mem_cons_of_mem _ (List.mem_cons_of_mem _ (List.mem_cons_of_mem _ (List.mem_cons_of_mem _ (hq)))))) | with_reducible exact List.mem_cons_of_mem _ (List.mem_cons_of_mem _ (List.mem_cons_of_mem _ (List.mem_cons_of_mem _ (List.mem_cons_of_mem _ (List.mem_cons_of_mem _ (List.mem_cons_of_mem _ (hq))))))) | with_reducible exact List.mem_cons_of_mem _ (List.mem_cons_of_mem _ (List.mem_cons_of_mem _ (List.mem_cons_of_mem _ (List.mem_cons_of_mem _ (List.mem_cons_of_mem _ (List.mem_cons_of_mem _ (List.mem_cons_of_mem _ (hq)))))))) | with_reducible exact List.mem_cons_of_mem _ (List.mem_cons_of_mem _ (List.mem_cons_of_mem _ (List.mem_cons_of_mem _ (List.mem_cons_of_mem _ (List.mem_cons_of_mem _ (List.mem_cons_of_mem _ (List.mem_cons_of_mem _ (List.mem_cons_of_mem _ (hq))))))))))) g3 g1 g2
theorem seg23 (news : List (Addr × Obj)) (oP : Obj) (PR : Addr) (hP : oP.data = .cell (some (.ref PR))) (pvs : List Value) (cP : Nat) (xs : List Int) (ix : IntsAre pvs xs) (nx : xs.length ≤ 16) (nx2 : 2 ≤ xs.length)
   (N : News h₀ L s.heap ((L + 1, oP) :: (PR, listOf pvs.toArray cP) :: news))
   (hQ : ∀ RR rvs c own s', AllAt (PPair own) rvs [0, 1, 2, 3] → (∀ q ∈ news, q ∈ own) → Fr h₀ L s'.heap (fun y => if y = Str.ofString "refused" then some (.ref RR) else m y) → News h₀ L s'.heap ((RR, listOf rvs.toArray c) :: own) → s'.gens = s.gens → s'.drawn = s.drawn → s'.os = s.os → Q .next s') :
   wpAny (model PySem.Challenge.pw_rw0072_01 w) (ktrTop dp un gd cn lawScope L a ccd (lawCells L) []) (exec (lawStmt 23) (envX cn lawScope L a ccd (lawCells L))) Q E s := by
  have sx := mineSize ix
  k_steps
  rename IntsAre _ (List.take 1 xs) => t0
  have st0 := mineSize t0
  clear t0
  rename IntsAre _ (List.take 1 xs) => t0
  have st1 := mineSize t0
  clear t0
  rename IntsAre _ (List.drop 1 xs) => t0
  have sd0 := mineSize t0
  clear t0
  rename IntsAre _ (List.drop 1 xs) => t0
  have sd1 := mineSize t0
  clear t0
  rw [List.length_take] at st0 st1
  rw [List.length_drop] at sd0 sd1
  rename News h₀ _ _ _ => NN
  rename Fr h₀ _ _ _ => FF
  refine' hQ _ [_, _, _, _] _ _ _ ?a1 (fun q hq => ?a2) FF NN rfl rfl rfl
  case a2 => repeat (first | with_reducible exact hq | refine List.mem_cons_of_mem _ ?_)
  case a1 =>
    refine all4 ?_ ?_ ?_ ?_
    · exact ⟨_, _, _, _, _, _, _, _, _, _, rfl, by k_mem, by k_mem, by k_mem, sx, sd1, by omega, by omega, .inl (by omega)⟩
    · exact ⟨_, _, _, _, _, _, _, _, _, _, rfl, by k_mem, by k_mem, by k_mem, sd0, sx, by omega, by omega, .inl (by omega)⟩
    · exact ⟨_, _, _, _, _, _, _, _, _, _, rfl, by k_mem, by k_mem, by k_mem, st1, st0, by omega, by omega, .inr ⟨rfl, by omega⟩⟩
    · exact ⟨_, _, _, [], [], _, _, _, 0, 0, rfl, by k_mem, by k_mem, by k_mem, rfl, rfl, by omega, by omega, .inr ⟨rfl, by omega⟩⟩
end
theorem filled_last : True := by
  k_with "call ref" => (k_here; (with_reducible show wpAny _ _ (call (Value.ref 164) _) _ _ _); k_dflt (refine' tog_ref1 (gd := _) (cn := _) (a := _) (ccd := _) (cl := _) (E := _) (B := ?t60qx_B) (XB := ?t60qx_XB) (TB := ?t60qx_TB) (F := ?t60qx_F) (KX := ?t60qx_KX) (N := ?t60qx_N) (T := ?t60qx_T) (hk := ?t60qx_hk) (sx := ?t60qx_sx) (sy := ?t60qx_sy) (n1000 := ?t60qx_n1) (n1001 := ?t60qx_n2) (hne := ?t60qx_ne) (hd1 := ?t60qx_hd1) (hu1 := ?t60qx_hu1) (hQ := ?_); (case t60qx_B => k_asm); (case t60qx_XB | t60qx_TB => with_reducible assumption); (case t60qx_F | t60qx_KX => k_asm); (case t60qx_N => with_reducible assumption); (case t60qx_T => k_asm); (case t60qx_hk => exact rfl); (case t60qx_sx | t60qx_sy | t60qx_ne | t60qx_n1 | t60qx_n2 => with_reducible assumption); (case t60qx_hd1 | t60qx_hu1 => omega); k_whole; intro zzt zzs zzF zzN zzg1 zzg2 zzg3))
  k_with "call ref" => (k_here; (with_reducible show wpAny _ _ (call (Value.ref 164) _) _ _ _); k_dflt (refine' tog_ref2 (gd := _) (cn := _) (a := _) (ccd := _) (cl := _) (E := _) (B := ?t61qx_B) (XB := ?t61qx_XB) (TB := ?t61qx_TB) (F := ?t61qx_F) (KX := ?t61qx_KX) (N := ?t61qx_N) (T := ?t61qx_T) (hk := ?t61qx_hk) (sx := ?t61qx_sx) (sy := ?t61qx_sy) (n1000 := ?t61qx_n1) (n2 := ?t61qx_n2) (hd1 := ?t61qx_hd1) (hu1 := ?t61qx_hu1) (hQ := ?_); (case t61qx_B => k_asm); (case t61qx_XB | t61qx_TB => with_reducible assumption); (case t61qx_F | t61qx_KX => k_asm); (case t61qx_N => with_reducible assumption); (case t61qx_T => k_asm); (case t61qx_hk => exact rfl); (case t61qx_sx | t61qx_sy | t61qx_n2 | t61qx_n1 => with_reducible assumption); (case t61qx_hd1 | t61qx_hu1 => omega); k_whole; intro zzt zzs zzF zzN zzg1 zzg2 zzg3))
  trivial
section
variable (w : World) (p : Program) (loose : List Str) (mean : ExcName → Option Value) (mg mb : Str → Option Value)
   (dp un : Nat) (gd : Option (List Code)) (cn : Str) (a : Addr) (ccd : Value) (cl : List (Str × Addr)) (A₀ : Around) (base h₀ : Heap) (L : Addr) (m : Str → Option Value) (s : Shared) (Q : Flow → Shared → Prop) (E : Value → Shared → Prop)
   (B : Below A₀ base [] h₀) (XB : (hd.heap_39 w.params).In base) (TB : Top p loose mean mg mb base) (KX : (hd.heap_39 w.params).In h₀) (T : Top p loose mean mg mb h₀)
   (hd1 : dp + 12 < recursionLimit) (hu1 : un + 60 < cLine)
   (F : Fr h₀ L s.heap m)
include B XB TB KX T hd1 hu1 F
theorem seg24 (news : List (Addr × Obj)) (ot : Obj) (hot : CodeTab ot) (RR : Addr) (rvs : List Value) (c0 : Nat) (hs : AllAt (PPair news) rvs [0, 1, 2, 3])
   (N : News h₀ L s.heap ((94, ot) :: (RR, listOf rvs.toArray c0) :: news)) (hr : m (Str.ofString "refused") = some (.ref RR))
   (hQ : ∀ s' ot', CodeTab ot' → Fr h₀ L s'.heap m → News h₀ L s'.heap ((94, ot') :: news) → ((∀ y ∈ s.gens, y.bare = true) → ∀ y ∈ s'.gens, y.bare = true) → s'.drawn = s.drawn → s'.os = s.os → Q (.ret (.bool true)) s') :
   wpAny (model PySem.Challenge.pw_rw0072_01 w) (ktrTop dp un gd cn lawScope L a ccd (lawCells L) []) (exec (lawStmt 24) (envX cn lawScope L a ccd (lawCells L))) Q E s := by
  obtain ⟨m₀, rfl⟩ : ∃ m₀, m = fun y => if y = Str.ofString "refused" then some (.ref RR) else m₀ y := ⟨m, pull hr⟩
  conv => arg 3; arg 1; whnf
  have h94 := (N _ (.head _)).2
  have N0 : News h₀ L s.heap ((RR, listOf rvs.toArray c0) :: news) := drop1 N
  have G0 : GL s s := ⟨rfl, rfl, fun h => h, ot, hot, (N _ (.head _)).1⟩
  clear N
  repeat ((fail_if_success (with_reducible show wpAny _ _ (eval (Expr.ListComp _ _ _ _) _) _ _ _)); (first | (k_unfold; (try dsimp only)) | walk1 | (dsimp only; walk1)))
  refine compPair_of (h₀ := h₀) (L := L) (ax := RR) (c := c0) (m := fun y => if y = Str.ofString "refused" then some (.ref RR) else m₀ y) (news := (RR, listOf rvs.toArray c0) :: news) 94 (GL s) (GL.at s) (GL.keep s) rfl (Ps := PPair news) (Pd := fun j y => ∃ t, y = .str (Str.ofString "refused") t) hs (by rw [hs.length]; decide) (by with_unfolding_all rfl) (by decide) (by rfl) (by decide) (by rfl) (by rfl) (by decide) ?hpair ?hh0 ?stp ?fn
  case hpair =>
    rintro j v hj ⟨p, a, b, va, vb, cp, ca, cb, na, nb, rfl, h1, h2, h3, h4⟩
    exact ⟨p, _, _, cp, rfl, .tail _ h1⟩
  case hh0 =>
    k_steps
    exact ⟨rfl, _, rfl, GL.keep s _ _ _ G0 rfl, F, N0, .head _⟩
  case stp =>
    rintro j l v1 v2 cp I oI C oC D ys m₂ s₁ hj hpp hlm hC hx hx2 hG F' N' ⟨pI, pC, pD⟩ off3
    obtain ⟨p', a, b, va, vb, cp', ca, cb, na, nb, e0, h1, h2, h3, sx, sy, n1, n2, hor⟩ := hpp
    cases e0
    have e1 := (N' _ (.tail _ (.tail _ (.tail _ hlm)))).1
    have e2 := (N' _ (.tail _ (.tail _ (.tail _ (.tail _ h1))))).1
    obtain ⟨rfl, rfl⟩ := two_same (e1.symm.trans e2)
    obtain ⟨g1, g2, g3, ot1, hot1, hat⟩ := hG
    have N2 : News h₀ L s₁.heap ((a, listOf va.toArray ca) :: (b, listOf vb.toArray cb) :: (I, oI) :: (C, oC) :: (D, LCg.lst ys) :: (94, ot1) :: (RR, listOf rvs.toArray c0) :: news) := fun q hq => by
      rcases List.mem_cons.mp hq with rfl | hq
      · exact N' _ (.tail _ (.tail _ (.tail _ (.tail _ h2))))
      rcases List.mem_cons.mp hq with rfl | hq
      · exact N' _ (.tail _ (.tail _ (.tail _ (.tail _ h3))))
      rcases List.mem_cons.mp hq with rfl | hq
      · exact N' _ (.head _)
      rcases List.mem_cons.mp hq with rfl | hq
      · exact N' _ (.tail _ (.head _))
      rcases List.mem_cons.mp hq with rfl | hq
      · exact N' _ (.tail _ (.tail _ (.head _)))
      rcases List.mem_cons.mp hq with rfl | hq
      · exact ⟨hat, h94⟩
      · exact N' _ (.tail _ (.tail _ (.tail _ hq)))
    clear N'
    rcases hor with hne | ⟨rfl, hlt⟩
    · k_steps
      rename News h₀ _ _ _ => NN
      rename (Shared.gens _ = Shared.gens s₁) => e3
      refine' ⟨⟨?a4, ?a5, ?a6, _, hot1, (NN _ (.tail _ (.tail _ (.tail _ (.tail _ (.tail _ (.head _))))))).1⟩, ?a1, (fun q hq => NN q ?a7), _, rfl⟩
      case a1 => assumption
      case a4 => exact Eq.trans (by assumption) g1
      case a5 => exact Eq.trans (by assumption) g2
      case a6 => (intro h y hy; rw [e3] at hy; exact g3 h y hy)
      case a7 =>
        rcases List.mem_cons.mp hq with rfl | hq
        · exact .tail _ (.tail _ (.head _))
        rcases List.mem_cons.mp hq with rfl | hq
        · exact .tail _ (.tail _ (.tail _ (.head _)))
        rcases List.mem_cons.mp hq with rfl | hq
        · exact .tail _ (.tail _ (.tail _ (.tail _ (.head _))))
        · exact .tail _ (.tail _ (.tail _ (.tail _ (.tail _ (.tail _ hq)))))
    · k_steps
      rename News h₀ _ _ _ => NN
      rename (Shared.gens _ = Shared.gens s₁) => e3
      refine' ⟨⟨?a4, ?a5, ?a6, _, hot1, (NN _ (.tail _ (.tail _ (.tail _ (.tail _ (.tail _ (.head _))))))).1⟩, ?a1, (fun q hq => NN q ?a7), _, rfl⟩
      case a1 => assumption
      case a4 => exact Eq.trans (by assumption) g1
      case a5 => exact Eq.trans (by assumption) g2
      case a6 => (intro h y hy; rw [e3] at hy; exact g3 h y hy)
      case a7 =>
        rcases List.mem_cons.mp hq with rfl | hq
        · exact .tail _ (.tail _ (.head _))
        rcases List.mem_cons.mp hq with rfl | hq
        · exact .tail _ (.tail _ (.tail _ (.head _)))
        rcases List.mem_cons.mp hq with rfl | hq
        · exact .tail _ (.tail _ (.tail _ (.tail _ (.head _))))
        · exact .tail _ (.tail _ (.tail _ (.tail _ (.tail _ (.tail _ hq)))))
  case fn =>
    rintro D ys s' hJ ⟨g1, g2, g3, ot1, hot1, hat⟩ F' N'
    have N2 : News h₀ L s'.heap ((D, LCg.lst ys) :: (94, ot1) :: (RR, listOf rvs.toArray c0) :: news) := fun q hq => by
      rcases List.mem_cons.mp hq with rfl | hq
      · exact N' _ (.head _)
      rcases List.mem_cons.mp hq with rfl | hq
      · exact ⟨hat, h94⟩
      · exact N' _ (.tail _ hq)
    clear N'
    k_steps
    k_here
    refine KMa.mul (vs := [_]) (ws := [_, _, _, _]) (by k_asm) (by assumption) (News.isList (by assumption) (.head _)) (by decide) (by decide) (Nat.le_of_ble_eq_true rfl) rfl ?_
    intro D' h' F' N' l1'
    k_steps
    · refine eqAll_of hJ (all4 (P := fun j v => ∃ t, v = .str (Str.ofString "refused") t) ⟨_, rfl⟩ ⟨_, rfl⟩ ⟨_, rfl⟩ ⟨_, rfl⟩) ?_
      rintro k v w' hk ⟨t, rfl⟩ ⟨t', rfl⟩
      exact eqAt_ss
    · rename News h₀ _ _ _ => NN
      refine' hQ _ ot1 hot1 (by assumption) (fun q hq => NN q ?b1) g3 g1 g2
      case b1 =>
        rcases List.mem_cons.mp hq with rfl | hq
        · k_mem
        · repeat (first | with_reducible exact hq | refine List.mem_cons_of_mem _ ?_)
end
theorem filled_none : True := by
  k_with_none
  trivial
end segs
end Mine
end walks
section mFA
open PySem PySem.Spec PySem.Calls PySem.W PyProof.Rows
set_option maxRecDepth 100000
set_option genInjectivity false
set_option genSizeOf false
namespace Mine
/-- the law's parents -/
def kOf (n1 n2 n3 n4 : Int) : KidPar := ⟨mkAt (n1 / 1000 % 3), mkAt (n3 / 1000 % 3), n1 % 1000, n3 % 1000, n2 % 100, n4 % 100⟩
def KidPar.both (K : KidPar) : Int := 100 * (K.h0 + (K.h1 + 0)) + (K.t0 + (K.t1 + 0))
def KidPar.change (K : KidPar) : Int := 100 * (K.h1 - K.h0)
def KidPar.small (K : KidPar) : Int := K.t1 - K.t0
def KidPar.near (K : KidPar) : Int := iabs (iabs K.change - iabs K.small)
def KidPar.wide (K : KidPar) : Int := iabs K.change + iabs K.small
def KidPar.gap (K : KidPar) : Int := K.change + K.small
def KidPar.tk (K : KidPar) : List Nat := (List.range 16).filter fun k => decide (K.f k = K.l k)
def KidPar.side (K : KidPar) (j k : Nat) : Int := if j = 0 then hsd k else if j = 1 then tsd k else if j = 2 then hsd k * tsd k else K.port k
/-- what the law's walk asks of the numbers -/
structure Facts (K : KidPar) where
  n : Nat
  q : Nat
  k : Nat
  ltk : K.tk.length = n
  ys : List Int
  cuts : List Int
  bx : ∀ x ∈ K.tk.map K.port, -(2 ^ 30) ≤ x ∧ x ≤ 2 ^ 30
  hys : SortOf ys (K.tk.map K.port)
  ly : ys.length ≤ 1000
  n8 : 8 ≤ n
  n16 : n ≤ 16
  hn : n = 2 * k
  hn' : n / 2 = k
  v0 : Int
  v1 : Int
  a0 : At0 ys ((k : Int) - 1) v0
  a1 : At0 ys (k : Int) v1
  hc : 256 * (K.tk.map K.port).sum = (128 * K.both) * n
  hc' : 256 * (v0 + v1) = (128 * K.both) * 2
  bb : K.both.natAbs < 1000000
  vb : -(2 ^ 30) ≤ v0 ∧ v0 ≤ 2 ^ 30 ∧ -(2 ^ 30) ≤ v1 ∧ v1 ≤ 2 ^ 30
  e0 : 2 * v0 = K.both - K.near
  e1 : 2 * v1 = K.both + K.near
  hsm : Builtin.Range.small 1 ((n : Int) + 1) 1 = true
  hsz : Builtin.Range.rangeSize 1 ((n : Int) + 1) 1 = (n : Int)
  hcl : cuts.length = n
  hcut : ∀ i, i < n → CutStep ys ((n : Int) + 1) n i (cuts.getD i 0)
  cutb : ∀ i, i < n → (cuts.getD i 0).natAbs < 2 ^ 40
  hq : (n : Int) / 4 = (q : Int)
  q100 : q ≤ 100
  hsm2 : Builtin.Range.small 0 (q : Int) 1 = true
  hrs2 : Builtin.Range.rangeSize 0 (q : Int) 1 = (q : Int)
  f : Nat → Nat
  hfl : ([0, 1, 2, 3] : List Nat).flatMap (fun k => List.replicate q k) = (List.range n).map f
  wy : Nat → Int
  w0 : wy 0 = -K.wide
  w1 : wy 1 = -K.near
  w2 : wy 2 = K.near
  w3 : wy 3 = K.wide
  heq : ∀ k, k < n → 2 * cuts.getD k 0 = 256 * (K.both + wy (f k))
  p0 : Int
  p3 : Int
  i0 : At0 (K.tk.map K.port) 0 p0
  i3 : At0 (K.tk.map K.port) 3 p3
  b1 : 0 ≤ p0 ∧ p0 < 100000
  b2 : 0 ≤ p3 ∧ p3 < 100000
  ys3 : List Int
  ys3' : List Int
  ys4 : List Int
  ys4' : List Int
  cu : List Int
  cu' : List Int
  sc : List Int
  sc' : List Int
  r1 : Nat → Int
  r2 : Nat → Int
  r1' : Nat → Int
  r2' : Nat → Int
  H1 : RowMid p0 p3 ys3
  H2 : RowCut p0 p3 ys4 cu sc
  H3 : RowTog p0 p3 K.gap r1 r2
  H1' : RowMid p3 p0 ys3'
  H2' : RowCut p3 p0 ys4' cu' sc'
  H3' : RowTog p3 p0 K.gap r1' r2'
  hg : ∀ j k, j < 4 → -200000 < K.side j k ∧ K.side j k < 200000
  bc : -100000 < K.change ∧ K.change < 100000
  bs : -100000 < K.small ∧ K.small < 100000
  bq : 0 ≤ K.change * K.change + K.small * K.small ∧ K.change * K.change + K.small * K.small ≤ 20000000000
  tgt : Nat → Int
  htog : ∀ j, j < 4 → TogOk (K.tk.map K.port) (K.tk.map fun k => ((n : Int) - 1) * K.side j k) n (256 * tgt j)
  t0 : tgt 0 = (n : Int) / 2 * K.change
  t1 : tgt 1 = (n : Int) / 2 * K.small
  t2 : tgt 2 = 0
  t3 : tgt 3 = (n : Int) / 4 * (K.change * K.change + K.small * K.small)
end Mine
end mFA
section mNUM
open PySem PySem.Spec PySem.Calls PySem.W PyProof.Rows
set_option maxRecDepth 100000
set_option maxHeartbeats 0
namespace Mine
theorem sum_range_map (u : Nat → Int) : ∀ n, ((List.range n).map u).sum = preSum u n
  | 0 => rfl
  | n + 1 => by
    rw [List.range_succ, List.map_append, List.sum_append, sum_range_map u n]
    show preSum u n + (u n + 0) = preSum u n + u n
    omega
theorem per_at {u : Nat → Int} (hu : ∀ i, u (i + 4) = u i) : ∀ q r, u (4 * q + r) = u r
  | 0, r => by rw [Nat.mul_zero, Nat.zero_add]
  | q + 1, r => by rw [show 4 * (q + 1) + r = 4 * q + r + 4 by omega, hu, per_at hu q r]
theorem preSum_per {u : Nat → Int} (hu : ∀ i, u (i + 4) = u i) : ∀ q : Nat, preSum u (4 * q) = (q : Int) * (u 0 + u 1 + u 2 + u 3)
  | 0 => by rw [Nat.mul_zero]; show (0 : Int) = ((0 : Nat) : Int) * _; simp
  | q + 1 => by
    rw [show 4 * (q + 1) = 4 * q + 1 + 1 + 1 + 1 by omega]
    show preSum u (4 * q) + u (4 * q) + u (4 * q + 1) + u (4 * q + 1 + 1) + u (4 * q + 1 + 1 + 1) = _
    rw [preSum_per hu q, show 4 * q = 4 * q + 0 from rfl, per_at hu q 0, show 4 * q + 0 + 1 = 4 * q + 1 from rfl, per_at hu q 1, show 4 * q + 1 + 1 = 4 * q + 2 from rfl, per_at hu q 2, show 4 * q + 2 + 1 = 4 * q + 3 from rfl, per_at hu q 3, Int.natCast_add, Int.add_mul]
    show _ = _ + 1 * _
    omega
theorem preSum_le {e : Nat → Int} {B : Nat} (h : ∀ i, (e i).natAbs ≤ B) : ∀ i, (preSum e i).natAbs ≤ i * B
  | 0 => by show (0 : Int).natAbs ≤ _; simp
  | i + 1 => by
    have h1 := preSum_le h i
    have h2 := h i
    show (preSum e i + e i).natAbs ≤ _
    rw [Nat.succ_mul]
    omega
theorem getD_range_map {u : Nat → Int} {n i : Nat} (h : i < n) : ((List.range n).map u).getD i 0 = u i := by
  rw [List.getD_eq_getElem?_getD, List.getElem?_map, List.getElem?_range h]
  rfl
theorem mem_range_map {u : Nat → Int} {n : Nat} {P : Int → Prop} (h : ∀ i, P (u i)) : ∀ x ∈ (List.range n).map u, P x := by
  intro x hx
  obtain ⟨i, _, rfl⟩ := List.mem_map.mp hx
  exact h i
theorem abs_mul_le {a b : Int} {A B : Nat} (ha : a.natAbs ≤ A) (hb : b.natAbs ≤ B) : (a * b).natAbs ≤ A * B := by
  rw [Int.natAbs_mul]
  exact Nat.mul_le_mul ha hb
theorem tog_side {u a : Nat → Int} {bo tg : Int} {q : Nat} (hq : q = 2 ∨ q = 4) (hu : ∀ i, u (i + 4) = u i) (ha : ∀ i, a (i + 4) = a i) (bu : ∀ i, 0 ≤ u i ∧ u i < 100000) (ba : ∀ i, a i = 1 ∨ a i = -1) (bb : bo.natAbs < 1000000)
    (su : u 0 + u 1 + u 2 + u 3 = 2 * bo) (sa : a 0 + a 1 + a 2 + a 3 = 0) (sx : (2 * u 0 - bo) * a 0 + (2 * u 1 - bo) * a 1 + (2 * u 2 - bo) * a 2 + (2 * u 3 - bo) * a 3 = 4 * tg) (btg : tg.natAbs < 1000000) :
    TogOk ((List.range (4 * q)).map u) ((List.range (4 * q)).map fun i => (((4 * q : Nat) : Int) - 1) * a i) (4 * q) (256 * (((4 * q : Nat) : Int) / 2 * tg)) := by
  have hn : ∃ n1 : Int, ((4 * q : Nat) : Int) - 1 = n1 ∧ (n1 = 7 ∨ n1 = 15) := ⟨_, rfl, by omega⟩
  obtain ⟨n1, e1, h1⟩ := hn
  rw [e1]
  have hw : ∀ i, (2 * u i - bo).natAbs ≤ 1200000 := fun i => by have := bu i; omega
  have hab : ∀ i, (a i).natAbs ≤ 1 := fun i => by have := ba i; omega
  have heB : ∀ i, (128 * n1 * ((2 * u i - bo) * a i)).natAbs ≤ 2304000000 := fun i => by
    have := abs_mul_le (a := 128 * n1) (A := 1920) (by omega) (abs_mul_le (hw i) (hab i))
    omega
  have hP := preSum_le heB
  refine ⟨128 * bo, 0, fun i => 128 * n1 * ((2 * u i - bo) * a i), ?_, ?_, by omega, by decide, mem_range_map fun i => by have := bu i; omega, mem_range_map fun i => ?_, fun i hi => ?_, fun i hi => ?_, fun i hi => ?_, fun i _ => Nat.lt_of_le_of_lt (heB i) (by decide), fun i hi => by have := hP i; rcases hq with rfl | rfl <;> omega, ?_, ?_⟩
  · rw [sum_range_map, preSum_per hu, su]
    grind
  · rw [sum_range_map, preSum_per (fun i => by rw [ha]), ← Int.mul_add, ← Int.mul_add, ← Int.mul_add, sa]
    simp
  · rcases ba i with e | e <;> rw [e] <;> omega
  · rw [List.length_map, List.length_range] at hi
    rw [getD_range_map hi]
    have := hw i
    omega
  · rw [List.length_map, List.length_range] at hi
    rw [getD_range_map hi]
    rcases ba i with e | e <;> rw [e] <;> omega
  · rw [getD_range_map hi, getD_range_map hi]
    grind
  · rw [preSum_per (fun i => by rw [hu, ha]), ← Int.mul_add, ← Int.mul_add, ← Int.mul_add, sx]
    rcases hq with rfl | rfl
    · have : n1 = 7 := by omega
      subst this
      omega
    · have : n1 = 15 := by omega
      subst this
      omega
  · rcases hq with rfl | rfl <;> omega
theorem tog_sq {u : Nat → Int} {bo sq : Int} {q : Nat} (hq : q = 2 ∨ q = 4) (hu : ∀ i, u (i + 4) = u i) (bu : ∀ i, 0 ≤ u i ∧ u i < 100000) (bb : bo.natAbs < 1000000) (bw : ∀ i, (2 * u i - bo).natAbs ≤ 200000)
    (su : u 0 + u 1 + u 2 + u 3 = 2 * bo) (sx : (2 * u 0 - bo) * (2 * u 0 - bo) + (2 * u 1 - bo) * (2 * u 1 - bo) + (2 * u 2 - bo) * (2 * u 2 - bo) + (2 * u 3 - bo) * (2 * u 3 - bo) = 4 * sq) (bs : 0 ≤ sq ∧ sq ≤ 20000000000) :
    TogOk ((List.range (4 * q)).map u) ((List.range (4 * q)).map fun i => (((4 * q : Nat) : Int) - 1) * u i) (4 * q) (256 * (((4 * q : Nat) : Int) / 4 * sq)) := by
  have hn : ∃ n1 : Int, ((4 * q : Nat) : Int) - 1 = n1 ∧ (n1 = 7 ∨ n1 = 15) := ⟨_, rfl, by omega⟩
  obtain ⟨n1, e1, h1⟩ := hn
  rw [e1]
  have heB : ∀ i, (64 * n1 * ((2 * u i - bo) * (2 * u i - bo))).natAbs ≤ 38400000000000 := fun i => by
    have := abs_mul_le (a := 64 * n1) (A := 960) (by omega) (abs_mul_le (bw i) (bw i))
    omega
  have hP := preSum_le heB
  have nb : ∀ i, 0 ≤ n1 * u i ∧ n1 * u i ≤ 1500000 := fun i => by
    have := bu i
    rcases h1 with rfl | rfl <;> omega
  refine ⟨128 * bo, n1 * (128 * bo), fun i => 64 * n1 * ((2 * u i - bo) * (2 * u i - bo)), ?_, ?_, by omega, by rcases h1 with rfl | rfl <;> omega, mem_range_map fun i => by have := bu i; omega, mem_range_map fun i => by have := nb i; omega, fun i hi => ?_, fun i hi => ?_, fun i hi => ?_, fun i _ => Nat.lt_of_le_of_lt (heB i) (by decide), fun i hi => by have := hP i; rcases hq with rfl | rfl <;> omega, ?_, ?_⟩
  · rw [sum_range_map, preSum_per hu, su]
    grind
  · rw [sum_range_map, preSum_per (fun i => by rw [hu]), ← Int.mul_add, ← Int.mul_add, ← Int.mul_add, su]
    grind
  · rw [List.length_map, List.length_range] at hi
    rw [getD_range_map hi]
    have := bw i
    omega
  · rw [List.length_map, List.length_range] at hi
    rw [getD_range_map hi]
    have := nb i
    rcases h1 with rfl | rfl <;> omega
  · rw [getD_range_map hi, getD_range_map hi]
    grind
  · rw [preSum_per (fun i => by rw [hu]), ← Int.mul_add, ← Int.mul_add, ← Int.mul_add, sx]
    rcases hq with rfl | rfl
    · have : n1 = 7 := by omega
      subst this
      omega
    · have : n1 = 15 := by omega
      subst this
      omega
  · rcases hq with rfl | rfl <;> omega
end Mine
end mNUM
section mNUM2
open PySem PySem.Spec PySem.Calls PySem.W PyProof.Rows
set_option maxRecDepth 100000
set_option maxHeartbeats 0
namespace Mine
theorem at_lit {ys : List Int} {i : Nat} {v : Int} (h : i < ys.length) (e : ys.getD i 0 = v) : At0 ys (i : Int) v := ⟨by omega, by omega, by simpa using e⟩
theorem rowMid {one other : Int} (b1 : 0 ≤ one ∧ one < 100000) (b2 : 0 ≤ other ∧ other < 100000) : ∃ ys, RowMid one other ys := by
  have bx4 : ∀ x ∈ [one, other, one, one], -(2 ^ 30) ≤ x ∧ x ≤ 2 ^ 30 := by
    intro x hx
    simp only [List.mem_cons, List.not_mem_nil, or_false] at hx
    omega
  have bx3 : ∀ x ∈ [one, other, one], -(2 ^ 30) ≤ x ∧ x ≤ 2 ^ 30 := by
    intro x hx
    simp only [List.mem_cons, List.not_mem_nil, or_false] at hx
    omega
  have hc4 : 256 * [one, other, one, one].sum = (64 * (3 * one + other)) * ((4 : Nat) : Int) := by
    simp only [List.sum_cons, List.sum_nil]
    omega
  by_cases h : one ≤ other
  · refine ⟨[one, one, other], bx4, hc4, by omega, bx3, ⟨?_, ?_⟩, by simp, at_lit (by simp) rfl⟩
    · exact (List.Perm.swap other one []).cons one
    · simp only [List.pairwise_cons, List.mem_cons, List.not_mem_nil, or_false, forall_eq_or_imp, forall_eq, false_imp_iff, implies_true, List.Pairwise.nil, and_true, true_and]
      omega
  · refine ⟨[other, one, one], bx4, hc4, by omega, bx3, ⟨?_, ?_⟩, by simp, at_lit (by simp) rfl⟩
    · exact List.Perm.swap one other [one]
    · simp only [List.pairwise_cons, List.mem_cons, List.not_mem_nil, or_false, forall_eq_or_imp, forall_eq, false_imp_iff, implies_true, List.Pairwise.nil, and_true, true_and]
      omega
theorem lt3 {P : Nat → Prop} (h0 : P 0) (h1 : P 1) (h2 : P 2) : ∀ i, i < 3 → P i := by
  intro i hi
  match i, hi with
  | 0, _ => exact h0
  | 1, _ => exact h1
  | 2, _ => exact h2
theorem cut_mk {ys : List Int} {N : Int} {n i : Nat} {c : Int} (j0 j va vb : Int) (h1 : (1 + (i : Int)) * ((n : Int) + 1) / N = j0) (h2 : 1 ≤ j0) (h3 : (j0 ≤ (n : Int) - 1 ∧ j = j0) ∨ ((n : Int) - 1 < j0 ∧ j = (n : Int) - 1)) (h4 : At0 ys (j - 1) va) (h5 : At0 ys j vb) {d : Int} (hd : (1 + (i : Int)) * ((n : Int) + 1) - j * N = d)
    (h6 : 256 * (va * (N - d) + vb * d) = c * N) (h7 : c.natAbs < 2 ^ 53) (h8 : (va * (N - d) + vb * d).natAbs < 2 ^ 60) (h9 : -(2 ^ 30) ≤ va ∧ va ≤ 2 ^ 30) (h10 : -(2 ^ 30) ≤ vb ∧ vb ≤ 2 ^ 30) : CutStep ys N n i c := by
  subst hd
  exact ⟨j0, j, va, vb, h1, h2, h3, h4, ⟨h5⟩, h6, h7, h8, h9, h10⟩
theorem rowCut {one other : Int} (b1 : 0 ≤ one ∧ one < 100000) (b2 : 0 ≤ other ∧ other < 100000) : ∃ ys cuts sc, RowCut one other ys cuts sc := by
  have bx4 : ∀ x ∈ [one, other, one, one], -(2 ^ 30) ≤ x ∧ x ≤ 2 ^ 30 := by
    intro x hx
    simp only [List.mem_cons, List.not_mem_nil, or_false] at hx
    omega
  by_cases h : one ≤ other
  · refine ⟨[one, one, one, other], [256 * one, 256 * one, 64 * (one + 3 * other)], [4 * one, 4 * one, one + 3 * other], bx4, ⟨?_, ?_⟩, by simp, rfl, lt3 ?_ ?_ ?_, lt3 ?_ ?_ ?_, ⟨.refl _, ?_⟩, lt3 ?_ ?_ ?_, rfl⟩
    · exact (((List.Perm.swap other one []).cons one).trans (List.Perm.swap other one [one])).cons one
    · simp only [List.pairwise_cons, List.mem_cons, List.not_mem_nil, or_false, forall_eq_or_imp, forall_eq, false_imp_iff, implies_true, List.Pairwise.nil, and_true, true_and]
      omega
    · exact cut_mk 1 1 one one (d := 1) rfl (by decide) (.inl ⟨by decide, rfl⟩) (at_lit (i := 0) (by simp) rfl) (at_lit (i := 1) (by simp) rfl) rfl (by show 256 * (one * (4 - 1) + one * 1) = 256 * one * 4; omega) (by show (256 * one).natAbs < _; omega) (by omega) (by omega) (by omega)
    · exact cut_mk 2 2 one one (d := 2) rfl (by decide) (.inl ⟨by decide, rfl⟩) (at_lit (i := 1) (by simp) rfl) (at_lit (i := 2) (by simp) rfl) rfl (by show 256 * (one * (4 - 2) + one * 2) = 256 * one * 4; omega) (by show (256 * one).natAbs < _; omega) (by omega) (by omega) (by omega)
    · exact cut_mk 3 3 one other (d := 3) rfl (by decide) (.inl ⟨by decide, rfl⟩) (at_lit (i := 2) (by simp) rfl) (at_lit (i := 3) (by simp) rfl) rfl (by show 256 * (one * (4 - 3) + other * 3) = 64 * (one + 3 * other) * 4; omega) (by show (64 * (one + 3 * other)).natAbs < _; omega) (by omega) (by omega) (by omega)
    · show (256 * one).natAbs < _; omega
    · show (256 * one).natAbs < _; omega
    · show (64 * (one + 3 * other)).natAbs < _; omega
    · simp only [List.pairwise_cons, List.mem_cons, List.not_mem_nil, or_false, forall_eq_or_imp, forall_eq, false_imp_iff, implies_true, List.Pairwise.nil, and_true, true_and]
      omega
    · show 4 * (256 * one) = 256 * (4 * one); omega
    · show 4 * (256 * one) = 256 * (4 * one); omega
    · show 4 * (64 * (one + 3 * other)) = 256 * (one + 3 * other); omega
  · refine ⟨[other, one, one, one], [64 * (one + 3 * other), 256 * one, 256 * one], [one + 3 * other, 4 * one, 4 * one], bx4, ⟨?_, ?_⟩, by simp, rfl, lt3 ?_ ?_ ?_, lt3 ?_ ?_ ?_, ⟨?_, ?_⟩, lt3 ?_ ?_ ?_, rfl⟩
    · exact List.Perm.swap one other [one, one]
    · simp only [List.pairwise_cons, List.mem_cons, List.not_mem_nil, or_false, forall_eq_or_imp, forall_eq, false_imp_iff, implies_true, List.Pairwise.nil, and_true, true_and]
      omega
    · exact cut_mk 1 1 other one (d := 1) rfl (by decide) (.inl ⟨by decide, rfl⟩) (at_lit (i := 0) (by simp) rfl) (at_lit (i := 1) (by simp) rfl) rfl (by show 256 * (other * (4 - 1) + one * 1) = 64 * (one + 3 * other) * 4; omega) (by show (64 * (one + 3 * other)).natAbs < _; omega) (by omega) (by omega) (by omega)
    · exact cut_mk 2 2 one one (d := 2) rfl (by decide) (.inl ⟨by decide, rfl⟩) (at_lit (i := 1) (by simp) rfl) (at_lit (i := 2) (by simp) rfl) rfl (by show 256 * (one * (4 - 2) + one * 2) = 256 * one * 4; omega) (by show (256 * one).natAbs < _; omega) (by omega) (by omega) (by omega)
    · exact cut_mk 3 3 one one (d := 3) rfl (by decide) (.inl ⟨by decide, rfl⟩) (at_lit (i := 2) (by simp) rfl) (at_lit (i := 3) (by simp) rfl) rfl (by show 256 * (one * (4 - 3) + one * 3) = 256 * one * 4; omega) (by show (256 * one).natAbs < _; omega) (by omega) (by omega) (by omega)
    · show (64 * (one + 3 * other)).natAbs < _; omega
    · show (256 * one).natAbs < _; omega
    · show (256 * one).natAbs < _; omega
    · exact (List.Perm.swap (4 * one) (one + 3 * other) [4 * one]).trans ((List.Perm.swap (4 * one) (one + 3 * other) []).cons (4 * one))
    · simp only [List.pairwise_cons, List.mem_cons, List.not_mem_nil, or_false, forall_eq_or_imp, forall_eq, false_imp_iff, implies_true, List.Pairwise.nil, and_true, true_and]
      omega
    · show 4 * (64 * (one + 3 * other)) = 256 * (one + 3 * other); omega
    · show 4 * (256 * one) = 256 * (4 * one); omega
    · show 4 * (256 * one) = 256 * (4 * one); omega
theorem lt4 {P : Nat → Prop} (h0 : P 0) (h1 : P 1) (h2 : P 2) (h3 : P 3) : ∀ i, i < 4 → P i := by
  intro i hi
  match i, hi with
  | 0, _ => exact h0
  | 1, _ => exact h1
  | 2, _ => exact h2
  | 3, _ => exact h3
theorem lt2 {P : Nat → Prop} (h0 : P 0) (h1 : P 1) : ∀ i, i < 2 → P i := by
  intro i hi
  match i, hi with
  | 0, _ => exact h0
  | 1, _ => exact h1
theorem rowTog {one other gap : Int} (b1 : 0 ≤ one ∧ one < 100000) (b2 : 0 ≤ other ∧ other < 100000) (hg : gap = other - one ∨ gap = one - other) (gb : -100000 < gap ∧ gap < 100000) : ∃ e1 e2, RowTog one other gap e1 e2 := by
  have sq : ∃ G, gap * gap = G ∧ (one - other) * (one - other) = G ∧ 0 ≤ G ∧ G ≤ 10000000000 := by
    refine ⟨gap * gap, rfl, ?_, ?_, ?_⟩
    · rcases hg with rfl | rfl <;> grind
    · have := Int.natAbs_mul_self (a := gap)
      omega
    · have h1 := abs_mul_le (a := gap) (b := gap) (A := 100000) (B := 100000) (by omega) (by omega)
      omega
  obtain ⟨G, hG, hD, g0, g1⟩ := sq
  refine ⟨fun i => if i = 1 then 144 * G else 16 * G, fun _ => -(64 * G), ?_⟩
  have bx4 : ∀ x ∈ [one, other, one, one], -(2 ^ 30) ≤ x ∧ x ≤ 2 ^ 30 := by
    intro x hx
    simp only [List.mem_cons, List.not_mem_nil, or_false] at hx
    omega
  have bx2 : ∀ x ∈ [one, other], -(2 ^ 30) ≤ x ∧ x ≤ 2 ^ 30 := by
    intro x hx
    simp only [List.mem_cons, List.not_mem_nil, or_false] at hx
    omega
  have by2 : ∀ x ∈ [other, one], -(2 ^ 30) ≤ x ∧ x ≤ 2 ^ 30 := by
    intro x hx
    simp only [List.mem_cons, List.not_mem_nil, or_false] at hx
    omega
  have hP1 : ∀ i, (preSum (fun i => if i = 1 then 144 * G else 16 * G) i).natAbs ≤ i * 1440000000000 := preSum_le (fun i => by split <;> omega)
  have hP2 : ∀ i, (preSum (fun _ => -(64 * G)) i).natAbs ≤ i * 640000000000 := preSum_le (fun i => by omega)
  exact {
    bx4 := bx4
    hc4 := by simp only [List.sum_cons, List.sum_nil]; omega
    cb4 := by omega
    hd4 := lt4 (by show (256 * one - 64 * (3 * one + other)).natAbs < _; omega) (by show (256 * other - 64 * (3 * one + other)).natAbs < _; omega) (by show (256 * one - 64 * (3 * one + other)).natAbs < _; omega) (by show (256 * one - 64 * (3 * one + other)).natAbs < _; omega)
    he4 := lt4 (by show (256 * one - 64 * (3 * one + other)) * (256 * one - 64 * (3 * one + other)) = 256 * (16 * G); rw [← hD]; grind) (by show (256 * other - 64 * (3 * one + other)) * (256 * other - 64 * (3 * one + other)) = 256 * (144 * G); rw [← hD]; grind)
      (by show (256 * one - 64 * (3 * one + other)) * (256 * one - 64 * (3 * one + other)) = 256 * (16 * G); rw [← hD]; grind) (by show (256 * one - 64 * (3 * one + other)) * (256 * one - 64 * (3 * one + other)) = 256 * (16 * G); rw [← hD]; grind)
    heb4 := fun i _ => by split <;> omega
    hes4 := fun i hi => by have := hP1 i; omega
    hR4 := by show (((0 : Int) + 16 * G) + 144 * G) + 16 * G + 16 * G = (64 * (gap * gap)) * (((4 : Nat) : Int) - 1); rw [hG]; omega
    hRb4 := by rw [hG]; omega
    bx2 := bx2
    by2 := by2
    hc2 := by simp only [List.sum_cons, List.sum_nil]; omega
    hc2' := by simp only [List.sum_cons, List.sum_nil]; omega
    cb2 := by omega
    hd2 := lt2 (by show (256 * one - 128 * (one + other)).natAbs < _; omega) (by show (256 * other - 128 * (one + other)).natAbs < _; omega)
    hd2' := lt2 (by show (256 * other - 128 * (one + other)).natAbs < _; omega) (by show (256 * one - 128 * (one + other)).natAbs < _; omega)
    he2 := lt2 (by show (256 * one - 128 * (one + other)) * (256 * other - 128 * (one + other)) = 256 * (-(64 * G)); rw [← hD]; grind) (by show (256 * other - 128 * (one + other)) * (256 * one - 128 * (one + other)) = 256 * (-(64 * G)); rw [← hD]; grind)
    heb2 := fun i _ => by omega
    hes2 := fun i hi => by have := hP2 i; omega
    hR2 := by show ((0 : Int) + -(64 * G)) + -(64 * G) = (-(128 * (gap * gap))) * (((2 : Nat) : Int) - 1); rw [hG]; omega
    hRb2 := by rw [hG]; omega
    gb := by rw [hG]; omega
    gg := by omega }
end Mine
end mNUM2
section mNUM3
open PySem PySem.Spec PySem.Calls PySem.W PyProof.Rows
set_option maxRecDepth 100000
set_option maxHeartbeats 0
namespace Mine
theorem iabs_or (x : Int) : (0 ≤ x ∧ iabs x = x) ∨ (x < 0 ∧ iabs x = -x) := by
  unfold iabs
  split
  · exact .inr ⟨by omega, rfl⟩
  · exact .inl ⟨by omega, rfl⟩
theorem order4 {g : Nat → Int} {bo c d : Int} (h0 : 2 * g 0 = bo - c - d) (h1 : 2 * g 1 = bo - c + d) (h2 : 2 * g 2 = bo + c - d) (h3 : 2 * g 3 = bo + c + d) :
    ∃ i0 i1 i2 i3 : Nat, [i0, i1, i2, i3].Perm [0, 1, 2, 3] ∧ 2 * g i0 = bo - (iabs c + iabs d) ∧ 2 * g i1 = bo - iabs (iabs c - iabs d) ∧ 2 * g i2 = bo + iabs (iabs c - iabs d) ∧ 2 * g i3 = bo + (iabs c + iabs d) := by
  rcases iabs_or c with ⟨c1, c2⟩ | ⟨c1, c2⟩ <;> rcases iabs_or d with ⟨d1, d2⟩ | ⟨d1, d2⟩ <;> rcases iabs_or (iabs c - iabs d) with ⟨n1, n2⟩ | ⟨n1, n2⟩
  · exact ⟨0, 1, 2, 3, by decide, by omega, by omega, by omega, by omega⟩
  · exact ⟨0, 2, 1, 3, by decide, by omega, by omega, by omega, by omega⟩
  · exact ⟨1, 0, 3, 2, by decide, by omega, by omega, by omega, by omega⟩
  · exact ⟨1, 3, 0, 2, by decide, by omega, by omega, by omega, by omega⟩
  · exact ⟨2, 3, 0, 1, by decide, by omega, by omega, by omega, by omega⟩
  · exact ⟨2, 0, 3, 1, by decide, by omega, by omega, by omega, by omega⟩
  · exact ⟨3, 2, 1, 0, by decide, by omega, by omega, by omega, by omega⟩
  · exact ⟨3, 1, 2, 0, by decide, by omega, by omega, by omega, by omega⟩
theorem iabs_sub_le (c d : Int) : 0 ≤ iabs (iabs c - iabs d) ∧ iabs (iabs c - iabs d) ≤ iabs c + iabs d := by
  rcases iabs_or c with ⟨c1, c2⟩ | ⟨c1, c2⟩ <;> rcases iabs_or d with ⟨d1, d2⟩ | ⟨d1, d2⟩ <;> rcases iabs_or (iabs c - iabs d) with ⟨n1, n2⟩ | ⟨n1, n2⟩ <;> omega
def sOf (a b c d : Int) (i : Nat) : Int := if i = 0 then a else if i = 1 then b else if i = 2 then c else d
theorem sOf_mono {a b c d : Int} (h1 : a ≤ b) (h2 : b ≤ c) (h3 : c ≤ d) {i j : Nat} (h : i ≤ j) : sOf a b c d i ≤ sOf a b c d j := by
  unfold sOf
  repeat' split
  all_goals omega
theorem sOf_all {P : Int → Prop} {a b c d : Int} (h0 : P a) (h1 : P b) (h2 : P c) (h3 : P d) (i : Nat) : P (sOf a b c d i) := by
  unfold sOf
  repeat' split
  all_goals assumption
theorem per_mod {u : Nat → Int} (hu : ∀ i, u (i + 4) = u i) (i : Nat) : u i = u (i % 4) := by
  have := per_at hu (i / 4) (i % 4)
  rwa [Nat.div_add_mod] at this
theorem sort_ports {g : Nat → Int} (hg : ∀ i, g (i + 4) = g i) {q i0 i1 i2 i3 : Nat} (hq : q = 2 ∨ q = 4) (hp : [i0, i1, i2, i3].Perm [0, 1, 2, 3]) (h1 : g i0 ≤ g i1) (h2 : g i1 ≤ g i2) (h3 : g i2 ≤ g i3) :
    SortOf ((List.range (4 * q)).map fun i => sOf (g i0) (g i1) (g i2) (g i3) (i / q)) ((List.range (4 * q)).map g) := by
  refine ⟨?_, ?_⟩
  · have e1 : ((List.range (4 * q)).map fun i => sOf (g i0) (g i1) (g i2) (g i3) (i / q)) = ([i0, i1, i2, i3].flatMap fun k => List.replicate q k).map g := by
      rcases hq with rfl | rfl <;> rfl
    have e2 : (List.range (4 * q)).map g = ((List.range (4 * q)).map fun i => i % 4).map g := by
      rw [List.map_map]
      exact List.map_congr_left fun i _ => per_mod hg i
    rw [e1, e2]
    refine List.Perm.map g ((List.Perm.flatMap_right _ hp).trans ?_)
    rcases hq with rfl | rfl <;> decide
  · rw [List.pairwise_map]
    refine List.pairwise_lt_range.imp fun {i j} h => sOf_mono h1 h2 h3 (Nat.div_le_div_right (Nat.le_of_lt h))
theorem small8 : Builtin.Range.small 1 (((4 * 2 : Nat) : Int) + 1) 1 = true ∧ Builtin.Range.rangeSize 1 (((4 * 2 : Nat) : Int) + 1) 1 = ((4 * 2 : Nat) : Int) := by decide +kernel
theorem small16 : Builtin.Range.small 1 (((4 * 4 : Nat) : Int) + 1) 1 = true ∧ Builtin.Range.rangeSize 1 (((4 * 4 : Nat) : Int) + 1) 1 = ((4 * 4 : Nat) : Int) := by decide +kernel
theorem cut_ports {s : Nat → Int} {q : Nat} (hq : q = 2 ∨ q = 4) (hs : ∀ i, 0 ≤ s i ∧ s i < 100000) : ∀ i, i < 4 * q → CutStep ((List.range (4 * q)).map fun i => s (i / q)) (((4 * q : Nat) : Int) + 1) (4 * q) i (((List.range (4 * q)).map fun i => 256 * s (i / q)).getD i 0) := by
  intro i hi
  rw [getD_range_map (u := fun i => 256 * s (i / q)) hi]
  have at' : ∀ k : Nat, k < 4 * q → At0 ((List.range (4 * q)).map fun i => s (i / q)) (k : Int) (s (k / q)) := fun k hk => at_lit (by rw [List.length_map, List.length_range]; exact hk) (getD_range_map (u := fun i => s (i / q)) hk)
  have bs := hs (i / q)
  have hN : (((4 * q : Nat) : Int) + 1) ≠ 0 := by omega
  by_cases hlt : i + 1 < 4 * q
  · have bs2 := hs ((i + 1) / q)
    refine cut_mk (1 + (i : Int)) (1 + (i : Int)) (s (i / q)) (s ((i + 1) / q)) (Int.mul_ediv_cancel _ hN) (by omega) (.inl ⟨by omega, rfl⟩) ?_ ?_ (Int.sub_self _) ?_ (by omega) ?_ (by omega) (by omega)
    · rw [show 1 + (i : Int) - 1 = ((i : Nat) : Int) by omega]
      exact at' i hi
    · rw [show 1 + (i : Int) = ((i + 1 : Nat) : Int) by omega]
      exact at' (i + 1) hlt
    · rw [Int.sub_zero, Int.mul_zero, Int.add_zero, Int.mul_assoc]
    · rw [Int.sub_zero, Int.mul_zero, Int.add_zero]
      rcases hq with rfl | rfl <;> omega
  · have e : i = 4 * q - 1 := by omega
    have bs2 := hs ((i - 1) / q)
    refine cut_mk (1 + (i : Int)) (i : Int) (s ((i - 1) / q)) (s (i / q)) (d := ((4 * q : Nat) : Int) + 1) (Int.mul_ediv_cancel _ hN) (by omega) (.inr ⟨by omega, by omega⟩) ?_ (at' i hi) ?_ ?_ (by omega) ?_ (by omega) (by omega)
    · rw [show (i : Int) - 1 = ((i - 1 : Nat) : Int) by omega]
      exact at' (i - 1) (by omega)
    · rcases hq with rfl | rfl <;> omega
    · rw [Int.sub_self, Int.mul_zero, Int.zero_add, Int.mul_assoc]
    · rw [Int.sub_self, Int.mul_zero, Int.zero_add]
      rcases hq with rfl | rfl <;> omega
end Mine
end mNUM3
section mNUM4
open PySem PySem.Spec PySem.Calls PySem.W PyProof.Rows
set_option maxRecDepth 100000
set_option maxHeartbeats 0
namespace Mine
theorem hsd_per (i : Nat) : hsd (i + 4) = hsd i := by unfold hsd; omega
theorem tsd_per (i : Nat) : tsd (i + 4) = tsd i := by unfold tsd; omega
theorem hsd_one (i : Nat) : hsd i = 1 ∨ hsd i = -1 := by unfold hsd; omega
theorem tsd_one (i : Nat) : tsd i = 1 ∨ tsd i = -1 := by unfold tsd; omega
theorem pick_bd {a b k B : Int} (ha : 0 ≤ a ∧ a < B) (hb : 0 ≤ b ∧ b < B) : 0 ≤ pick a b k ∧ pick a b k < B := by
  unfold pick
  split
  · exact ha
  · exact hb
theorem port_per (K : KidPar) (i : Nat) : K.port (i + 4) = K.port i := by
  have e1 : (((i + 4 : Nat) : Int) / 2 % 2) = (i : Int) / 2 % 2 := by omega
  have e2 : (((i + 4 : Nat) : Int) % 2) = (i : Int) % 2 := by omega
  unfold KidPar.port KidPar.h KidPar.t
  rw [e1, e2]
theorem side_per (K : KidPar) (j i : Nat) : K.side j (i + 4) = K.side j i := by
  unfold KidPar.side
  rw [hsd_per, tsd_per, port_per]
theorem num_q {q : Nat} (hq : q = 2 ∨ q = 4) : 8 ≤ 4 * q ∧ 4 * q ≤ 16 ∧ 4 * q = 2 * (2 * q) ∧ 4 * q / 2 = 2 * q ∧ ((4 * q : Nat) : Int) / 4 = (q : Int) ∧ q ≤ 100 ∧ 4 * q ≤ 1000 ∧ (((2 * q : Nat) : Int) - 1) = ((2 * q - 1 : Nat) : Int) ∧ 2 * q - 1 < 4 * q ∧ 2 * q < 4 * q ∧ 0 < 4 * q ∧ 3 < 4 * q := by omega
theorem num_k {h0 h1 t0 t1 P0 P1 P2 P3 bo c d g : Int} (bh0 : 0 ≤ h0 ∧ h0 < 1000) (bh1 : 0 ≤ h1 ∧ h1 < 1000) (bt0 : 0 ≤ t0 ∧ t0 < 100) (bt1 : 0 ≤ t1 ∧ t1 < 100) (p0 : P0 = 100 * h0 + t0) (p1 : P1 = 100 * h0 + t1) (p2 : P2 = 100 * h1 + t0) (p3 : P3 = 100 * h1 + t1)
    (eb : bo = 100 * (h0 + (h1 + 0)) + (t0 + (t1 + 0))) (ec : c = 100 * (h1 - h0)) (es : d = t1 - t0) (eg : g = c + d) :
    (2 * P0 = bo - c - d ∧ 2 * P1 = bo - c + d ∧ 2 * P2 = bo + c - d ∧ 2 * P3 = bo + c + d) ∧ (0 ≤ bo ∧ bo < 200000) ∧ (-100000 < c ∧ c < 100000) ∧ (-100000 < d ∧ d < 100000) ∧ (-100000 < g ∧ g < 100000) ∧ g = P3 - P0 ∧ P0 + P1 + P2 + P3 = 2 * bo := by omega
theorem num_bd {h t : Int} (h1 : 0 ≤ h ∧ h < 1000) (h2 : 0 ≤ t ∧ t < 100) : 0 ≤ 100 * h + t ∧ 100 * h + t < 100000 := by omega
theorem num_sq {c d : Int} (bc : -100000 < c ∧ c < 100000) (bs : -100000 < d ∧ d < 100000) : 0 ≤ c * c + d * d ∧ c * c + d * d ≤ 20000000000 := by
  have h1 := Int.natAbs_mul_self (a := c)
  have h2 := Int.natAbs_mul_self (a := d)
  have h3 := abs_mul_le (a := c) (b := c) (A := 100000) (B := 100000) (by omega) (by omega)
  have h4 := abs_mul_le (a := d) (b := d) (A := 100000) (B := 100000) (by omega) (by omega)
  omega
theorem num_w {v bo c d : Int} (h : 2 * v = bo - c - d) : 2 * v - bo = -c - d := by omega
theorem num_w1 {v bo c d : Int} (h : 2 * v = bo - c + d) : 2 * v - bo = -c + d := by omega
theorem num_w2 {v bo c d : Int} (h : 2 * v = bo + c - d) : 2 * v - bo = c - d := by omega
theorem num_w3 {v bo c d : Int} (h : 2 * v = bo + c + d) : 2 * v - bo = c + d := by omega
theorem num_m {v bo w : Int} (h : 2 * v = bo - w) : 2 * v - bo = -w := by omega
theorem num_p {v bo w : Int} (h : 2 * v = bo + w) : 2 * v - bo = w := by omega
theorem num_le {u v bo x y : Int} (h1 : 2 * u = bo - x) (h2 : 2 * v = bo - y) (h : y ≤ x) : u ≤ v := by omega
theorem num_le2 {u v bo x : Int} (h1 : 2 * u = bo - x) (h2 : 2 * v = bo + x) (h : 0 ≤ x) : u ≤ v := by omega
theorem num_le3 {u v bo x y : Int} (h1 : 2 * u = bo + x) (h2 : 2 * v = bo + y) (h : x ≤ y) : u ≤ v := by omega
theorem num_30 {x : Int} (h : 0 ≤ x ∧ x < 100000) : -(2 ^ 30) ≤ x ∧ x ≤ 2 ^ 30 := by omega
theorem num_40 {x : Int} (h : 0 ≤ x ∧ x < 100000) : (256 * x).natAbs < 2 ^ 40 := by omega
theorem num_vb {x y : Int} (h : 0 ≤ x ∧ x < 100000) (h' : 0 ≤ y ∧ y < 100000) : -(2 ^ 30) ≤ x ∧ x ≤ 2 ^ 30 ∧ -(2 ^ 30) ≤ y ∧ y ≤ 2 ^ 30 := by omega
theorem num_c {x y bo w : Int} (h1 : 2 * x = bo - w) (h2 : 2 * y = bo + w) : 256 * (x + y) = (128 * bo) * 2 := by omega
theorem num_bo {bo : Int} (h : 0 ≤ bo ∧ bo < 200000) : bo.natAbs < 1000000 := by omega
theorem num_bw {x bo : Int} (h : 0 ≤ bo ∧ bo < 200000) (h' : 0 ≤ x ∧ x < 100000) : (2 * x - bo).natAbs ≤ 200000 := by omega
theorem num_abs {x : Int} (h : -100000 < x ∧ x < 100000) : x.natAbs < 1000000 := by omega
theorem num_hc {bo : Int} {q : Nat} : 256 * ((q : Int) * (2 * bo)) = 128 * bo * ((4 * q : Nat) : Int) := by grind
theorem num_eq {x bo : Int} : 2 * (256 * x) = 256 * (bo + (2 * x - bo)) := by omega
theorem num_t0 {c d : Int} : (-c - d) * -1 + (-c + d) * -1 + (c - d) * 1 + (c + d) * 1 = 4 * c := by omega
theorem num_t1 {c d : Int} : (-c - d) * -1 + (-c + d) * 1 + (c - d) * -1 + (c + d) * 1 = 4 * d := by omega
theorem num_t2 {c d : Int} : (-c - d) * (-1 * -1) + (-c + d) * (-1 * 1) + (c - d) * (1 * -1) + (c + d) * (1 * 1) = 4 * 0 := by omega
theorem num_t3 {c d : Int} : (-c - d) * (-c - d) + (-c + d) * (-c + d) + (c - d) * (c - d) + (c + d) * (c + d) = 4 * (c * c + d * d) := by grind
theorem side_bd {K : KidPar} (bp : ∀ i, 0 ≤ K.port i ∧ K.port i < 100000) (j k : Nat) : -200000 < K.side j k ∧ K.side j k < 200000 := by
  have h1 := hsd_one k
  have h2 := tsd_one k
  have h3 := bp k
  unfold KidPar.side
  split
  · omega
  split
  · omega
  split
  · rcases h1 with e | e <;> rcases h2 with e' | e' <;> rw [e, e'] <;> decide
  · omega
theorem hts_one (i : Nat) : hsd i * tsd i = 1 ∨ hsd i * tsd i = -1 := by
  rcases hsd_one i with e | e <;> rcases tsd_one i with e' | e' <;> rw [e, e'] <;> decide
theorem hsd_is : hsd 0 = -1 ∧ hsd 1 = -1 ∧ hsd 2 = 1 ∧ hsd 3 = 1 := by decide
theorem tsd_is : tsd 0 = -1 ∧ tsd 1 = 1 ∧ tsd 2 = -1 ∧ tsd 3 = 1 := by decide
theorem tog_K {K : KidPar} {q : Nat} (hq : q = 2 ∨ q = 4) (bp : ∀ i, 0 ≤ K.port i ∧ K.port i < 100000) (bo : 0 ≤ K.both ∧ K.both < 200000) (bc : -100000 < K.change ∧ K.change < 100000) (bs : -100000 < K.small ∧ K.small < 100000)
    (su : K.port 0 + K.port 1 + K.port 2 + K.port 3 = 2 * K.both) (w0 : 2 * K.port 0 - K.both = -K.change - K.small) (w1 : 2 * K.port 1 - K.both = -K.change + K.small) (w2 : 2 * K.port 2 - K.both = K.change - K.small) (w3 : 2 * K.port 3 - K.both = K.change + K.small) :
    ∀ j, j < 4 → TogOk ((List.range (4 * q)).map K.port) ((List.range (4 * q)).map fun k => (((4 * q : Nat) : Int) - 1) * K.side j k) (4 * q) (256 * (if j = 0 then ((4 * q : Nat) : Int) / 2 * K.change else if j = 1 then ((4 * q : Nat) : Int) / 2 * K.small else if j = 2 then 0 else ((4 * q : Nat) : Int) / 4 * (K.change * K.change + K.small * K.small))) := by
  have hp := port_per K
  have bb := num_bo bo
  have T0 := tog_side (tg := K.change) hq hp hsd_per bp hsd_one bb su (by rw [hsd_is.1, hsd_is.2.1, hsd_is.2.2.1, hsd_is.2.2.2]; rfl) (by rw [hsd_is.1, hsd_is.2.1, hsd_is.2.2.1, hsd_is.2.2.2, w0, w1, w2, w3]; exact num_t0) (num_abs bc)
  have T1 := tog_side (tg := K.small) hq hp tsd_per bp tsd_one bb su (by rw [tsd_is.1, tsd_is.2.1, tsd_is.2.2.1, tsd_is.2.2.2]; rfl) (by rw [tsd_is.1, tsd_is.2.1, tsd_is.2.2.1, tsd_is.2.2.2, w0, w1, w2, w3]; exact num_t1) (num_abs bs)
  have T2 := tog_side (a := fun i => hsd i * tsd i) (tg := 0) hq hp (fun i => by rw [hsd_per, tsd_per]) bp hts_one bb su
    (by rw [hsd_is.1, hsd_is.2.1, hsd_is.2.2.1, hsd_is.2.2.2, tsd_is.1, tsd_is.2.1, tsd_is.2.2.1, tsd_is.2.2.2]; rfl) (by rw [hsd_is.1, hsd_is.2.1, hsd_is.2.2.1, hsd_is.2.2.2, tsd_is.1, tsd_is.2.1, tsd_is.2.2.1, tsd_is.2.2.2, w0, w1, w2, w3]; exact num_t2) (by decide)
  have T3 := tog_sq (sq := K.change * K.change + K.small * K.small) hq hp bp bb (fun i => num_bw bo (bp i)) su (by rw [w0, w1, w2, w3]; exact num_t3) (num_sq bc bs)
  rw [Int.mul_zero] at T2
  exact lt4 T0 T1 T2 T3
theorem facts_q {K : KidPar} {q : Nat} (hq : q = 2 ∨ q = 4) (bh0 : 0 ≤ K.h0 ∧ K.h0 < 1000) (bh1 : 0 ≤ K.h1 ∧ K.h1 < 1000) (bt0 : 0 ≤ K.t0 ∧ K.t0 < 100) (bt1 : 0 ≤ K.t1 ∧ K.t1 < 100)
    (htk : ∀ u : Nat → Int, (∀ i, u (i + 4) = u i) → K.tk.map u = (List.range (4 * q)).map u) : Nonempty (Facts K) := by
  have ltk : K.tk.length = 4 * q := by
    have := congrArg List.length (htk (fun _ => 0) fun _ => rfl)
    rwa [List.length_map, List.length_map, List.length_range] at this
  have hp := port_per K
  have bp : ∀ i, 0 ≤ K.port i ∧ K.port i < 100000 := fun i => num_bd (pick_bd (k := (i : Int) / 2 % 2) bh0 bh1) (pick_bd (k := (i : Int) % 2) bt0 bt1)
  obtain ⟨⟨g0, g1, g2, g3⟩, bo, bc, bs, bg, eg, su⟩ := num_k (P0 := K.port 0) (P1 := K.port 1) (P2 := K.port 2) (P3 := K.port 3) (bo := K.both) (c := K.change) (d := K.small) (g := K.gap) bh0 bh1 bt0 bt1 rfl rfl rfl rfl rfl rfl rfl rfl
  have hnw : 0 ≤ K.near ∧ K.near ≤ K.wide := iabs_sub_le K.change K.small
  obtain ⟨i0, i1, i2, i3, hperm, s0, s1, s2, s3⟩ := order4 (g := K.port) g0 g1 g2 g3
  have hsort := sort_ports hp hq hperm (num_le s0 s1 hnw.2) (num_le2 s1 s2 hnw.1) (num_le3 s2 s3 hnw.2)
  rw [← htk _ hp] at hsort
  have hsb : ∀ i, 0 ≤ sOf (K.port i0) (K.port i1) (K.port i2) (K.port i3) i ∧ sOf (K.port i0) (K.port i1) (K.port i2) (K.port i3) i < 100000 := sOf_all (P := fun x => 0 ≤ x ∧ x < 100000) (bp i0) (bp i1) (bp i2) (bp i3)
  have hcut := cut_ports hq hsb
  have hc : ∀ i, i < 4 * q → ((List.range (4 * q)).map fun i => 256 * sOf (K.port i0) (K.port i1) (K.port i2) (K.port i3) (i / q)).getD i 0 = 256 * sOf (K.port i0) (K.port i1) (K.port i2) (K.port i3) (i / q) := fun i hi => getD_range_map (u := fun i => 256 * sOf (K.port i0) (K.port i1) (K.port i2) (K.port i3) (i / q)) hi
  have at' : ∀ k v, k < 4 * q → sOf (K.port i0) (K.port i1) (K.port i2) (K.port i3) (k / q) = v → At0 ((List.range (4 * q)).map fun i => sOf (K.port i0) (K.port i1) (K.port i2) (K.port i3) (i / q)) (k : Int) v :=
    fun k v hk e => at_lit (by rw [List.length_map, List.length_range]; exact hk) ((getD_range_map (u := fun i => sOf (K.port i0) (K.port i1) (K.port i2) (K.port i3) (i / q)) hk).trans e)
  have atx : ∀ k v, k < 4 * q → K.port k = v → At0 (K.tk.map K.port) (k : Int) v := fun k v hk e => by
    rw [htk _ hp]
    exact at_lit (by rw [List.length_map, List.length_range]; exact hk) ((getD_range_map hk).trans e)
  obtain ⟨ys3, H1⟩ := rowMid (one := K.port 0) (other := K.port 3) (bp 0) (bp 3)
  obtain ⟨ys3', H1'⟩ := rowMid (one := K.port 3) (other := K.port 0) (bp 3) (bp 0)
  obtain ⟨ys4, cu, sc, H2⟩ := rowCut (one := K.port 0) (other := K.port 3) (bp 0) (bp 3)
  obtain ⟨ys4', cu', sc', H2'⟩ := rowCut (one := K.port 3) (other := K.port 0) (bp 3) (bp 0)
  obtain ⟨r1, r2, H3⟩ := rowTog (one := K.port 0) (other := K.port 3) (gap := K.gap) (bp 0) (bp 3) (.inl eg) bg
  obtain ⟨r1', r2', H3'⟩ := rowTog (one := K.port 3) (other := K.port 0) (gap := K.gap) (bp 3) (bp 0) (.inr eg) bg
  have TT := tog_K hq bp bo bc bs su (num_w g0) (num_w1 g1) (num_w2 g2) (num_w3 g3)
  have col : ∀ j, (K.tk.map fun k => (((4 * q : Nat) : Int) - 1) * K.side j k) = (List.range (4 * q)).map fun k => (((4 * q : Nat) : Int) - 1) * K.side j k := fun j => htk _ fun i => by rw [side_per]
  have sm : Builtin.Range.small 1 (((4 * q : Nat) : Int) + 1) 1 = true ∧ Builtin.Range.rangeSize 1 (((4 * q : Nat) : Int) + 1) 1 = ((4 * q : Nat) : Int) := by
    rcases hq with rfl | rfl
    · exact small8
    · exact small16
  obtain ⟨n1, n2, n3, n4, n5, n6, n7, n8, n9, n10, n11, n12⟩ := num_q hq
  exact ⟨{
    n := 4 * q
    q := q
    k := 2 * q
    ltk := ltk
    ys := _
    cuts := (List.range (4 * q)).map fun i => 256 * sOf (K.port i0) (K.port i1) (K.port i2) (K.port i3) (i / q)
    bx := by
      intro x hx
      obtain ⟨i, _, rfl⟩ := List.mem_map.mp hx
      exact num_30 (bp i)
    hys := hsort
    ly := by rw [List.length_map, List.length_range]; exact n7
    n8 := n1
    n16 := n2
    hn := n3
    hn' := n4
    v0 := K.port i1
    v1 := K.port i2
    a0 := by
      rw [n8]
      refine at' _ _ n9 ?_
      rcases hq with rfl | rfl <;> rfl
    a1 := by
      refine at' _ _ n10 ?_
      rcases hq with rfl | rfl <;> rfl
    hc := by
      rw [htk _ hp, sum_range_map, preSum_per hp, su]
      exact num_hc
    hc' := num_c s1 s2
    bb := num_bo bo
    vb := num_vb (bp i1) (bp i2)
    e0 := s1
    e1 := s2
    hsm := sm.1
    hsz := sm.2
    hcl := by rw [List.length_map, List.length_range]
    hcut := hcut
    cutb := fun i hi => by rw [hc i hi]; exact num_40 (hsb (i / q))
    hq := n5
    q100 := n6
    hsm2 := by rcases hq with rfl | rfl <;> decide +kernel
    hrs2 := by rcases hq with rfl | rfl <;> decide +kernel
    f := fun i => i / q
    hfl := by rcases hq with rfl | rfl <;> decide
    wy := fun i => 2 * sOf (K.port i0) (K.port i1) (K.port i2) (K.port i3) i - K.both
    w0 := num_m s0
    w1 := num_m s1
    w2 := num_p s2
    w3 := num_p s3
    heq := fun i hi => by rw [hc i hi]; exact num_eq
    p0 := K.port 0
    p3 := K.port 3
    i0 := atx 0 _ n11 rfl
    i3 := atx 3 _ n12 rfl
    b1 := bp 0
    b2 := bp 3
    ys3 := ys3
    ys3' := ys3'
    ys4 := ys4
    ys4' := ys4'
    cu := cu
    cu' := cu'
    sc := sc
    sc' := sc'
    r1 := r1
    r2 := r2
    r1' := r1'
    r2' := r2'
    H1 := H1
    H2 := H2
    H3 := H3
    H1' := H1'
    H2' := H2'
    H3' := H3'
    hg := fun j k _ => side_bd bp j k
    bc := bc
    bs := bs
    bq := num_sq bc bs
    tgt := fun j => if j = 0 then ((4 * q : Nat) : Int) / 2 * K.change else if j = 1 then ((4 * q : Nat) : Int) / 2 * K.small else if j = 2 then 0 else ((4 * q : Nat) : Int) / 4 * (K.change * K.change + K.small * K.small)
    htog := fun j hj => by rw [htk _ hp, col]; exact TT j hj
    t0 := rfl
    t1 := rfl
    t2 := rfl
    t3 := rfl }⟩
theorem tk_same {K : KidPar} (h : K.f0 = K.f1) : K.tk = List.range 16 := by
  unfold KidPar.tk
  refine List.filter_eq_self.mpr fun k _ => ?_
  have e : ∀ a b : Int, pick K.f0 K.f1 a = pick K.f0 K.f1 b := fun a b => by
    unfold pick
    rw [h]
    split <;> split <;> rfl
  exact decide_eq_true (e _ _)
theorem tk_other {K : KidPar} (h : K.f0 ≠ K.f1) : K.tk = [0, 1, 2, 3, 12, 13, 14, 15] := by
  unfold KidPar.tk
  have e : ∀ a b : Int, (pick K.f0 K.f1 a = pick K.f0 K.f1 b) ↔ (a = 0 ↔ b = 0) := fun a b => by
    unfold pick
    by_cases ha : a = 0
    · by_cases hb : b = 0
      · rw [if_pos ha, if_pos hb]; simp [ha, hb]
      · rw [if_pos ha, if_neg hb]; simp [ha, hb, h]
    · by_cases hb : b = 0
      · rw [if_neg ha, if_pos hb]; simp [ha, hb, h.symm]
      · rw [if_neg ha, if_neg hb]; simp [ha, hb]
  have e2 : (List.range 16).filter (fun k => decide (K.f k = K.l k)) = (List.range 16).filter (fun k : Nat => decide (((k : Int) / 8 = 0) ↔ ((k : Int) / 4 % 2 = 0))) := List.filter_congr fun k _ => by
    exact decide_eq_decide.mpr (e _ _)
  rw [e2]
  decide
theorem facts_all (n1 n2 n3 n4 : Int) : Nonempty (Facts (kOf n1 n2 n3 n4)) := by
  have b1 : 0 ≤ n1 % 1000 ∧ n1 % 1000 < 1000 := by omega
  have b2 : 0 ≤ n3 % 1000 ∧ n3 % 1000 < 1000 := by omega
  have b3 : 0 ≤ n2 % 100 ∧ n2 % 100 < 100 := by omega
  have b4 : 0 ≤ n4 % 100 ∧ n4 % 100 < 100 := by omega
  by_cases h : mkAt (n1 / 1000 % 3) = mkAt (n3 / 1000 % 3)
  · refine facts_q (q := 4) (.inr rfl) b1 b2 b3 b4 fun u hu => ?_
    rw [tk_same h]
  · refine facts_q (q := 2) (.inl rfl) b1 b2 b3 b4 fun u hu => ?_
    rw [tk_other h]
    have h4 := hu 8
    have h5 := hu 9
    have h6 := hu 10
    have h7 := hu 11
    have g4 := hu 4
    have g5 := hu 5
    have g6 := hu 6
    have g7 := hu 7
    show [u 0, u 1, u 2, u 3, u 12, u 13, u 14, u 15] = [u 0, u 1, u 2, u 3, u 4, u 5, u 6, u 7]
    rw [show u 12 = u 4 from h4.trans g4, show u 13 = u 5 from h5.trans g5, show u 14 = u 6 from h6.trans g6, show u 15 = u 7 from h7.trans g7]
end Mine
end mNUM4
section mTXT
open PySem PySem.Spec PySem.Calls PySem.W PyProof.Rows PySem.Builtin.Str PySem.StrLaws
set_option maxRecDepth 100000
set_option maxHeartbeats 0
namespace Mine
theorem occ_cong {s sub s' sub' : Str} {lo hi limit : Nat} (hl : sub.length = sub'.length) (h : ∀ i, subAt s sub i = subAt s' sub' i) : occurrences s sub lo hi limit = occurrences s' sub' lo hi limit := by
  have e : subAt s sub = subAt s' sub' := funext h
  unfold occurrences
  rw [hl, e]
theorem subAt_map {s s' : Str} {c c' : Nat} (h : s.cps.toList.map (· == c) = s'.cps.toList.map (· == c')) (i : Nat) : subAt s ⟨#[c]⟩ i = subAt s' ⟨#[c']⟩ i := by
  rw [subAt_eq, subAt_eq, Bool.eq_iff_iff]
  show ((s.cps.toList.drop i).take 1 == [c]) = true ↔ ((s'.cps.toList.drop i).take 1 == [c']) = true
  rw [take1_drop, take1_drop]
  have e : (s.cps.toList.map (· == c))[i]? = (s'.cps.toList.map (· == c'))[i]? := by rw [h]
  rw [List.getElem?_map, List.getElem?_map] at e
  cases h1 : s.cps.toList[i]? with
  | none =>
    cases h2 : s'.cps.toList[i]? with
    | none => simp
    | some b => rw [h1, h2] at e; cases e
  | some a =>
    cases h2 : s'.cps.toList[i]? with
    | none => rw [h1, h2] at e; cases e
    | some b =>
      rw [h1, h2] at e
      have e' : (a == c) = (b == c') := Option.some.inj e
      have e2 := Bool.eq_iff_iff.mp e'
      simpa using e2
theorem find_cong {s s' : Str} {c : Nat} (hl : s.length = s'.length) (h : s.cps.toList.map (· == c) = s'.cps.toList.map (· == c)) : Txt.find s ⟨#[c]⟩ = Txt.find s' ⟨#[c]⟩ := by
  unfold Txt.find
  rw [hl, occ_cong rfl (subAt_map h)]
theorem find3_cong {s s' : Str} {c : Nat} {i : Int} (hl : s.length = s'.length) (h : s.cps.toList.map (· == c) = s'.cps.toList.map (· == c)) : Txt.find3 s ⟨#[c]⟩ i = Txt.find3 s' ⟨#[c]⟩ i := by
  unfold Txt.find3
  rw [hl, occ_cong rfl (subAt_map h)]
theorem kind_pos (y : Str) : 1 ≤ PySem.Builtin.Str.strKind y := by
  unfold PySem.Builtin.Str.strKind
  split
  · decide
  · split <;> decide
theorem kind_one {c : Nat} (h : c < 256) : PySem.Builtin.Str.strKind ⟨#[c]⟩ = 1 := by
  unfold PySem.Builtin.Str.strKind
  rw [if_pos (by simpa using h)]
theorem split_at {y : Str} {c : Nat} {cuts : List Nat} (hc : c < 256) (hl : 1 ≤ y.length) (ho : occurrences y ⟨#[c]⟩ 0 y.length (y.length + 1) = cuts) (hne : cuts ≠ []) : Txt.split y ⟨#[c]⟩ = partsBetween y cuts 1 := by
  unfold Txt.split
  have h1 := kind_pos y
  have e : ¬ (decide (y.length < (⟨#[c]⟩ : Str).length) || decide (PySem.Builtin.Str.strKind y < PySem.Builtin.Str.strKind ⟨#[c]⟩)) = true := by
    rw [kind_one hc]
    have : (⟨#[c]⟩ : Str).length = 1 := rfl
    simp
    omega
  rw [if_neg e, ho, if_neg (by simpa using hne)]
  rfl
theorem parts_lit (s : Str) (cuts : List Nat) (w : Nat) : partsBetween s cuts w = ((0 :: cuts.map (· + w)).zip (cuts ++ [s.length])).map fun (p : Nat × Nat) => (⟨((s.cps.toList.drop p.1).take (p.2 - p.1)).toArray⟩ : Str) := by
  unfold partsBetween
  refine List.map_congr_left fun p _ => ?_
  refine PySem.Str.ext' ?_
  apply Array.toList_inj.mp
  rw [strSub_toList]
theorem par_open : Str.ofString "(" = ⟨#[40]⟩ := by decide
theorem par_close : Str.ofString ")" = ⟨#[41]⟩ := by decide

theorem shape3 {f l d1 d2 d3 : Nat} (hf : f ≠ 40 ∧ f ≠ 41 ∧ ¬ (48 ≤ f ∧ f ≤ 57) ∧ f < 256) (hl : l ≠ 40 ∧ l ≠ 41) (h1 : 48 ≤ d1 ∧ d1 ≤ 57) (h2 : 48 ≤ d2 ∧ d2 ≤ 57) (h3 : 48 ≤ d3 ∧ d3 ≤ 57) {n : Int} (hn : PySem.intText? ⟨#[d1, d2, d3]⟩ = some n) :
    (f = l → TextOk ⟨#[50, 50, 57, 32, 40, f, f, f, d1, d2, d3, l, 41]⟩ n) ∧ (f ≠ l → TextBad ⟨#[50, 50, 57, 32, 40, f, f, f, d1, d2, d3, l, 41]⟩) := by
  obtain ⟨f1, f2, f3, f4⟩ := hf
  obtain ⟨l1, l2⟩ := hl
  have e1 : Txt.find ⟨#[50, 50, 57, 32, 40, f, f, f, d1, d2, d3, l, 41]⟩ (Str.ofString "(") = 4 := by
    rw [par_open]
    have z : Txt.find ⟨#[50, 50, 57, 32, 40, 0, 0, 0, 48, 48, 48, 0, 41]⟩ ⟨#[40]⟩ = 4 := by kernel_rfl
    refine (find_cong (s := ⟨#[50, 50, 57, 32, 40, f, f, f, d1, d2, d3, l, 41]⟩) (s' := ⟨#[50, 50, 57, 32, 40, 0, 0, 0, 48, 48, 48, 0, 41]⟩) rfl ?_).trans z
    simp [f1, l1, show d1 ≠ 40 by omega, show d2 ≠ 40 by omega, show d3 ≠ 40 by omega]
  have e2 : Txt.find3 ⟨#[50, 50, 57, 32, 40, f, f, f, d1, d2, d3, l, 41]⟩ (Str.ofString ")") (4 + 1) = 12 := by
    rw [par_close]
    have z : Txt.find3 ⟨#[50, 50, 57, 32, 40, 0, 0, 0, 48, 48, 48, 0, 41]⟩ ⟨#[41]⟩ (4 + 1) = 12 := by kernel_rfl
    refine (find3_cong (s := ⟨#[50, 50, 57, 32, 40, f, f, f, d1, d2, d3, l, 41]⟩) (s' := ⟨#[50, 50, 57, 32, 40, 0, 0, 0, 48, 48, 48, 0, 41]⟩) rfl ?_).trans z
    simp [f2, l2, show d1 ≠ 41 by omega, show d2 ≠ 41 by omega, show d3 ≠ 41 by omega]
  constructor
  · rintro rfl
    have e3 : Txt.split ⟨#[f, f, f, d1, d2, d3, f]⟩ ⟨#[f]⟩ = [⟨#[]⟩, ⟨#[]⟩, ⟨#[]⟩, ⟨#[d1, d2, d3]⟩, ⟨#[]⟩] := by
      refine (split_at (cuts := [0, 1, 2, 6]) f4 (by simp [Str.length]) ?_ (by simp)).trans ?_
      · have z : occurrences ⟨#[1, 1, 1, 48, 48, 48, 1]⟩ ⟨#[1]⟩ 0 7 8 = [0, 1, 2, 6] := by kernel_rfl
        refine (occ_cong (s := ⟨#[f, f, f, d1, d2, d3, f]⟩) (sub := ⟨#[f]⟩) (s' := ⟨#[1, 1, 1, 48, 48, 48, 1]⟩) (sub' := ⟨#[1]⟩) rfl (subAt_map ?_)).trans z
        simp [show d1 ≠ f by omega, show d2 ≠ f by omega, show d3 ≠ f by omega]
      · rw [parts_lit]
        rfl
    exact ⟨⟨12, ⟨#[f]⟩, ⟨#[f, f, f, d1, d2, d3, f]⟩, ⟨#[]⟩, ⟨#[d1, d2, d3]⟩, by simp [Str.length], by kernel_rfl, e1, e2, by decide, by simp [Str.length], by kernel_rfl, by kernel_rfl, by kernel_rfl, by simp [Str.length], rfl, e3, hn, by simp [Str.length]⟩⟩
  · intro hne
    exact ⟨⟨12, ⟨#[f]⟩, ⟨#[l]⟩, by simp [Str.length], by kernel_rfl, e1, e2, by decide, by simp [Str.length], by kernel_rfl, by kernel_rfl, fun e => hne (by simpa using congrArg (fun s : Str => s.cps) e)⟩⟩

theorem shape4 {f l d1 d2 d3 d4 : Nat} (hf : f ≠ 40 ∧ f ≠ 41 ∧ ¬ (48 ≤ f ∧ f ≤ 57) ∧ f < 256) (hl : l ≠ 40 ∧ l ≠ 41) (h1 : 48 ≤ d1 ∧ d1 ≤ 57) (h2 : 48 ≤ d2 ∧ d2 ≤ 57) (h3 : 48 ≤ d3 ∧ d3 ≤ 57) (h4 : 48 ≤ d4 ∧ d4 ≤ 57) {n : Int} (hn : PySem.intText? ⟨#[d1, d2, d3, d4]⟩ = some n) :
    (f = l → TextOk ⟨#[50, 50, 57, 32, 40, f, f, f, d1, d2, d3, d4, l, 41]⟩ n) ∧ (f ≠ l → TextBad ⟨#[50, 50, 57, 32, 40, f, f, f, d1, d2, d3, d4, l, 41]⟩) := by
  obtain ⟨f1, f2, f3, f4⟩ := hf
  obtain ⟨l1, l2⟩ := hl
  have e1 : Txt.find ⟨#[50, 50, 57, 32, 40, f, f, f, d1, d2, d3, d4, l, 41]⟩ (Str.ofString "(") = 4 := by
    rw [par_open]
    have z : Txt.find ⟨#[50, 50, 57, 32, 40, 0, 0, 0, 48, 48, 48, 48, 0, 41]⟩ ⟨#[40]⟩ = 4 := by kernel_rfl
    refine (find_cong (s := ⟨#[50, 50, 57, 32, 40, f, f, f, d1, d2, d3, d4, l, 41]⟩) (s' := ⟨#[50, 50, 57, 32, 40, 0, 0, 0, 48, 48, 48, 48, 0, 41]⟩) rfl ?_).trans z
    simp [f1, l1, show d1 ≠ 40 by omega, show d2 ≠ 40 by omega, show d3 ≠ 40 by omega, show d4 ≠ 40 by omega]
  have e2 : Txt.find3 ⟨#[50, 50, 57, 32, 40, f, f, f, d1, d2, d3, d4, l, 41]⟩ (Str.ofString ")") (4 + 1) = 13 := by
    rw [par_close]
    have z : Txt.find3 ⟨#[50, 50, 57, 32, 40, 0, 0, 0, 48, 48, 48, 48, 0, 41]⟩ ⟨#[41]⟩ (4 + 1) = 13 := by kernel_rfl
    refine (find3_cong (s := ⟨#[50, 50, 57, 32, 40, f, f, f, d1, d2, d3, d4, l, 41]⟩) (s' := ⟨#[50, 50, 57, 32, 40, 0, 0, 0, 48, 48, 48, 48, 0, 41]⟩) rfl ?_).trans z
    simp [f2, l2, show d1 ≠ 41 by omega, show d2 ≠ 41 by omega, show d3 ≠ 41 by omega, show d4 ≠ 41 by omega]
  constructor
  · rintro rfl
    have e3 : Txt.split ⟨#[f, f, f, d1, d2, d3, d4, f]⟩ ⟨#[f]⟩ = [⟨#[]⟩, ⟨#[]⟩, ⟨#[]⟩, ⟨#[d1, d2, d3, d4]⟩, ⟨#[]⟩] := by
      refine (split_at (cuts := [0, 1, 2, 7]) f4 (by simp [Str.length]) ?_ (by simp)).trans ?_
      · have z : occurrences ⟨#[1, 1, 1, 48, 48, 48, 48, 1]⟩ ⟨#[1]⟩ 0 8 9 = [0, 1, 2, 7] := by kernel_rfl
        refine (occ_cong (s := ⟨#[f, f, f, d1, d2, d3, d4, f]⟩) (sub := ⟨#[f]⟩) (s' := ⟨#[1, 1, 1, 48, 48, 48, 48, 1]⟩) (sub' := ⟨#[1]⟩) rfl (subAt_map ?_)).trans z
        simp [show d1 ≠ f by omega, show d2 ≠ f by omega, show d3 ≠ f by omega, show d4 ≠ f by omega]
      · rw [parts_lit]
        rfl
    exact ⟨⟨13, ⟨#[f]⟩, ⟨#[f, f, f, d1, d2, d3, d4, f]⟩, ⟨#[]⟩, ⟨#[d1, d2, d3, d4]⟩, by simp [Str.length], by kernel_rfl, e1, e2, by decide, by simp [Str.length], by kernel_rfl, by kernel_rfl, by kernel_rfl, by simp [Str.length], rfl, e3, hn, by simp [Str.length]⟩⟩
  · intro hne
    exact ⟨⟨13, ⟨#[f]⟩, ⟨#[l]⟩, by simp [Str.length], by kernel_rfl, e1, e2, by decide, by simp [Str.length], by kernel_rfl, by kernel_rfl, fun e => hne (by simpa using congrArg (fun s : Str => s.cps) e)⟩⟩

theorem shape5 {f l d1 d2 d3 d4 d5 : Nat} (hf : f ≠ 40 ∧ f ≠ 41 ∧ ¬ (48 ≤ f ∧ f ≤ 57) ∧ f < 256) (hl : l ≠ 40 ∧ l ≠ 41) (h1 : 48 ≤ d1 ∧ d1 ≤ 57) (h2 : 48 ≤ d2 ∧ d2 ≤ 57) (h3 : 48 ≤ d3 ∧ d3 ≤ 57) (h4 : 48 ≤ d4 ∧ d4 ≤ 57) (h5 : 48 ≤ d5 ∧ d5 ≤ 57) {n : Int} (hn : PySem.intText? ⟨#[d1, d2, d3, d4, d5]⟩ = some n) :
    (f = l → TextOk ⟨#[50, 50, 57, 32, 40, f, f, f, d1, d2, d3, d4, d5, l, 41]⟩ n) ∧ (f ≠ l → TextBad ⟨#[50, 50, 57, 32, 40, f, f, f, d1, d2, d3, d4, d5, l, 41]⟩) := by
  obtain ⟨f1, f2, f3, f4⟩ := hf
  obtain ⟨l1, l2⟩ := hl
  have e1 : Txt.find ⟨#[50, 50, 57, 32, 40, f, f, f, d1, d2, d3, d4, d5, l, 41]⟩ (Str.ofString "(") = 4 := by
    rw [par_open]
    have z : Txt.find ⟨#[50, 50, 57, 32, 40, 0, 0, 0, 48, 48, 48, 48, 48, 0, 41]⟩ ⟨#[40]⟩ = 4 := by kernel_rfl
    refine (find_cong (s := ⟨#[50, 50, 57, 32, 40, f, f, f, d1, d2, d3, d4, d5, l, 41]⟩) (s' := ⟨#[50, 50, 57, 32, 40, 0, 0, 0, 48, 48, 48, 48, 48, 0, 41]⟩) rfl ?_).trans z
    simp [f1, l1, show d1 ≠ 40 by omega, show d2 ≠ 40 by omega, show d3 ≠ 40 by omega, show d4 ≠ 40 by omega, show d5 ≠ 40 by omega]
  have e2 : Txt.find3 ⟨#[50, 50, 57, 32, 40, f, f, f, d1, d2, d3, d4, d5, l, 41]⟩ (Str.ofString ")") (4 + 1) = 14 := by
    rw [par_close]
    have z : Txt.find3 ⟨#[50, 50, 57, 32, 40, 0, 0, 0, 48, 48, 48, 48, 48, 0, 41]⟩ ⟨#[41]⟩ (4 + 1) = 14 := by kernel_rfl
    refine (find3_cong (s := ⟨#[50, 50, 57, 32, 40, f, f, f, d1, d2, d3, d4, d5, l, 41]⟩) (s' := ⟨#[50, 50, 57, 32, 40, 0, 0, 0, 48, 48, 48, 48, 48, 0, 41]⟩) rfl ?_).trans z
    simp [f2, l2, show d1 ≠ 41 by omega, show d2 ≠ 41 by omega, show d3 ≠ 41 by omega, show d4 ≠ 41 by omega, show d5 ≠ 41 by omega]
  constructor
  · rintro rfl
    have e3 : Txt.split ⟨#[f, f, f, d1, d2, d3, d4, d5, f]⟩ ⟨#[f]⟩ = [⟨#[]⟩, ⟨#[]⟩, ⟨#[]⟩, ⟨#[d1, d2, d3, d4, d5]⟩, ⟨#[]⟩] := by
      refine (split_at (cuts := [0, 1, 2, 8]) f4 (by simp [Str.length]) ?_ (by simp)).trans ?_
      · have z : occurrences ⟨#[1, 1, 1, 48, 48, 48, 48, 48, 1]⟩ ⟨#[1]⟩ 0 9 10 = [0, 1, 2, 8] := by kernel_rfl
        refine (occ_cong (s := ⟨#[f, f, f, d1, d2, d3, d4, d5, f]⟩) (sub := ⟨#[f]⟩) (s' := ⟨#[1, 1, 1, 48, 48, 48, 48, 48, 1]⟩) (sub' := ⟨#[1]⟩) rfl (subAt_map ?_)).trans z
        simp [show d1 ≠ f by omega, show d2 ≠ f by omega, show d3 ≠ f by omega, show d4 ≠ f by omega, show d5 ≠ f by omega]
      · rw [parts_lit]
        rfl
    exact ⟨⟨14, ⟨#[f]⟩, ⟨#[f, f, f, d1, d2, d3, d4, d5, f]⟩, ⟨#[]⟩, ⟨#[d1, d2, d3, d4, d5]⟩, by simp [Str.length], by kernel_rfl, e1, e2, by decide, by simp [Str.length], by kernel_rfl, by kernel_rfl, by kernel_rfl, by simp [Str.length], rfl, e3, hn, by simp [Str.length]⟩⟩
  · intro hne
    exact ⟨⟨14, ⟨#[f]⟩, ⟨#[l]⟩, by simp [Str.length], by kernel_rfl, e1, e2, by decide, by simp [Str.length], by kernel_rfl, by kernel_rfl, fun e => hne (by simpa using congrArg (fun s : Str => s.cps) e)⟩⟩
end Mine
end mTXT
section mTXT2
open PySem PySem.Spec PySem.Calls PySem.W PyProof.Rows
set_option maxRecDepth 100000
set_option maxHeartbeats 0
namespace Mine
def digs (h : Nat) : List Nat := if h < 10 then [48 + h] else if h < 100 then [48 + h / 10, 48 + h % 10] else [48 + h / 10 / 10, 48 + h / 10 % 10, 48 + h % 10]
theorem head_txt : ∀ h, h < 1000 → (Str.ofString (toString ((h : Nat) : Int))).cps.toList = digs h := by decide +kernel
theorem tail_txt : ∀ t, t < 100 → (Txt.slice (Str.ofString (toString (100 + ((t : Nat) : Int)))) (some 1) none).cps.toList = [48 + t / 10, 48 + t % 10] := by decide +kernel
theorem open_txt : (Str.ofString "229 (").cps.toList = [50, 50, 57, 32, 40] := by decide
theorem close_txt : (Str.ofString ")").cps.toList = [41] := by decide
theorem rep_txt {c l h t : Nat} (hh : h < 1000) (ht : t < 100) : repOf ⟨#[c]⟩ ⟨#[l]⟩ (h : Int) (t : Int) = ⟨([50, 50, 57, 32, 40] ++ [c, c, c] ++ digs h ++ [48 + t / 10, 48 + t % 10] ++ [l] ++ [41]).toArray⟩ := by
  refine PySem.Str.ext' (Array.toList_inj.mp ?_)
  unfold repOf
  rw [Str.cps_append, Str.cps_append, Str.cps_append, Str.cps_append, Str.cps_append, Array.toList_append, Array.toList_append, Array.toList_append, Array.toList_append, Array.toList_append, open_txt, close_txt, head_txt h hh, tail_txt t ht]
  rfl
theorem port_txt {D : List Nat} {n : Int} (hd : ∀ d ∈ D, 48 ≤ d ∧ d ≤ 57) (h1 : D ≠ []) (h2 : D.length ≤ 640) (hn : ((PySem.NumText.digitsVal D : Nat) : Int) = n) : PySem.intText? ⟨D.toArray⟩ = some n := by
  have e := PySem.intText_digits (x := ⟨D.toArray⟩) hd h1 (by show D.toArray.size ≤ 4300; rw [List.size_toArray]; omega)
  rw [e]
  exact congrArg some hn
theorem dig_bd {x : Nat} (h : x < 10) : 48 ≤ 48 + x ∧ 48 + x ≤ 57 := by omega
theorem dig_mod (x : Nat) : x % 10 < 10 := Nat.mod_lt x (by decide)
theorem dig_div {x : Nat} (h : x < 100) : x / 10 < 10 := by omega
theorem dig_div2 {x : Nat} (h : x < 1000) : x / 10 / 10 < 10 := by omega
theorem dig_split (x : Nat) : 10 * (x / 10) + x % 10 = x := Nat.div_add_mod x 10
theorem val3 {h a b t : Nat} (e : 10 * a + b = t) : ((PySem.NumText.digitsVal [48 + h, 48 + a, 48 + b] : Nat) : Int) = 100 * (h : Int) + (t : Int) := by
  show (((((0 * 10 + (48 + h - 48)) * 10 + (48 + a - 48)) * 10 + (48 + b - 48) : Nat)) : Int) = _
  omega
theorem val4 {h c d a b t : Nat} (e : 10 * a + b = t) (e2 : 10 * c + d = h) : ((PySem.NumText.digitsVal [48 + c, 48 + d, 48 + a, 48 + b] : Nat) : Int) = 100 * (h : Int) + (t : Int) := by
  show ((((((0 * 10 + (48 + c - 48)) * 10 + (48 + d - 48)) * 10 + (48 + a - 48)) * 10 + (48 + b - 48) : Nat)) : Int) = _
  omega
theorem val5 {h g c d k a b t : Nat} (e : 10 * a + b = t) (e2 : 10 * k + d = h) (e3 : 10 * g + c = k) : ((PySem.NumText.digitsVal [48 + g, 48 + c, 48 + d, 48 + a, 48 + b] : Nat) : Int) = 100 * (h : Int) + (t : Int) := by
  show (((((((0 * 10 + (48 + g - 48)) * 10 + (48 + c - 48)) * 10 + (48 + d - 48)) * 10 + (48 + a - 48)) * 10 + (48 + b - 48) : Nat)) : Int) = _
  omega
theorem all_cons {a : Nat} {l : List Nat} (h : 48 ≤ a ∧ a ≤ 57) (t : ∀ d ∈ l, 48 ≤ d ∧ d ≤ 57) : ∀ d ∈ a :: l, 48 ≤ d ∧ d ≤ 57 := List.forall_mem_cons.mpr ⟨h, t⟩
theorem all_nil : ∀ d ∈ ([] : List Nat), 48 ≤ d ∧ d ≤ 57 := List.forall_mem_nil _
theorem rep_ok {f l h t : Nat} (hf : f ≠ 40 ∧ f ≠ 41 ∧ ¬ (48 ≤ f ∧ f ≤ 57) ∧ f < 256) (hl : l ≠ 40 ∧ l ≠ 41) (hh : h < 1000) (ht : t < 100) :
    (f = l → TextOk (repOf ⟨#[f]⟩ ⟨#[l]⟩ (h : Int) (t : Int)) (100 * (h : Int) + (t : Int))) ∧ (f ≠ l → TextBad (repOf ⟨#[f]⟩ ⟨#[l]⟩ (h : Int) (t : Int))) := by
  rw [rep_txt hh ht]
  unfold digs
  have t1 := dig_bd (dig_div ht)
  have t2 := dig_bd (dig_mod t)
  by_cases c1 : h < 10
  · rw [if_pos c1]
    have b1 := dig_bd c1
    exact shape3 hf hl b1 t1 t2 (port_txt (D := [_, _, _]) (all_cons b1 (all_cons t1 (all_cons t2 all_nil))) (List.cons_ne_nil _ _) (by simp) (val3 (dig_split t)))
  rw [if_neg c1]
  have b2 := dig_bd (dig_mod h)
  by_cases c2 : h < 100
  · rw [if_pos c2]
    have b1 := dig_bd (dig_div c2)
    exact shape4 hf hl b1 b2 t1 t2 (port_txt (D := [_, _, _, _]) (all_cons b1 (all_cons b2 (all_cons t1 (all_cons t2 all_nil)))) (List.cons_ne_nil _ _) (by simp) (val4 (dig_split t) (dig_split h)))
  rw [if_neg c2]
  have b1 := dig_bd (dig_div2 hh)
  have b3 := dig_bd (dig_mod (h / 10))
  exact shape5 hf hl b1 b3 b2 t1 t2 (port_txt (D := [_, _, _, _, _]) (all_cons b1 (all_cons b3 (all_cons b2 (all_cons t1 (all_cons t2 all_nil))))) (List.cons_ne_nil _ _) (by simp) (val5 (dig_split t) (dig_split h) (dig_split (h / 10))))
theorem mk_code (i : Int) : ∃ c, mkAt i = ⟨#[c]⟩ ∧ (c = 124 ∨ c = 33 ∨ c = 120) := by
  unfold mkAt
  split
  · exact ⟨124, by decide, .inl rfl⟩
  · split
    · exact ⟨33, by decide, .inr (.inl rfl)⟩
    · exact ⟨120, by decide, .inr (.inr rfl)⟩
theorem pick_mk (i j k : Int) : ∃ c, pick (mkAt i) (mkAt j) k = ⟨#[c]⟩ ∧ (c = 124 ∨ c = 33 ∨ c = 120) := by
  unfold pick
  split
  · exact mk_code i
  · exact mk_code j
theorem pick_nat {a b k : Int} {B : Nat} (ha : 0 ≤ a ∧ a < B) (hb : 0 ≤ b ∧ b < B) : ∃ n : Nat, pick a b k = (n : Int) ∧ n < B := by
  unfold pick
  split
  · exact ⟨a.toNat, by omega, by omega⟩
  · exact ⟨b.toNat, by omega, by omega⟩
theorem texts_all (n1 n2 n3 n4 : Int) : KidText (kOf n1 n2 n3 n4) := by
  intro k hk
  obtain ⟨f, ef, hf⟩ := pick_mk (n1 / 1000 % 3) (n3 / 1000 % 3) ((k : Int) / 8)
  obtain ⟨l, el, hl⟩ := pick_mk (n1 / 1000 % 3) (n3 / 1000 % 3) ((k : Int) / 4 % 2)
  obtain ⟨h, eh, hh⟩ := pick_nat (k := (k : Int) / 2 % 2) (B := 1000) (a := n1 % 1000) (b := n3 % 1000) (by omega) (by omega)
  obtain ⟨t, et, ht⟩ := pick_nat (k := (k : Int) % 2) (B := 100) (a := n2 % 100) (b := n4 % 100) (by omega) (by omega)
  have eF : (kOf n1 n2 n3 n4).f k = ⟨#[f]⟩ := ef
  have eL : (kOf n1 n2 n3 n4).l k = ⟨#[l]⟩ := el
  have eH : (kOf n1 n2 n3 n4).h k = (h : Int) := eh
  have eT : (kOf n1 n2 n3 n4).t k = (t : Int) := et
  have key := rep_ok (f := f) (l := l) (h := h) (t := t) (by omega) (by omega) hh ht
  have eR : (kOf n1 n2 n3 n4).rep k = repOf ⟨#[f]⟩ ⟨#[l]⟩ (h : Int) (t : Int) := by
    unfold KidPar.rep
    rw [eF, eL, eH, eT]
  have eP : (kOf n1 n2 n3 n4).port k = 100 * (h : Int) + (t : Int) := by
    unfold KidPar.port
    rw [eH, eT]
  rw [eF, eL, eR, eP]
  refine ⟨fun e => key.1 ?_, fun e => key.2 fun e' => e (by rw [e'])⟩
  have := congrArg (fun s : Str => s.cps) e
  simpa using this
end Mine
end mTXT2
section join
open PySem PySem.Spec PySem.Calls PySem.W PyProof.Rows
set_option maxRecDepth 100000
set_option maxHeartbeats 0
namespace Mine
theorem sub_nil {l' : List (Addr × Obj)} : ∀ q ∈ ([] : List (Addr × Obj)), q ∈ l' := fun q hq => absurd hq List.not_mem_nil
theorem sub_cons {a : Addr × Obj} {l l' : List (Addr × Obj)} (h : a ∈ l') (t : ∀ q ∈ l, q ∈ l') : ∀ q ∈ a :: l, q ∈ l' := fun q hq => by
  rcases List.mem_cons.mp hq with rfl | hq
  · exact h
  · exact t q hq
theorem sub_app {l1 l2 l' : List (Addr × Obj)} (h1 : ∀ q ∈ l1, q ∈ l') (h2 : ∀ q ∈ l2, q ∈ l') : ∀ q ∈ l1 ++ l2, q ∈ l' := fun q hq => by
  rcases List.mem_append.mp hq with hq | hq
  · exact h1 q hq
  · exact h2 q hq
local macro_rules | `(tactic| walk_at "#m") => `(tactic| (first | assumption | exact List.Mem.head _ | (refine List.Mem.tail _ ?_; walk_at "#m") | (refine List.mem_append_left _ ?_; walk_at "#m") | (refine List.mem_append_right _ ?_; walk_at "#m")))
local macro_rules | `(tactic| walk_at "#z") => `(tactic| (first | exact sub_nil | (refine sub_cons ?_ ?_; walk_at "#m"; walk_at "#z") | (refine sub_app ?_ ?_; walk_at "#z"; walk_at "#z") | (intro q hq; walk_at "#m")))
theorem newsSub {h₀ h : Heap} {L : Addr} {all all' : List (Addr × Obj)} (N : News h₀ L h all) (hs : ∀ q ∈ all', q ∈ all) : News h₀ L h all' := fun q hq => N q (hs q hq)
theorem off_lists {h₀ h : Heap} {L c : Addr} {o : Obj} {all : List (Addr × Obj)} (N : News h₀ L h ((c, o) :: all)) (ho : ∀ its n, o ≠ listOf its n) (hk : ∀ q ∈ all, (∃ its n, q.2 = listOf its n) ∨ q.1 ≠ c) : ∀ q ∈ all, q.1 ≠ c := fun q hq e => by
  rcases hk q hq with ⟨its, n, h⟩ | h
  · have h1 := (N q (.tail _ hq)).1
    rw [e, (N _ (.head _)).1, h] at h1
    exact ho its n (Option.some.inj h1)
  · exact h e
theorem cell_no {o : Obj} {v : Option Value} (h : o.data = .cell v) (its : Array Value) (n : Nat) : o ≠ listOf its n := fun e => by
  rw [e] at h
  cases h
theorem tab_no {o : Obj} (h : CodeTab o) (its : Array Value) (n : Nat) : o ≠ listOf its n := fun e => by
  obtain ⟨ps, rfl, _⟩ := h
  cases e
theorem law_body (w : World) (p : Program) (loose : List Str) (mean : ExcName → Option Value) (mg mb : Str → Option Value)
   (dp un : Nat) (gd : Option (List Code)) (cn : Str) (a : Addr) (ccd : Value) (A₀ : Around) (base h₀ : Heap) (L : Addr) (m : Str → Option Value) (s : Shared) (Q : Flow → Shared → Prop) (E : Value → Shared → Prop)
   (B : Below A₀ base [] h₀) (XB : (hd.heap_39 w.params).In base) (TB : Top p loose mean mg mb base) (KX : (hd.heap_39 w.params).In h₀) (T : Top p loose mean mg mb h₀)
   (hd1 : dp + 12 < recursionLimit) (hu1 : un + 60 < cLine) (F : Fr h₀ L s.heap m)
   (PL : ∀ n1 n2 n3 n4 : Int, Nonempty (Facts (kOf n1 n2 n3 n4))) (KT : ∀ n1 n2 n3 n4 : Int, KidText (kOf n1 n2 n3 n4))
   (oB oS oP : Obj) (hB : ∃ v, oB.data = .cell v) (hS : ∃ v, oS.data = .cell v) (hP : ∃ v, oP.data = .cell v) (h94 : @LT.lt Nat _ 94 L)
   (N : News h₀ L s.heap [(L + 1 + 1 + 1, oB), (L + 1 + 1, oS), (L + 1, oP), (58, tabObj #[]), (94, tabObj #[])])
   (ls : Addr) (vs : List Value) (ns : List Int) (hs : m (Str.ofString "script") = some (.ref ls)) (hl : h₀.IsList ls vs.toArray) (hi : IntsAre vs ns) (hn : ns.length ≤ 63)
   (hQ : ∀ s' ot' own m', CodeTab ot' → Fr h₀ L s'.heap m' → News h₀ L s'.heap ((94, ot') :: own) → (58, tabObj #[]) ∈ own → ((∀ y ∈ s.gens, y.bare = true) → ∀ y ∈ s'.gens, y.bare = true) → s'.drawn = s.drawn → s'.os = s.os → Q (.ret (.bool true)) s') :
   wpAny (model PySem.Challenge.pw_rw0072_01 w) (ktrTop dp un gd cn lawScope L a ccd (lawCells L) []) (execs lawDef.1 (envX cn lawScope L a ccd (lawCells L))) Q E s := by
  obtain ⟨vB, hB⟩ := hB
  obtain ⟨vS, hS⟩ := hS
  obtain ⟨vP, hP⟩ := hP
  have e : lawDef.1 = [lawStmt 0, lawStmt 1, lawStmt 2, lawStmt 3, lawStmt 4, lawStmt 5, lawStmt 6, lawStmt 7, lawStmt 8, lawStmt 9, lawStmt 10, lawStmt 11, lawStmt 12, lawStmt 13, lawStmt 14, lawStmt 15, lawStmt 16, lawStmt 17, lawStmt 18, lawStmt 19, lawStmt 20, lawStmt 21, lawStmt 22, lawStmt 23, lawStmt 24] := rfl
  rw [e]
  clear e
  -- numbers
  refine wpAny_execs_cons (seg0 w p loose mean mg mb dp un gd cn a ccd (lawCells L) A₀ base h₀ L m s _ E B XB TB KX T hd1 hu1 F _ N ls vs ns hs hl hi hn ?_)
  intro D t1 t2 t3 t4 n1 n2 n3 n4 c s1 F1 N1 g1 d1 o1
  -- marks, heads, tails
  refine execs_append (l1 := [lawStmt 1, lawStmt 2, lawStmt 3]) (l2 := [lawStmt 4, lawStmt 5, lawStmt 6, lawStmt 7, lawStmt 8, lawStmt 9, lawStmt 10, lawStmt 11, lawStmt 12, lawStmt 13, lawStmt 14, lawStmt 15, lawStmt 16, lawStmt 17, lawStmt 18, lawStmt 19, lawStmt 20, lawStmt 21, lawStmt 22, lawStmt 23, lawStmt 24]) ?_
  refine seg1 w p loose mean mg mb dp un gd cn a ccd (lawCells L) A₀ base h₀ L _ s1 _ E B XB TB KX T hd1 hu1 F1 _ D n1 n2 n3 n4 t1 t2 t3 t4 c N1 (if_pos rfl) ?_
  intro lm lh lt q0 q1 q2 q3 q4 q5 km kh kt s2 F2 N2 g2 d2 o2
  obtain ⟨m2, F2, kM, kH, kT⟩ : ∃ m2, Fr h₀ L s2.heap m2 ∧ m2 (Str.ofString "marks") = some (.ref lm) ∧ m2 (Str.ofString "heads") = some (.ref lh) ∧ m2 (Str.ofString "tails") = some (.ref lt) :=
    ⟨_, F2, (if_neg (by decide)).trans ((if_neg (by decide)).trans (if_pos rfl)), (if_neg (by decide)).trans (if_pos rfl), if_pos rfl⟩
  obtain ⟨fa⟩ := PL n1 n2 n3 n4
  have kt0 := KT n1 n2 n3 n4
  have hf0 : (mkAt (n1 / 1000 % 3)).length = 1 := mkAt_len
  have hf1 : (mkAt (n3 / 1000 % 3)).length = 1 := mkAt_len
  have bh0 : 0 ≤ n1 % 1000 ∧ n1 % 1000 < 1000 := by omega
  have bh1 : 0 ≤ n3 % 1000 ∧ n3 % 1000 < 1000 := by omega
  have bt0 : 0 ≤ n2 % 100 ∧ n2 % 100 < 100 := by omega
  have bt1 : 0 ≤ n4 % 100 ∧ n4 % 100 < 100 := by omega
  -- children
  refine wpAny_execs_cons (seg4 w p loose mean mg mb dp un gd cn a ccd (lawCells L) A₀ base h₀ L m2 s2 _ E B XB TB KX T hd1 hu1 F2 _ lm lh lt _ _ _ _ _ _ q0 q1 q2 q3 q4 q5 km kh kt N2 hf0 hf1 bh0 bh1 bt0 bt1 kM kH kT ?_)
  intro R own refs cR s3 hkids F3 N3 g3 d3 o3
  obtain ⟨m3, F3, kC, kH, kT⟩ : ∃ m3, Fr h₀ L s3.heap m3 ∧ m3 (Str.ofString "children") = some (.ref R) ∧ m3 (Str.ofString "heads") = some (.ref lh) ∧ m3 (Str.ofString "tails") = some (.ref lt) :=
    ⟨_, F3, if_pos rfl, (if_neg (by decide)).trans kH, (if_neg (by decide)).trans kT⟩
  have hkA : AllAt (PKid (kOf n1 n2 n3 n4) own) refs (List.range 16) := hkids.all
  have hkL : ∀ q ∈ own, ∃ its n, q.2 = listOf its n := hkids.areLists
  clear hkids
  -- told
  refine wpAny_execs_cons (seg5 w p loose mean mg mb dp un gd cn a ccd (lawCells L) A₀ base h₀ L m3 s3 _ E B XB TB KX T hd1 hu1 F3 _ R own refs cR (kOf n1 n2 n3 n4) hkA (fun q hq => .tail _ (.tail _ (.tail _ (List.mem_append_left _ hq)))) N3 kC kt0 ?_)
  intro TR own' trefs cT s4 htl htL F4 N4 g4 d4 o4
  obtain ⟨m4, F4, kC, kH, kT, kTo⟩ : ∃ m4, Fr h₀ L s4.heap m4 ∧ m4 (Str.ofString "children") = some (.ref R) ∧ m4 (Str.ofString "heads") = some (.ref lh) ∧ m4 (Str.ofString "tails") = some (.ref lt) ∧ m4 (Str.ofString "told") = some (.ref TR) :=
    ⟨_, F4, (if_neg (by decide)).trans kC, (if_neg (by decide)).trans kH, (if_neg (by decide)).trans kT, if_pos rfl⟩
  -- told == due
  refine wpAny_execs_cons (seg6 w p loose mean mg mb dp un gd cn a ccd (lawCells L) A₀ base h₀ L m4 s4 _ E B XB TB KX T hd1 hu1 F4 (own' ++ ((lm, listOf #[.str (mkAt (n1 / 1000 % 3)) q0, .str (mkAt (n3 / 1000 % 3)) q1] km) :: (lh, listOf #[.int (n1 % 1000) q2, .int (n3 % 1000) q3] kh) :: (lt, listOf #[.int (n2 % 100) q4, .int (n4 % 100) q5] kt) :: (own ++ [(L + 1 + 1 + 1, oB), (L + 1 + 1, oS), (L + 1, oP), (58, tabObj #[]), (94, tabObj #[])]))) R TR own own' refs trefs cR cT (kOf n1 n2 n3 n4) hkA htl
    (fun q hq => List.mem_append_right _ (.tail _ (.tail _ (.tail _ (List.mem_append_left _ hq))))) (fun q hq => List.mem_append_left _ hq) (newsSub N4 (by walk_at "#z")) kC kTo ?_)
  intro s5 F5 N5 g5 d5 o5
  -- taken
  refine wpAny_execs_cons (seg7 w p loose mean mg mb dp un gd cn a ccd (lawCells L) A₀ base h₀ L m4 s5 _ E B XB TB KX T hd1 hu1 F5 _ R own refs cR (kOf n1 n2 n3 n4) hkA
    (fun q hq => .tail _ (List.mem_append_right _ (.tail _ (.tail _ (.tail _ (List.mem_append_left _ hq)))))) N5 kC ?_)
  intro KR krefs cK s6 hkT F6 N6 g6 d6 o6
  obtain ⟨m6, F6, kTa, kH, kT, kTo⟩ : ∃ m6, Fr h₀ L s6.heap m6 ∧ m6 (Str.ofString "taken") = some (.ref KR) ∧ m6 (Str.ofString "heads") = some (.ref lh) ∧ m6 (Str.ofString "tails") = some (.ref lt) ∧ m6 (Str.ofString "told") = some (.ref TR) :=
    ⟨_, F6, if_pos rfl, (if_neg (by decide)).trans kH, (if_neg (by decide)).trans kT, (if_neg (by decide)).trans kTo⟩
  -- ports
  have N6' : News h₀ L s6.heap ((L + 1, oP) :: (TR, listOf trefs.toArray cT) :: ((KR, listOf krefs.toArray cK) :: (lh, listOf #[.int (n1 % 1000) q2, .int (n3 % 1000) q3] kh) :: (lt, listOf #[.int (n2 % 100) q4, .int (n4 % 100) q5] kt) :: (own' ++ (own ++ [(L + 1 + 1 + 1, oB), (L + 1 + 1, oS), (58, tabObj #[]), (94, tabObj #[])])))) :=
    newsSub N6 (by walk_at "#z")
  have off6 : ∀ q ∈ (TR, listOf trefs.toArray cT) :: ((KR, listOf krefs.toArray cK) :: (lh, listOf #[.int (n1 % 1000) q2, .int (n3 % 1000) q3] kh) :: (lt, listOf #[.int (n2 % 100) q4, .int (n4 % 100) q5] kt) :: (own' ++ (own ++ [(L + 1 + 1 + 1, oB), (L + 1 + 1, oS), (58, tabObj #[]), (94, tabObj #[])]))), q.1 ≠ L + 1 := by
    refine off_lists N6' (cell_no hP) ?_
    intro q hq
    simp only [List.mem_cons, List.mem_append, List.not_mem_nil, or_false] at hq
    rcases hq with rfl | rfl | rfl | rfl | hq | hq | rfl | rfl | rfl | rfl
    · exact .inl ⟨_, _, rfl⟩
    · exact .inl ⟨_, _, rfl⟩
    · exact .inl ⟨_, _, rfl⟩
    · exact .inl ⟨_, _, rfl⟩
    · exact .inl (htL q hq)
    · exact .inl (hkL q hq)
    · exact .inr (show @Ne Nat (L + 1 + 1 + 1) (L + 1) by omega)
    · exact .inr (show @Ne Nat (L + 1 + 1) (L + 1) by omega)
    · exact .inr (show @Ne Nat 58 (L + 1) by omega)
    · exact .inr (show @Ne Nat 94 (L + 1) by omega)
  refine wpAny_execs_cons (seg8 w p loose mean mg mb dp un gd cn a ccd A₀ base h₀ L m6 s6 _ E B XB TB KX T hd1 hu1 F6 _ oP vP hP TR own' trefs cT (kOf n1 n2 n3 n4) htl
    (fun q hq => .tail _ (.tail _ (.tail _ (List.mem_append_left _ hq)))) N6' (fun q hq => off6 q (.tail _ hq)) (off6 _ (.head _)) kTo ?_)
  intro PR pvs cP oP' s7 hpv hP' F7 N7 g7 d7 o7
  have hpv' : AllAt (PInt (kOf n1 n2 n3 n4).port) pvs (kOf n1 n2 n3 n4).tk := hpv
  have ix : IntsAre pvs ((kOf n1 n2 n3 n4).tk.map (kOf n1 n2 n3 n4).port) := allInts hpv'
  have sx : pvs.toArray.size = fa.n := by rw [List.size_toArray, hpv'.length, fa.ltk]
  have lxs : ((kOf n1 n2 n3 n4).tk.map (kOf n1 n2 n3 n4).port).length = fa.n := by rw [List.length_map, fa.ltk]
  have n8 := fa.n8
  have n16 := fa.n16
  -- size, both, change, small, gap, near, wide
  have N7' : News h₀ L s7.heap ((L + 1 + 1, oS) :: (L + 1 + 1 + 1, oB) :: (L + 1, oP') :: (PR, listOf pvs.toArray cP) :: (lh, listOf #[.int (n1 % 1000) q2, .int (n3 % 1000) q3] kh) :: (lt, listOf #[.int (n2 % 100) q4, .int (n4 % 100) q5] kt) :: ((KR, listOf krefs.toArray cK) :: (own ++ [(58, tabObj #[]), (94, tabObj #[])]))) :=
    newsSub N7 (by walk_at "#z")
  have kinds : ∀ c : Nat, 94 < c → ∀ q ∈ (PR, listOf pvs.toArray cP) :: (lh, listOf #[.int (n1 % 1000) q2, .int (n3 % 1000) q3] kh) :: (lt, listOf #[.int (n2 % 100) q4, .int (n4 % 100) q5] kt) :: ((KR, listOf krefs.toArray cK) :: (own ++ [(58, tabObj #[]), (94, tabObj #[])])), (∃ its n, q.2 = listOf its n) ∨ q.1 ≠ c := by
    intro c hc q hq
    simp only [List.mem_cons, List.mem_append, List.not_mem_nil, or_false] at hq
    rcases hq with rfl | rfl | rfl | rfl | hq | rfl | rfl
    · exact .inl ⟨_, _, rfl⟩
    · exact .inl ⟨_, _, rfl⟩
    · exact .inl ⟨_, _, rfl⟩
    · exact .inl ⟨_, _, rfl⟩
    · exact .inl (hkL q hq)
    · exact .inr (show @Ne Nat 58 c by omega)
    · exact .inr (show @Ne Nat 94 c by omega)
  refine execs_append (l1 := [lawStmt 9, lawStmt 10, lawStmt 11, lawStmt 12, lawStmt 13, lawStmt 14, lawStmt 15]) (l2 := [lawStmt 16, lawStmt 17, lawStmt 18, lawStmt 19, lawStmt 20, lawStmt 21, lawStmt 22, lawStmt 23, lawStmt 24]) ?_
  refine seg9 w p loose mean mg mb dp un gd cn a ccd A₀ base h₀ L m6 s7 _ E B XB TB KX T hd1 hu1 F7 _ oP' oS oB vS vB PR lh lt hP' hS hB pvs cP fa.n sx (by omega) (n1 % 1000) (n3 % 1000) (n2 % 100) (n4 % 100) q2 q3 q4 q5 kh kt bh0 bh1 bt0 bt1 N7'
    (off_lists (newsSub N7' (by walk_at "#z")) (cell_no hS) (kinds _ (by omega)))
    (off_lists (newsSub N7' (by walk_at "#z")) (cell_no hB) (kinds _ (by omega))) kH kT ?_
  intro oS' oB' tS tB u1 u2 u3 u4 u5 s9 hS' hB' F9 N9 g9 d9 o9
  obtain ⟨m9, F9, kW, kN, kG, kS, kCh, kTa⟩ : ∃ m9, Fr h₀ L s9.heap m9 ∧ m9 (Str.ofString "wide") = some (.int (kOf n1 n2 n3 n4).wide u1) ∧ m9 (Str.ofString "near") = some (.int (kOf n1 n2 n3 n4).near u2) ∧ m9 (Str.ofString "gap") = some (.int (kOf n1 n2 n3 n4).gap u3)
      ∧ m9 (Str.ofString "small") = some (.int (kOf n1 n2 n3 n4).small u4) ∧ m9 (Str.ofString "change") = some (.int (kOf n1 n2 n3 n4).change u5) ∧ m9 (Str.ofString "taken") = some (.ref KR) :=
    ⟨_, F9, if_pos rfl, (if_neg (by decide)).trans (if_pos rfl), (if_neg (by decide)).trans ((if_neg (by decide)).trans (if_pos rfl)), (if_neg (by decide)).trans ((if_neg (by decide)).trans ((if_neg (by decide)).trans (if_pos rfl))),
      (if_neg (by decide)).trans ((if_neg (by decide)).trans ((if_neg (by decide)).trans ((if_neg (by decide)).trans (if_pos rfl)))), (if_neg (by decide)).trans ((if_neg (by decide)).trans ((if_neg (by decide)).trans ((if_neg (by decide)).trans ((if_neg (by decide)).trans kTa))))⟩
  have hB2 : oB'.data = .cell (some (.int (kOf n1 n2 n3 n4).both tB)) := hB'
  clear hB'
  -- fmean, median, median_low, median_high
  have bb := fa.bb
  have N9' : News h₀ L s9.heap ((PR, listOf pvs.toArray cP) :: (L + 1 + 1, oS') :: (L + 1 + 1 + 1, oB') :: (L + 1, oP') :: ((KR, listOf krefs.toArray cK) :: (own ++ [(58, tabObj #[]), (94, tabObj #[])]))) :=
    newsSub N9 (by walk_at "#z")
  refine wpAny_execs_cons (seg16 w p loose mean mg mb dp un gd cn a ccd A₀ base h₀ L m9 s9 _ E B XB TB KX T hd1 hu1 F9 _ oP' oS' oB' _ PR hP' hS' _ _ tB u2 hB2 pvs cP fa.n N9' kN
    _ fa.ys ix sx (by omega) fa.bx fa.hys (by omega) fa.ly fa.k fa.hn fa.hn' (by have := fa.hn; omega) (by omega) fa.v0 fa.v1 fa.a0 ⟨fa.a1⟩ fa.a1 fa.hc fa.hc' (by omega) (by omega) fa.vb fa.e0 fa.e1 ?_)
  intro s16 F16 N16 g16 d16 o16
  -- quantiles
  refine wpAny_execs_cons (seg17 w p loose mean mg mb dp un gd cn a ccd A₀ base h₀ L m9 s16 _ E B XB TB KX T hd1 hu1 F16 _ oP' oS' oB' PR hP' _ _ _ fa.n fa.q tS tB u2 u1 hS' hB2 pvs cP N16 kN kW
    _ fa.ys ix sx (by omega) fa.bx fa.hys (by omega) (by omega) (by omega) fa.ly (by omega) fa.hsm fa.hsz fa.cuts fa.hcl fa.hcut fa.cutb fa.hq fa.q100 fa.hsm2 fa.hrs2 fa.f fa.hfl fa.wy fa.w0 fa.w1 fa.w2 fa.w3 fa.heq ?_)
  intro s17 F17 N17 g17 d17 o17
  -- the two rows
  have tab0 : CodeTab (tabObj #[]) := ⟨#[], rfl, trivial⟩
  have N17' : News h₀ L s17.heap ((94, tabObj #[]) :: (L + 1, oP') :: (PR, listOf pvs.toArray cP) :: ((L + 1 + 1, oS') :: (KR, listOf krefs.toArray cK) :: (own ++ [(58, tabObj #[])]))) :=
    newsSub N17 (by walk_at "#z")
  have off17 : ∀ q ∈ (L + 1, oP') :: (PR, listOf pvs.toArray cP) :: ((L + 1 + 1, oS') :: (KR, listOf krefs.toArray cK) :: (own ++ [(58, tabObj #[])])), q.1 ≠ 94 := by
    refine off_lists N17' (tab_no tab0) ?_
    intro q hq
    simp only [List.mem_cons, List.mem_append, List.not_mem_nil, or_false] at hq
    rcases hq with rfl | rfl | rfl | rfl | hq | rfl
    · exact .inr (show @Ne Nat (L + 1) 94 by omega)
    · exact .inl ⟨_, _, rfl⟩
    · exact .inr (show @Ne Nat (L + 1 + 1) 94 by omega)
    · exact .inl ⟨_, _, rfl⟩
    · exact .inl (hkL q hq)
    · exact .inr (show @Ne Nat 58 94 by decide)
  refine wpAny_execs_cons (seg18 w p loose mean mg mb dp un gd cn a ccd A₀ base h₀ L m9 s17 _ E B XB TB KX T hd1 hu1 F17 _ oP' (tabObj #[]) PR hP' tab0 (kOf n1 n2 n3 n4).gap u3 pvs cP fa.p0 fa.p3 off17 N17' kG
    _ ix (by omega) fa.i0 fa.i3 fa.b1 fa.b2 fa.ys3 fa.ys3' fa.ys4 fa.ys4' fa.cu fa.cu' fa.sc fa.sc' fa.r1 fa.r2 fa.r1' fa.r2' fa.H1 fa.H2 fa.H3 fa.H1' fa.H2' fa.H3' ?_)
  intro vals s18 ot18 hot18 F18 N18 g18 d18 o18
  obtain ⟨m18, F18, kTa, kS, kCh⟩ : ∃ m18, Fr h₀ L s18.heap m18 ∧ m18 (Str.ofString "taken") = some (.ref KR) ∧ m18 (Str.ofString "small") = some (.int (kOf n1 n2 n3 n4).small u4) ∧ m18 (Str.ofString "change") = some (.int (kOf n1 n2 n3 n4).change u5) :=
    ⟨_, F18, (if_neg (by decide)).trans kTa, (if_neg (by decide)).trans kS, (if_neg (by decide)).trans kCh⟩
  -- sides
  have N18' : News h₀ L s18.heap ((L + 1, oP') :: (KR, listOf krefs.toArray cK) :: ((94, ot18) :: (PR, listOf pvs.toArray cP) :: (L + 1 + 1, oS') :: (own ++ [(58, tabObj #[])]))) :=
    newsSub N18 (by walk_at "#z")
  refine wpAny_execs_cons (seg19 w p loose mean mg mb dp un gd cn a ccd A₀ base h₀ L m18 s18 _ E B XB TB KX T hd1 hu1 F18 _ oP' PR KR hP' own krefs cK (kOf n1 n2 n3 n4) (kOf n1 n2 n3 n4).tk hkT (by rw [fa.ltk]; omega)
    (fun q hq => .tail _ (.tail _ (.tail _ (List.mem_append_left _ hq)))) N18' kTa ?_)
  intro SR S1 S2 S3 y1 y2 y3 c0 c1 c2 c3 s19 hy1 hy2 hy3 F19 N19 _lt19 g19 d19 o19
  obtain ⟨m19, F19, kSi, kS, kCh⟩ : ∃ m19, Fr h₀ L s19.heap m19 ∧ m19 (Str.ofString "sides") = some (.ref SR) ∧ m19 (Str.ofString "small") = some (.int (kOf n1 n2 n3 n4).small u4) ∧ m19 (Str.ofString "change") = some (.int (kOf n1 n2 n3 n4).change u5) :=
    ⟨_, F19, if_pos rfl, (if_neg (by decide)).trans kS, (if_neg (by decide)).trans kCh⟩
  -- columns
  have N19' : News h₀ L s19.heap ((L + 1 + 1, oS') :: (SR, listOf [.ref S1, .ref S2, .ref S3, .ref PR].toArray c0) :: ((S1, listOf y1.toArray c1) :: (S2, listOf y2.toArray c2) :: (S3, listOf y3.toArray c3) :: (PR, listOf pvs.toArray cP) :: (L + 1, oP') :: (94, ot18) :: [(58, tabObj #[])])) :=
    newsSub N19 (by walk_at "#z")
  refine wpAny_execs_cons (seg20 w p loose mean mg mb dp un gd cn a ccd A₀ base h₀ L m19 s19 _ E B XB TB KX T hd1 hu1 F19 _ oS' (fa.n : Int) tS SR hS' (by omega) (kOf n1 n2 n3 n4).side fa.hg (kOf n1 n2 n3 n4).tk (by rw [fa.ltk]; omega) _ c0
    (all4 ⟨S1, y1, c1, rfl, .head _, hy1⟩ ⟨S2, y2, c2, rfl, .tail _ (.head _), hy2⟩ ⟨S3, y3, c3, rfl, .tail _ (.tail _ (.head _)), hy3⟩ ⟨PR, pvs, cP, rfl, .tail _ (.tail _ (.tail _ (.head _))), hpv'⟩) N19' kSi ?_)
  intro CR cvs own20 c20 s20 hcv hL20 F20 N20 g20 d20 o20
  obtain ⟨m20, F20, kCo, kS, kCh⟩ : ∃ m20, Fr h₀ L s20.heap m20 ∧ m20 (Str.ofString "columns") = some (.ref CR) ∧ m20 (Str.ofString "small") = some (.int (kOf n1 n2 n3 n4).small u4) ∧ m20 (Str.ofString "change") = some (.int (kOf n1 n2 n3 n4).change u5) :=
    ⟨_, F20, if_pos rfl, (if_neg (by decide)).trans kS, (if_neg (by decide)).trans kCh⟩
  -- squares
  refine wpAny_execs_cons (seg21 w p loose mean mg mb dp un gd cn a ccd A₀ base h₀ L m20 s20 _ E B XB TB KX T hd1 hu1 F20 _ N20 _ _ u5 u4 kCh kS fa.bc fa.bs ?_)
  intro u6 s21 F21 N21 g21 d21 o21
  obtain ⟨m21, F21, kSq, kCo, kS, kCh⟩ : ∃ m21, Fr h₀ L s21.heap m21 ∧ m21 (Str.ofString "squares") = some (.int ((kOf n1 n2 n3 n4).change * (kOf n1 n2 n3 n4).change + (kOf n1 n2 n3 n4).small * (kOf n1 n2 n3 n4).small) u6) ∧ m21 (Str.ofString "columns") = some (.ref CR) ∧ m21 (Str.ofString "small") = some (.int (kOf n1 n2 n3 n4).small u4) ∧ m21 (Str.ofString "change") = some (.int (kOf n1 n2 n3 n4).change u5) :=
    ⟨_, F21, if_pos rfl, (if_neg (by decide)).trans kCo, (if_neg (by decide)).trans kS, (if_neg (by decide)).trans kCh⟩
  -- covariances
  have N21' : News h₀ L s21.heap ((94, ot18) :: (L + 1, oP') :: (L + 1 + 1, oS') :: (PR, listOf pvs.toArray cP) :: (CR, listOf cvs.toArray c20) :: (own20 ++ [(58, tabObj #[])])) :=
    newsSub N21 (by walk_at "#z")
  have off21 : ∀ q ∈ (L + 1, oP') :: (L + 1 + 1, oS') :: (PR, listOf pvs.toArray cP) :: (CR, listOf cvs.toArray c20) :: (own20 ++ [(58, tabObj #[])]), q.1 ≠ 94 := by
    refine off_lists N21' (tab_no hot18) ?_
    intro q hq
    simp only [List.mem_cons, List.mem_append, List.not_mem_nil, or_false] at hq
    rcases hq with rfl | rfl | rfl | rfl | hq | rfl
    · exact .inr (show @Ne Nat (L + 1) 94 by omega)
    · exact .inr (show @Ne Nat (L + 1 + 1) 94 by omega)
    · exact .inl ⟨_, _, rfl⟩
    · exact .inl ⟨_, _, rfl⟩
    · exact .inl (hL20 q hq)
    · exact .inr (show @Ne Nat 58 94 by decide)
  refine wpAny_execs_cons (seg22 w p loose mean mg mb dp un gd cn a ccd A₀ base h₀ L m21 s21 _ E B XB TB KX T hd1 hu1 F21 _ oP' oS' ot18 hot18 fa.n tS PR CR hP' hS' (by omega) n16 pvs cP _ ix sx (by omega)
    _ (kOf n1 n2 n3 n4).tk fa.ltk own20 cvs c20 hcv (fun q hq => List.mem_append_left _ hq) fa.tgt fa.htog _ _ _ u5 u4 u6 fa.t0 fa.t1 fa.t2 fa.t3 fa.bc fa.bs fa.bq off21 N21' kCo kCh kS kSq ?_)
  intro s22 ot22 hot22 F22 N22 g22 d22 o22
  -- refused
  have N22' : News h₀ L s22.heap ((L + 1, oP') :: (PR, listOf pvs.toArray cP) :: [(94, ot22), (58, tabObj #[])]) :=
    newsSub N22 (by walk_at "#z")
  refine wpAny_execs_cons (seg23 w p loose mean mg mb dp un gd cn a ccd A₀ base h₀ L m21 s22 _ E B XB TB KX T hd1 hu1 F22 _ oP' PR hP' pvs cP _ ix (by omega) (by omega) N22' ?_)
  intro RR rvs cr own23 s23 hpp hsub F23 N23 g23 d23 o23
  refine wpAny_execs_cons (seg24 w p loose mean mg mb dp un gd cn a ccd A₀ base h₀ L _ s23 _ E B XB TB KX T hd1 hu1 F23 own23 ot22 hot22 RR rvs cr hpp (news_front N23 (.tail _ (hsub _ (.head _)))) (if_pos rfl) ?_)
  intro s24 ot24 hot24 F24 N24 g24 d24 o24
  refine hQ s24 ot24 own23 _ hot24 F24 N24 (hsub _ (.tail _ (.head _))) (fun h => g24 ?_) ?_ ?_
  · rw [g23]
    refine g22 ?_
    rw [g21, g20, g19]
    refine g18 ?_
    rw [g17, g16, g9, g7, g6, g5, g4, g3, g2, g1]
    exact h
  · rw [d24, d23, d22, d21, d20, d19, d18, d17, d16, d9, d7, d6, d5, d4, d3, d2, d1]
  · rw [o24, o23, o22, o21, o20, o19, o18, o17, o16, o9, o7, o6, o5, o4, o3, o2, o1]
theorem end_good {c : ClaimW} {cl : Str → Option Addr} {mean : ExcName → Option Value} {args : List WData} {s₁ s' : Shared} {L : Addr} {m : Str → Option Value} {own : List (Addr × Obj)} {ot : Obj} {b : Bool}
    (hT : TabsAt [(62, 58), (98, 94)] s₁.heap) (F : Fr (ghostOf s₁.heap [(62, 58), (98, 94)]) L s'.heap m) (hot : CodeTab ot) (N : News (ghostOf s₁.heap [(62, 58), (98, 94)]) L s'.heap ((94, ot) :: own)) (h58 : (58, tabObj #[]) ∈ own)
    (hr : ∀ cls, c.raises args cls = false) (hp : c.post args (.bool b) args = true) (hos : s'.os = s₁.os) (hg : AllBare s'.gens) :
    GoodWG c cl mean args s₁ (.ok (.ret (.bool b))) s' := by
  obtain ⟨ps, rfl, _⟩ := hot
  have t58 := hT _ (.head _)
  have t94 := hT _ (.tail _ (.head _))
  refine ⟨.inl ⟨_, _, [], rfl, hr, ReadsW.bool b, hp, fun _ => ⟨List.nodup_nil, fun _ hm => (nomatch hm)⟩⟩, ⟨fun b o e => ?_, fun b o e => ?_⟩, hos, hg⟩
  · by_cases h1 : b = 58
    · subst h1
      have e2 := t58.2.symm.trans e
      cases e2
      exact .inl (N _ (.tail _ h58)).1
    by_cases h2 : b = 94
    · subst h2
      have e2 := t94.2.symm.trans e
      cases e2
      exact .inr (.inl ⟨(t94.1.tab t94.2).isCodeTable, rfl, #[], ps, rfl, by rw [Array.empty_append]; exact (N _ (.head _)).1⟩)
    · exact .inl (F.keep _ _ (ghost_ne e (by simpa using ⟨h1, h2⟩)))
  · by_cases h1 : b = 58
    · subst h1
      exact ⟨_, (N _ (.tail _ h58)).1⟩
    by_cases h2 : b = 94
    · subst h2
      exact ⟨_, (N _ (.head _)).1⟩
    · exact ⟨_, F.keep _ _ (ghost_ne e (by simpa using ⟨h1, h2⟩))⟩
theorem cells3 {g : Str → Option Value} {x : List (Str × Addr)} {a b c : Addr × Obj} (_h : CellsAre g x [a, b, c]) : True := trivial
theorem law_holds : PySem.Challenge.rw_rw0072_01.Holds := hd (by
  k_fill
  intro w s₀ s₁ mg mb G Y fa o pm cd doc dV kV ho hd hcd hD hmg hg args vals as hpre hlay hrd hwl hlo
  have KX := km_in_of Y
  km_tabs Y
  have X := (Ground.X G).1
  have V := (Ground.X G).2
  refine Ground.open G ?_
  intro T B D TE TW
  try (refine guard_noD D (by decide +kernel) ?_; clear D)
  km_lay T hmg ho hd cd
  have hT9 : TabsAt [(62, 58), (98, 94)] s₁.heap := List.forall_mem_cons.mpr ⟨hT9 _ (.head _), List.forall_mem_cons.mpr ⟨PySem.W.tab_of (x := PySem.Str.ofString "covariance") (c := 98) (P := 94) T KX rfl (by kernel_rfl), fun _ h => nomatch h⟩⟩
  have XX := KX
  clear hmg
  wrow_args hpre hlay hrd hwl hlo
  all_goals (
    first | refine callC_kw (enter_call ?_) | refine enter_call ?_
    w_top on
    w_call any ho hd hcd hD T F
    clear hd
    kn_ghosts F T
    k_drop
    skip)
  rename News _ _ _ _ => NN
  rename Fr _ _ _ _ => FF
  rename Top topProg _ _ _ _ _ => TT
  rename Below _ _ _ _ => BB
  rename Frag.In _ (ghostOf _ _) => KK
  rename IntsAre _ _ => hI
  rename Heap.IsList (ghostOf _ _) _ _ => hl
  rename CellsAre _ _ _ => XC
  rename 58 < _ ∧ _ => l0
  refine law_body w _ _ _ _ _ _ _ _ _ _ _ _ _ _ _ _ _ _ _ BB KK TT KK TT ?d1 ?d2 FF facts_all texts_all _ _ _ ⟨_, by assumption⟩ ⟨_, by assumption⟩ ⟨_, by assumption⟩ l0.2 NN _ _ _ ?hs hl hI ?hn ?hQ
  case d1 => decide +kernel
  case d2 => decide +kernel
  case hs => rfl
  case hn => omega
  case hQ =>
    intro s' ot' own m' hot' F' N' h58 g' d' o'
    exact end_good hT9 F' hot' N' h58 (fun _ => rfl) (by first | rfl | wrow_post) o' (g' (by rw [hg]; exact AllBare.empty)))
end Mine
end join
theorem PySem.Challenge.cw_rw0072_01_holds : PySem.Challenge.rw_rw0072_01.Holds :=
  Mine.law_holds
