import PyProof.Rows.All
import Wide.All
import OpenK.AllK
import Wide.FinOn
import Lean
import PySem.Challenge.RW_ad5032_01
set_option Elab.async false
set_option linter.all false
set_option maxRecDepth 100000
set_option maxHeartbeats 8000000
namespace Mine
section
open PySem PySem.Float64
/-- the float x is k quarters, no minus nought -/
def IsF (x : UInt64) (k : Int) : Prop := ∃ m e, decode x = .fin (decide (k < 0)) m e ∧ (m * 2 ^ (e + 1074).toNat) * 4 = k.natAbs * 2 ^ 1074
/-- the float x is finite, not below nought, its whole part is q -/
def IsQ (x : UInt64) (q : Int) : Prop := ∃ m e, decode x = .fin false m e ∧ floorOf false m e = q

theorem dec0 : decode (zero false) = .fin (decide ((0:Int) < 0)) 0 (-1074) := by with_unfolding_all rfl
theorem isF_zero : IsF (zero false) 0 := ⟨0, -1074, dec0, by rw [Nat.zero_mul, Int.natAbs_zero, Nat.zero_mul, Nat.zero_mul]⟩
theorem natDiv {a b : Int} (ha : 0 ≤ a) (hb : 0 < b) : (((a.natAbs / b.natAbs : Nat) : Int)) = a / b := by
  rw [Int.natCast_ediv]; congr 1 <;> omega
theorem nq_mul (n b : Nat) : (n + 1) * (2 * b) = 2 * (b * n) + 2 * b := by
  rw [Nat.add_mul, Nat.one_mul, Nat.mul_left_comm, Nat.mul_comm n b]
theorem dist_zero (a : Nat) : dist a a = 0 := by unfold dist; omega
theorem of_dist {a b : Nat} (h : dist a b = 0) : a = b := by unfold dist at h; omega

theorem rep (N j : Nat) (hN : N < 2 ^ 53) (hj : 52 ≤ j) : ∃ t, V t = N * 2 ^ j := by
  by_cases h0 : N = 0
  · exact ⟨0, by subst h0; rw [Nat.zero_mul]; decide⟩
  have h1 := Nat.log2_self_le h0
  have h2 : N < 2 ^ (N.log2 + 1) := Nat.lt_log2_self
  have h3 : N.log2 < 53 := (Nat.log2_lt h0).2 hN
  generalize N.log2 = L at *
  refine ⟨(j - (52 - L)) * 2 ^ 52 + N * 2 ^ (52 - L), ?_⟩
  have e1 : N * 2 ^ (52 - L) < 2 ^ 53 := by
    calc N * 2 ^ (52 - L) < 2 ^ (L + 1) * 2 ^ (52 - L) := Nat.mul_lt_mul_of_pos_right h2 (Nat.two_pow_pos _)
      _ = 2 ^ 53 := by rw [← Nat.pow_add]; congr 1; omega
  have e2 : 2 ^ 52 ≤ N * 2 ^ (52 - L) := by
    calc 2 ^ 52 = 2 ^ L * 2 ^ (52 - L) := by rw [← Nat.pow_add]; congr 1; omega
      _ ≤ N * 2 ^ (52 - L) := Nat.mul_le_mul_right _ h1
  rw [V_at (Nat.le_of_lt e1) (.inl e2), Nat.mul_assoc, ← Nat.pow_add]
  congr 2
  omega

theorem isF_of_right {r : UInt64} {neg : Bool} {W D : Nat} {k : Int} (h : Right r neg W D) (hD : 0 < D) (hW : W * 4 = D * (k.natAbs * 2 ^ 1074)) (hn : neg = decide (k < 0)) (hk : k.natAbs < 2 ^ 53) : IsF r k := by
  obtain ⟨t, rfl, hle, hinf, hnear⟩ := h
  obtain ⟨t', ht'⟩ := rep k.natAbs 1072 hk (by decide)
  have e1 : (2 : Nat) ^ 1074 = 2 ^ 1072 * 4 := by rw [show (1074 : Nat) = 1072 + 2 from rfl, Nat.pow_add]
  have hW2 : W = D * (k.natAbs * 2 ^ 1072) := by
    rw [e1] at hW
    have : D * (k.natAbs * (2 ^ 1072 * 4)) = D * (k.natAbs * 2 ^ 1072) * 4 := by
      generalize (2 : Nat) ^ 1072 = P
      ac_rfl
    omega
  have hlt : t < infMag := by
    refine Nat.lt_of_le_of_ne hle fun e => ?_
    have h9 := hinf.mp e
    have e2 : (2 : Nat) ^ 2045 = 2 ^ 973 * 2 ^ 1072 := by rw [← Nat.pow_add]
    rw [hW2, e2] at h9
    have e3 : 2 ≤ (2 : Nat) ^ 973 := by
      calc (2 : Nat) = 2 ^ 1 := rfl
        _ ≤ 2 ^ 973 := Nat.pow_le_pow_right (by decide) (by decide)
    have hP : 0 < (2 : Nat) ^ 1072 := Nat.two_pow_pos _
    generalize (2 : Nat) ^ 1072 = P at *
    generalize (2 : Nat) ^ 973 = J at *
    have h10 : D * ((2 ^ 54 - 1) * (J * P)) = (D * P) * ((2 ^ 54 - 1) * J) := by
      generalize (2 ^ 54 - 1 : Nat) = C
      ac_rfl
    have h11 : 2 * (D * (k.natAbs * P)) = (D * P) * (2 * k.natAbs) := by ac_rfl
    rw [h10, h11] at h9
    have h12 := Nat.le_of_mul_le_mul_left h9 (Nat.mul_pos hD hP)
    have h13 : (2 ^ 54 - 1) * 2 ≤ (2 ^ 54 - 1) * J := Nat.mul_le_mul_left _ e3
    omega
  obtain ⟨n1, _⟩ := hnear hlt t'
  rw [ht', hW2, dist_zero] at n1
  have hV := of_dist (Nat.le_zero.mp n1)
  have hV2 : k.natAbs * 2 ^ 1072 = V t := Nat.eq_of_mul_eq_mul_left hD hV
  obtain ⟨m, e, hd, hv⟩ := decode_pack neg hlt
  refine ⟨m, e, by rw [hd, hn], ?_⟩
  rw [hv, ← hV2, e1]
  generalize (2 : Nat) ^ 1072 = P
  ac_rfl

theorem IsF.val {x : UInt64} {k : Int} (h : IsF x k) : val x * 4 = k * ((2 ^ 1074 : Nat) : Int) := by
  obtain ⟨m, e, hd, hv⟩ := h
  rw [val_eq hd]
  unfold sgn
  by_cases hk : k < 0
  · have e1 : ((m * 2 ^ (e + 1074).toNat * 4 : Nat) : Int) = ((k.natAbs * 2 ^ 1074 : Nat) : Int) := by rw [hv]
    rw [if_pos (by simpa using hk)]
    generalize hA : m * 2 ^ (e + 1074).toNat = A at *
    generalize (2 : Nat) ^ 1074 = P at *
    have : ((k.natAbs * P : Nat) : Int) = -k * (P : Int) := by
      rw [Int.natCast_mul]; congr 1; omega
    rw [Int.neg_mul] at this
    omega
  · have e1 : ((m * 2 ^ (e + 1074).toNat * 4 : Nat) : Int) = ((k.natAbs * 2 ^ 1074 : Nat) : Int) := by rw [hv]
    rw [if_neg (by simpa using hk)]
    generalize hA : m * 2 ^ (e + 1074).toNat = A at *
    generalize (2 : Nat) ^ 1074 = P at *
    have : ((k.natAbs * P : Nat) : Int) = k * (P : Int) := by
      rw [Int.natCast_mul]; congr 1; omega
    omega

theorem big_pos : (0 : Int) < ((2 ^ 1074 : Nat) : Int) := Int.ofNat_lt.mpr (Nat.two_pow_pos _)

/-- from a signed whole value -/
theorem isF_val {r : UInt64} {v : Int} {k : Int} (h0 : v = 0 → r = zero false) (h1 : v ≠ 0 → Right r (decide (v < 0)) v.natAbs 1) (hv : v * 4 = k * ((2 ^ 1074 : Nat) : Int)) (hk : k.natAbs < 2 ^ 53) : IsF r k := by
  have hp := big_pos
  by_cases hz : v = 0
  · have hk0 : k = 0 := by
      rw [hz, Int.zero_mul] at hv
      rcases Int.mul_eq_zero.mp hv.symm with h | h
      · exact h
      · omega
    rw [h0 hz, hk0]
    exact isF_zero
  · refine isF_of_right (h1 hz) (by decide) ?_ ?_ hk
    · have : (v * 4).natAbs = (k * ((2 ^ 1074 : Nat) : Int)).natAbs := by rw [hv]
      rw [Int.natAbs_mul, Int.natAbs_mul, Int.natAbs_natCast] at this
      rw [Nat.one_mul]
      exact this
    · apply decide_eq_decide.mpr
      generalize ((2 ^ 1074 : Nat) : Int) = P at *
      constructor
      · intro h
        by_cases h2 : k < 0
        · exact h2
        · have := Int.mul_nonneg (show 0 ≤ k by omega) (Int.le_of_lt hp)
          omega
      · intro h
        have := Int.mul_neg_of_neg_of_pos h hp
        omega

theorem IsF.ex {x : UInt64} {k : Int} (h : IsF x k) : ∃ m e, decode x = .fin (decide (k < 0)) m e := ⟨h.choose, h.choose_spec.choose, h.choose_spec.choose_spec.1⟩

theorem isF_ofInt {n : Int} (h : (4 * n).natAbs < 2 ^ 53) : IsF (ofInt n) (4 * n) := by
  refine isF_of_right (ofInt_right n) (by decide) ?_ ?_ h
  · rw [Int.natAbs_mul]
    generalize (2 : Nat) ^ 1074 = P
    have : (4 : Int).natAbs = 4 := rfl
    rw [this, Nat.one_mul]
    ac_rfl
  · apply decide_eq_decide.mpr
    omega

theorem isF_add {x y : UInt64} {a b : Int} (hx : IsF x a) (hy : IsF y b) (h : (a + b).natAbs < 2 ^ 53) : IsF (add x y) (a + b) := by
  obtain ⟨m, e, hd⟩ := hx.ex
  obtain ⟨k, f, hd'⟩ := hy.ex
  have r := add_right hd hd'
  refine isF_val (v := Float64.val x + Float64.val y) (fun h0 => ?_) r.2 ?_ h
  · rw [r.1 h0]
    have h1 := hx.val
    have h2 := hy.val
    have h3 : (a + b) * ((2 ^ 1074 : Nat) : Int) = 0 := by rw [Int.add_mul]; omega
    have hab : a + b = 0 := (Int.mul_eq_zero.mp h3).resolve_right (by have := big_pos; omega)
    have : (decide (a < 0) && decide (b < 0)) = false := by
      rw [Bool.and_eq_false_iff]
      by_cases ha : a < 0
      · right; simp; omega
      · left; simpa using ha
    rw [this]
  · rw [Int.add_mul, Int.add_mul, hx.val, hy.val]

theorem isF_sub {x y : UInt64} {a b : Int} (hx : IsF x a) (hy : IsF y b) (h : (a - b).natAbs < 2 ^ 53) (h0 : ¬ (a < 0 ∧ a = b)) : IsF (sub x y) (a - b) := by
  obtain ⟨m, e, hd⟩ := hx.ex
  obtain ⟨k, f, hd'⟩ := hy.ex
  have r := sub_right hd hd'
  refine isF_val (v := Float64.val x - Float64.val y) (fun h0 => ?_) r.2 ?_ h
  · rw [r.1 h0]
    have h1 := hx.val
    have h2 := hy.val
    have h3 : (a - b) * ((2 ^ 1074 : Nat) : Int) = 0 := by rw [Int.sub_mul]; omega
    have hab : a - b = 0 := (Int.mul_eq_zero.mp h3).resolve_right (by have := big_pos; omega)
    have : (decide (a < 0) && !decide (b < 0)) = false := by
      rw [Bool.and_eq_false_iff]
      by_cases ha : a < 0
      · exfalso; omega
      · left; simpa using ha
    rw [this]
  · rw [Int.sub_mul, Int.sub_mul, hx.val, hy.val]

theorem isF_mul {x y : UInt64} {a b c : Int} (hx : IsF x a) (hy : IsF y b) (hc : a * b = 4 * c) (ha : 0 ≤ a) (hb : 0 ≤ b) (h : c.natAbs < 2 ^ 53) : IsF (mul x y) c := by
  obtain ⟨m, e, hd⟩ := hx.ex
  obtain ⟨k, f, hd'⟩ := hy.ex
  have r := mul_right hd hd'
  have hc0 : 0 ≤ c := by have := Int.mul_nonneg ha hb; omega
  refine isF_of_right r (Nat.two_pow_pos _) ?_ ?_ h
  · have h1 := congrArg Int.natAbs hx.val
    have h2 := congrArg Int.natAbs hy.val
    rw [Int.natAbs_mul, Int.natAbs_mul, Int.natAbs_natCast] at h1 h2
    have h3 := congrArg Int.natAbs hc
    rw [Int.natAbs_mul, Int.natAbs_mul] at h3
    generalize (Float64.val x).natAbs = vx at *
    generalize (Float64.val y).natAbs = vy at *
    generalize (2 : Nat) ^ 1074 = P at *
    have e4 : (4 : Int).natAbs = 4 := rfl
    rw [e4] at h1 h2 h3
    have : vx * vy * 4 * 4 = P * (c.natAbs * P) * 4 := by
      calc vx * vy * 4 * 4 = (vx * 4) * (vy * 4) := by ac_rfl
        _ = (a.natAbs * P) * (b.natAbs * P) := by rw [h1, h2]
        _ = (a.natAbs * b.natAbs) * (P * P) := by ac_rfl
        _ = (4 * c.natAbs) * (P * P) := by rw [h3]
        _ = P * (c.natAbs * P) * 4 := by ac_rfl
    omega
  · have e1 : decide (a < 0) = false := by simpa using ha
    have e2 : decide (b < 0) = false := by simpa using hb
    have e3 : decide (c < 0) = false := by simpa using hc0
    rw [e1, e2, e3]; rfl

theorem cmp_isF {x y : UInt64} {a b : Int} (hx : IsF x a) (hy : IsF y b) : cmp x y = some (compare a b) := by
  obtain ⟨m, e, hd⟩ := hx.ex
  obtain ⟨k, f, hd'⟩ := hy.ex
  rw [cmp_right hd hd']
  have h1 := hx.val
  have h2 := hy.val
  have hp := big_pos
  generalize ((2 ^ 1074 : Nat) : Int) = P at *
  congr 1
  rcases Int.lt_trichotomy a b with h | h | h
  · have := Int.mul_lt_mul_of_pos_right h hp
    rw [Int.compare_eq_lt.mpr h, Int.compare_eq_lt.mpr (by omega)]
  · subst h; rw [show Float64.val x = Float64.val y by omega]; simp
  · have := Int.mul_lt_mul_of_pos_right h hp
    rw [Int.compare_eq_gt.mpr h, Int.compare_eq_gt.mpr (by omega)]

theorem cmpInt_isF {x : UInt64} {a n : Int} (hx : IsF x a) : cmpInt x n = some (compare a (4 * n)) := by
  obtain ⟨m, e, hd⟩ := hx.ex
  rw [cmpInt_right hd]
  have h1 := hx.val
  have hp := big_pos
  have hq : (2 : Int) ^ 1074 = ((2 ^ 1074 : Nat) : Int) := by simp
  rw [hq]
  generalize ((2 ^ 1074 : Nat) : Int) = P at *
  congr 1
  have e4 : 4 * n * P = n * P * 4 := by ac_rfl
  rcases Int.lt_trichotomy a (4 * n) with h | h | h
  · have := Int.mul_lt_mul_of_pos_right h hp
    rw [Int.compare_eq_lt.mpr h, Int.compare_eq_lt.mpr (by omega)]
  · rw [h] at h1
    rw [h, show Float64.val x = n * P by omega]; simp
  · have := Int.mul_lt_mul_of_pos_right h hp
    rw [Int.compare_eq_gt.mpr h, Int.compare_eq_gt.mpr (by omega)]

theorem isZero_isF {x : UInt64} {a : Int} (hx : IsF x a) : isZero x = decide (a = 0) := by
  obtain ⟨m, e, hd, hv⟩ := hx
  unfold isZero
  rw [hd]
  have hp : 0 < 2 ^ (e + 1074).toNat := Nat.two_pow_pos _
  have hp2 : 0 < (2 : Nat) ^ 1074 := Nat.two_pow_pos _
  generalize (2 : Nat) ^ 1074 = P at *
  cases m with
  | zero =>
    have : a.natAbs * P = 0 := by omega
    have : a = 0 := by rcases Nat.mul_eq_zero.mp this with h | h <;> omega
    simp [this]
  | succ m =>
    have : a ≠ 0 := by
      intro h
      subst h
      have : 0 < (m + 1) * 2 ^ (e + 1074).toNat := Nat.mul_pos (by omega) hp
      simp only [Int.natAbs_zero, Nat.zero_mul] at hv
      omega
    simp [this]

theorem isFin_isF {x : UInt64} {a : Int} (hx : IsF x a) : isNaN x = false ∧ isInf x = false := by
  obtain ⟨m, e, hd⟩ := hx.ex
  unfold isNaN isInf
  rw [hd]; exact ⟨rfl, rfl⟩

theorem floorOf_val {x : UInt64} {m : Nat} {e : Int} (hd : decode x = .fin false m e) : floorOf false m e = (((m * 2 ^ (e + 1074).toNat) / 2 ^ 1074 : Nat) : Int) := by
  have he := decode_ge hd
  unfold floorOf
  split
  · have e1 : (e + 1074).toNat = e.toNat + 1074 := by omega
    rw [e1, Nat.pow_add, ← Nat.mul_assoc, Nat.mul_div_cancel _ (Nat.two_pow_pos _)]
    simp [sgn]
  · have e1 : (1074 : Nat) = (e + 1074).toNat + (-e).toNat := by omega
    rw [show (2 : Nat) ^ 1074 = 2 ^ (e + 1074).toNat * 2 ^ (-e).toNat by rw [← Nat.pow_add, ← e1], Nat.mul_comm m, Nat.mul_div_mul_left _ _ (Nat.two_pow_pos _)]
    have : sgn false m = (m : Int) := rfl
    rw [this, Int.fdiv_eq_ediv_of_nonneg _ (Int.le_of_lt (Int.pow_pos (by decide))), Int.natCast_ediv]
    simp

theorem quo {t a b s : Nat} (hs : 0 < s) (hb : 0 < b) (hsz : 2 * a + 2 * b < 2 ^ 53) (near : ∀ t', dist (a * 2 ^ 1074 * s) (b * s * V t) ≤ dist (a * 2 ^ 1074 * s) (b * s * V t')) : V t / 2 ^ 1074 = a / b := by
  have near' : ∀ t', dist (a * 2 ^ 1074) (b * V t) ≤ dist (a * 2 ^ 1074) (b * V t') := by
    intro t'
    have h := near t'
    generalize (2 : Nat) ^ 1074 = P at *
    rw [show a * P * s = s * (a * P) by ac_rfl, show b * s * V t = s * (b * V t) by ac_rfl, show b * s * V t' = s * (b * V t') by ac_rfl, dist_mul, dist_mul] at h
    exact Nat.le_of_mul_le_mul_left h hs
  clear near
  have hab := Nat.div_add_mod a b
  have hmod := Nat.mod_lt a hb
  have hna : a / b ≤ a := Nat.div_le_self _ _
  generalize a / b = n at *
  generalize hr : a % b = r at *
  -- the power beside b
  obtain ⟨k, hk1, hk2, hk3⟩ : ∃ k, b < 2 ^ k ∧ 2 ^ k ≤ 2 * b ∧ k ≤ 53 := by
    refine ⟨b.log2 + 1, Nat.lt_log2_self, ?_, ?_⟩
    · rw [Nat.pow_succ, Nat.mul_comm]; exact Nat.mul_le_mul_left _ (Nat.log2_self_le (by omega))
    · have : b.log2 < 53 := (Nat.log2_lt (by omega)).2 (by omega)
      omega
  have eP : (2 : Nat) ^ 1074 = 2 ^ k * 2 ^ (1074 - k) := by rw [← Nat.pow_add]; congr 1; omega
  have hc1 : (n + 1) * 2 ^ k ≤ 2 * (b * n) + 2 * b := by
    calc (n + 1) * 2 ^ k ≤ (n + 1) * (2 * b) := Nat.mul_le_mul_left _ hk2
      _ = 2 * (b * n) + 2 * b := nq_mul n b
  have hc0 : 1 ≤ (n + 1) * 2 ^ k := Nat.mul_pos (by omega) (Nat.two_pow_pos _)
  obtain ⟨t1, ht1⟩ := rep n 1074 (by omega) (by decide)
  obtain ⟨t2, ht2⟩ := rep ((n + 1) * 2 ^ k - 1) (1074 - k) (by omega) (by omega)
  have n1 := near' t1
  have n2 := near' t2
  clear near'
  rw [ht1] at n1
  rw [ht2, eP] at n2
  have hPk : 0 < 2 ^ (1074 - k) := Nat.two_pow_pos _
  have hP : 0 < (2 : Nat) ^ 1074 := Nat.two_pow_pos _
  have lo : n * 2 ^ 1074 ≤ V t := by
    rcases Nat.lt_or_ge (V t) (n * 2 ^ 1074) with h | h
    · exfalso
      generalize (2 : Nat) ^ 1074 = P at *
      generalize V t = v at *
      have h1 : b * v + b ≤ b * (n * P) := by
        have := Nat.mul_le_mul_left b h
        rw [Nat.succ_eq_add_one, Nat.mul_add, Nat.mul_one] at this
        exact this
      have h2 : b * (n * P) ≤ a * P := by
        rw [← Nat.mul_assoc]; exact Nat.mul_le_mul_right _ (by omega)
      unfold dist at n1
      omega
    · exact h
  have hi : V t < (n + 1) * 2 ^ 1074 := by
    rcases Nat.lt_or_ge (V t) ((n + 1) * 2 ^ 1074) with h | h
    · exact h
    · exfalso
      rw [eP] at h
      generalize 2 ^ (1074 - k) = J at *
      generalize 2 ^ k = c at *
      generalize V t = v at *
      clear n1 lo hP eP
      have h1 : b * ((n + 1) * (c * J)) ≤ b * v := Nat.mul_le_mul_left _ h
      have h2 : b * (((n + 1) * c - 1) * J) + b * J = b * ((n + 1) * (c * J)) := by
        rw [← Nat.mul_add, ← Nat.mul_assoc (n + 1)]
        generalize (n + 1) * c = M at *
        congr 1
        rw [Nat.sub_mul, Nat.one_mul]
        have : J ≤ M * J := Nat.le_mul_of_pos_left _ hc0
        omega
      have h3 : a * (c * J) + c * J ≤ b * ((n + 1) * (c * J)) := by
        have : a + 1 ≤ b * (n + 1) := by rw [Nat.mul_add]; omega
        calc a * (c * J) + c * J = (a + 1) * (c * J) := by rw [Nat.add_mul, Nat.one_mul]
          _ ≤ b * (n + 1) * (c * J) := Nat.mul_le_mul_right _ this
          _ = b * ((n + 1) * (c * J)) := by ac_rfl
      have h4 : b * J ≤ c * J := Nat.mul_le_mul_right _ (by omega)
      have h5 : 0 < b * J := Nat.mul_pos hb hPk
      unfold dist at n2
      omega
  exact Nat.div_eq_of_lt_le lo hi

theorem isQ_of_right {r : UInt64} {W D a b s : Nat} (h : Right r false W D) (hW : W = a * 2 ^ 1074 * s) (hD : D = b * s) (hs : 0 < s) (hb : 0 < b) (hsz : 2 * a + 2 * b < 2 ^ 53) : IsQ r ((a / b : Nat) : Int) := by
  obtain ⟨t, rfl, hle, hinf, hnear⟩ := h
  have hlt : t < infMag := by
    refine Nat.lt_of_le_of_ne hle fun e => ?_
    have h9 := hinf.mp e
    have e2 : (2 : Nat) ^ 2045 = 2 ^ 971 * 2 ^ 1074 := by rw [← Nat.pow_add]
    rw [hW, hD, e2] at h9
    have e3 : 2 ≤ (2 : Nat) ^ 971 := by
      calc (2 : Nat) = 2 ^ 1 := rfl
        _ ≤ 2 ^ 971 := Nat.pow_le_pow_right (by decide) (by decide)
    have hP : 0 < (2 : Nat) ^ 1074 := Nat.two_pow_pos _
    generalize (2 : Nat) ^ 1074 = P at *
    generalize (2 : Nat) ^ 971 = J at *
    have h10 : b * s * ((2 ^ 54 - 1) * (J * P)) = (s * P) * (b * ((2 ^ 54 - 1) * J)) := by
      generalize (2 ^ 54 - 1 : Nat) = C
      ac_rfl
    have h11 : 2 * (a * P * s) = (s * P) * (2 * a) := by ac_rfl
    rw [h10, h11] at h9
    have h12 := Nat.le_of_mul_le_mul_left h9 (Nat.mul_pos hs hP)
    have h13 : (2 ^ 54 - 1) * 2 ≤ (2 ^ 54 - 1) * J := Nat.mul_le_mul_left _ e3
    have h14 : 1 * ((2 ^ 54 - 1) * J) ≤ b * ((2 ^ 54 - 1) * J) := Nat.mul_le_mul_right _ hb
    omega
  have near : ∀ t', dist (a * 2 ^ 1074 * s) (b * s * V t) ≤ dist (a * 2 ^ 1074 * s) (b * s * V t') := fun t' => by
    have := (hnear hlt t').1
    rwa [hW, hD] at this
  have q := quo hs hb hsz near
  obtain ⟨m, e, hd, hv⟩ := decode_pack false hlt
  refine ⟨m, e, hd, ?_⟩
  rw [floorOf_val hd, hv, q]

theorem isQ_div {x y : UInt64} {a b : Int} (hx : IsF x a) (hy : IsF y b) (ha : 0 ≤ a) (hb : 0 < b) (h : 2 * a + 2 * b < 2 ^ 53) : IsQ (div x y) (a / b) := by
  obtain ⟨m, e, hd, hv⟩ := hx
  obtain ⟨k, f, hd', hv'⟩ := hy
  have hk : k ≠ 0 := by
    intro h0
    subst h0
    have hp2 : 0 < (2 : Nat) ^ 1074 := Nat.two_pow_pos _
    have : 0 < b.natAbs * 2 ^ 1074 := Nat.mul_pos (by omega) hp2
    generalize (2 : Nat) ^ 1074 = P at *
    omega
  have r := div_right hd hd' hk
  rw [show (decide (a < 0) != decide (b < 0)) = false by
    have e1 : decide (a < 0) = false := by simpa using ha
    have e2 : decide (b < 0) = false := by simpa using Int.le_of_lt hb
    rw [e1, e2]; rfl] at r
  rw [val_natAbs hd, val_natAbs hd'] at r
  have e1 : (2 : Nat) ^ 1074 = 2 ^ 1072 * 4 := by rw [show (1074 : Nat) = 1072 + 2 from rfl, Nat.pow_add]
  have hq := isQ_of_right (a := a.natAbs) (b := b.natAbs) (s := 2 ^ 1072) r ?_ ?_ (Nat.two_pow_pos _) (by omega) (by omega)
  · rw [natDiv ha hb] at hq
    exact hq
  · generalize hP : (2 : Nat) ^ 1074 = P at *
    generalize (2 : Nat) ^ 1072 = J at *
    generalize m * 2 ^ (e + 1074).toNat = X at *
    have : X = a.natAbs * J := by rw [e1] at hv; rw [← Nat.mul_assoc] at hv; omega
    rw [this]; ac_rfl
  · generalize hP : (2 : Nat) ^ 1074 = P at *
    generalize (2 : Nat) ^ 1072 = J at *
    generalize k * 2 ^ (f + 1074).toNat = X at *
    rw [e1, ← Nat.mul_assoc] at hv'; omega

theorem isQ_frac {a b : Int} (ha : 0 ≤ a) (hb : 0 < b) (h : 2 * a + 2 * b < 2 ^ 53) : IsQ (ofFrac (decide (a < 0) != decide (b < 0)) a.natAbs b.natAbs) (a / b) := by
  rw [show (decide (a < 0) != decide (b < 0)) = false by
    have e1 : decide (a < 0) = false := by simpa using ha
    have e2 : decide (b < 0) = false := by simpa using Int.le_of_lt hb
    rw [e1, e2]; rfl]
  have r : Right (ofFrac false a.natAbs b.natAbs) false (a.natAbs * 2 ^ 1074 * 1) (b.natAbs * 1) := ofFrac_right (by omega) (by generalize (2 : Nat) ^ 1074 = P; ac_rfl) (by omega)
  have hq := isQ_of_right (a := a.natAbs) (b := b.natAbs) (s := 1) r rfl rfl (by decide) (by omega) (by omega)
  rw [natDiv ha hb] at hq
  exact hq

theorem isF_frac {a b c : Int} (hc : 4 * a = c * b) (ha : 0 ≤ a) (hb : 0 < b) (h : c.natAbs < 2 ^ 53) : IsF (ofFrac (decide (a < 0) != decide (b < 0)) a.natAbs b.natAbs) c := by
  have hc0 : 0 ≤ c := by
    rcases Int.lt_or_le c 0 with h | h
    · have := Int.mul_neg_of_neg_of_pos h hb; omega
    · exact h
  have e3 : decide (c < 0) = false := by simpa using hc0
  rw [show (decide (a < 0) != decide (b < 0)) = false by
    have e1 : decide (a < 0) = false := by simpa using ha
    have e2 : decide (b < 0) = false := by simpa using Int.le_of_lt hb
    rw [e1, e2]; rfl]
  refine isF_of_right (ofFrac_right (W := a.natAbs * 2 ^ 1074) (D := b.natAbs) (by omega) rfl (by omega)) (by omega) ?_ e3.symm h
  have h3 := congrArg Int.natAbs hc
  rw [Int.natAbs_mul, Int.natAbs_mul] at h3
  have e4 : (4 : Int).natAbs = 4 := rfl
  rw [e4] at h3
  generalize (2 : Nat) ^ 1074 = P
  calc a.natAbs * P * 4 = (4 * a.natAbs) * P := by ac_rfl
    _ = (c.natAbs * b.natAbs) * P := by rw [h3]
    _ = b.natAbs * (c.natAbs * P) := by ac_rfl

theorem isQ_isF {x : UInt64} {k : Int} (h : IsF x k) (hk : 0 ≤ k) : IsQ x (k / 4) := by
  obtain ⟨m, e, hd, hv⟩ := h
  have e3 : decide (k < 0) = false := by simpa using hk
  rw [e3] at hd
  refine ⟨m, e, hd, ?_⟩
  rw [floorOf_val hd]
  have hp2 : 0 < (2 : Nat) ^ 1074 := Nat.two_pow_pos _
  have e1 : (2 : Nat) ^ 1074 = 2 ^ 1072 * 4 := by rw [show (1074 : Nat) = 1072 + 2 from rfl, Nat.pow_add]
  generalize m * 2 ^ (e + 1074).toNat = X at *
  have : X = k.natAbs * 2 ^ 1072 := by
    rw [e1] at hv
    rw [← Nat.mul_assoc] at hv
    omega
  rw [this, e1, Nat.mul_comm, Nat.mul_div_mul_left _ _ (Nat.two_pow_pos _)]
  exact natDiv hk (by decide : (0 : Int) < 4)

theorem isF_fmod {x y : UInt64} {a b : Int} (hx : IsF x a) (hy : IsF y b) (ha : 0 ≤ a) (hb : 0 < b) (h : (a % b).natAbs < 2 ^ 53) : IsF (fmod x y) (a % b) := by
  have h1 := hx.val
  have h2 := hy.val
  obtain ⟨m, e, hd⟩ := hx.ex
  obtain ⟨k, f, hd'⟩ := hy.ex
  have e1 : decide (a < 0) = false := by simpa using ha
  have e2 : decide (b < 0) = false := by simpa using Int.le_of_lt hb
  have h0 := Int.emod_nonneg a (Int.ne_of_gt hb)
  have e3 : decide (a % b < 0) = false := by simpa using h0
  rw [e1] at hd
  rw [e2] at hd'
  have he := decode_ge hd
  have hf := decode_ge hd'
  have hk : k ≠ 0 := by
    intro h0
    subst h0
    rw [val_eq hd'] at h2
    have := Int.mul_pos hb big_pos
    simp only [sgn, Nat.zero_mul] at h2
    generalize ((2 ^ 1074 : Nat) : Int) = P at *
    simp at h2
    omega
  rw [val_eq hd] at h1
  rw [val_eq hd'] at h2
  have hm : fmod x y = ofBin false ((m * 2 ^ (e - min e f).toNat) % (k * 2 ^ (f - min e f).toNat)) (min e f) := by
    unfold fmod
    rw [hd, hd']
    simp only [align, sgn]
    rw [if_neg (by simpa using hk)]
    rfl
  rw [hm]
  unfold ofBin
  have ep : m * 2 ^ (e + 1074).toNat = m * 2 ^ (e - min e f).toNat * 2 ^ (min e f + 1074).toNat := by
    rw [Nat.mul_assoc, ← Nat.pow_add]; congr 2; omega
  have eq : k * 2 ^ (f + 1074).toNat = k * 2 ^ (f - min e f).toNat * 2 ^ (min e f + 1074).toNat := by
    rw [Nat.mul_assoc, ← Nat.pow_add]; congr 2; omega
  simp only [sgn] at h1 h2
  rw [ep] at h1
  rw [eq] at h2
  have sh := shift_one ((m * 2 ^ (e - min e f).toNat) % (k * 2 ^ (f - min e f).toNat)) (min e f) 1074 (by omega)
  have e5 : (min e f + ((1074 : Nat) : Int)).toNat = (min e f + 1074).toNat := rfl
  rw [e5] at sh
  refine isF_of_right (ofFrac_right (W := (m * 2 ^ (e - min e f).toNat) % (k * 2 ^ (f - min e f).toNat) * 2 ^ (min e f + 1074).toNat) (D := 1) (shift_pos _ _ _ (by decide)) ?_ (by decide)) (by decide) ?_ e3.symm h
  · rw [Nat.mul_one]; exact sh
  · clear sh
    have hg : 0 < 2 ^ (min e f + 1074).toNat := Nat.two_pow_pos _
    generalize m * 2 ^ (e - min e f).toNat = p at *
    generalize k * 2 ^ (f - min e f).toNat = q at *
    generalize 2 ^ (min e f + 1074).toNat = G at *
    have hp := big_pos
    rw [← Nat.mul_mod_mul_right]
    have h1' : ((p * G : Nat) : Int) * 4 = a * ((2 ^ 1074 : Nat) : Int) := by simpa using h1
    have h2' : ((q * G : Nat) : Int) * 4 = b * ((2 ^ 1074 : Nat) : Int) := by simpa using h2
    generalize p * G = X at *
    generalize q * G = Y at *
    generalize hN : (2 : Nat) ^ 1074 = P at *
    have h3 : ((X % Y : Nat) : Int) * 4 = (a % b) * (P : Int) := by
      rw [Int.natCast_emod, Int.mul_comm (a % b), ← Int.mul_emod_mul_of_pos _ _ hp, Int.mul_comm _ a, Int.mul_comm _ b, ← h1', ← h2', Int.mul_comm _ 4, Int.mul_comm _ 4, Int.mul_comm _ 4, Int.mul_emod_mul_of_pos _ _ (by decide : (0 : Int) < 4)]
    have h4 := congrArg Int.natAbs h3
    rw [Int.natAbs_mul, Int.natAbs_mul, Int.natAbs_natCast, Int.natAbs_natCast] at h4
    rw [Nat.one_mul]
    exact h4

theorem isF_mod {x y : UInt64} {a b : Int} (hx : IsF x a) (hy : IsF y b) (ha : 0 ≤ a) (hb : 0 < b) (h : (a % b).natAbs < 2 ^ 53) : IsF (divmod x y).2 (a % b) := by
  have hm := isF_fmod hx hy ha hb h
  have hz0 : IsF (zero false) 0 := isF_zero
  unfold divmod
  have h0 := Int.emod_nonneg a (Int.ne_of_gt hb)
  by_cases hz : isZero (fmod x y) = true
  · simp only [if_pos hz]
    rw [isZero_isF hm] at hz
    have hz' : a % b = 0 := by simpa using hz
    rw [hz']
    have : copysign (zero false) y = zero false := by
      obtain ⟨k, f, hd'⟩ := hy.ex
      unfold copysign
      have e0 : isNaN (zero false) = false := by unfold isNaN; rw [dec0]
      rw [if_neg (by rw [e0]; decide)]
      have e1 : signBit y = false := by
        have e2 : decide (b < 0) = false := by simpa using Int.le_of_lt hb
        rw [e2] at hd'
        unfold decode at hd'
        unfold signBit
        simp only at hd'
        split at hd'
        · split at hd' <;> cases hd'
        · split at hd' <;> (injection hd')
      rw [e1]
      with_unfolding_all rfl
    rw [this]
    exact hz0
  · simp only [if_neg hz]
    have l1 : lt y (zero false) = false := by
      unfold lt
      rw [cmp_isF hy hz0, Int.compare_eq_gt.mpr (by omega)]; rfl
    have l2 : lt (fmod x y) (zero false) = false := by
      unfold lt
      rw [cmp_isF hm hz0]
      rcases Int.lt_or_eq_of_le h0 with h | h
      · rw [Int.compare_eq_gt.mpr h]; rfl
      · rw [← h]; rfl
    rw [l1, l2]
    exact hm

end
section
open PySem PySem.W PySem.Spec PySem.Calls PyProof.Rows PySem.Float64
section
variable {prog : Program} {w : World} {A : Around} {E : Value → Shared → Prop} {s : Shared} {Q : Value → Shared → Prop} {x y : UInt64} {a b : Int} {n : Int} {t u : Tok}
theorem lt1023 {n : Int} (h : n.natAbs < 2 ^ 51) : n.natAbs < 2 ^ 1023 :=
  Nat.lt_of_lt_of_le h (Nat.pow_le_pow_right (by decide) (by decide))
theorem four {n : Int} (h : n.natAbs < 2 ^ 51) : (4 * n).natAbs < 2 ^ 53 := by omega
theorem nover {n : Int} (h : n.natAbs < 2 ^ 51) : ¬ PySem.Flt.Over n := fun o => absurd (PySem.Flt.inf_of_over o) (Float64.ofInt_fits (lt1023 h))
theorem w_add_ff (hx : IsF x a) (hy : IsF y b) (hs : (a + b).natAbs < 2 ^ 53) (h : ∀ z, IsF z (a + b) → Q (.float z s.toks) { s with toks := s.toks + 1 }) :
    wpAny (model prog w) A (binaryOp .Add (.float x t) (.float y u)) Q E s := by
  with_reducible refine' add_float ?k0
  case k0 => exact (h _ (isF_add hx hy hs))
theorem w_sub_ff (hx : IsF x a) (hy : IsF y b) (hs : (a - b).natAbs < 2 ^ 53 ∧ 0 ≤ a) (h : ∀ z, IsF z (a - b) → Q (.float z s.toks) { s with toks := s.toks + 1 }) :
    wpAny (model prog w) A (binaryOp .Sub (.float x t) (.float y u)) Q E s := by
  with_reducible refine' sub_float ?k0
  case k0 => exact (h _ (isF_sub hx hy hs.1 (by omega)))
theorem w_mul_ff (hx : IsF x a) (hy : IsF y b) (hs : 0 ≤ a ∧ 0 ≤ b ∧ a * b < 2 ^ 53 ∧ (a * b) % 4 = 0) (h : ∀ z, IsF z (a * b / 4) → Q (.float z s.toks) { s with toks := s.toks + 1 }) :
    wpAny (model prog w) A (binaryOp .Mult (.float x t) (.float y u)) Q E s := by
  obtain ⟨h1, h2, h3, h4⟩ := hs
  have h5 := Int.mul_nonneg h1 h2
  generalize hc : a * b = c at *
  exact mul_float (h _ (isF_mul hx hy (by rw [hc]; omega) h1 h2 (by omega)))
theorem w_add_fi (hx : IsF x a) (hs : n.natAbs < 2 ^ 51 ∧ (a + 4 * n).natAbs < 2 ^ 53) (h : ∀ z, IsF z (a + 4 * n) → Q (.float z s.toks) { s with toks := s.toks + 1 }) :
    wpAny (model prog w) A (binaryOp .Add (.float x t) (.int n u)) Q E s := by
  with_reducible refine' add_fi_fits ?k0 ?k1
  case k0 => exact (lt1023 hs.1)
  case k1 => exact (h _ (isF_add hx (isF_ofInt (four hs.1)) hs.2))
theorem w_add_if (hx : IsF x a) (hs : n.natAbs < 2 ^ 51 ∧ (4 * n + a).natAbs < 2 ^ 53) (h : ∀ z, IsF z (4 * n + a) → Q (.float z s.toks) { s with toks := s.toks + 1 }) :
    wpAny (model prog w) A (binaryOp .Add (.int n u) (.float x t)) Q E s := by
  with_reducible refine' add_if_fits ?k0 ?k1
  case k0 => exact (lt1023 hs.1)
  case k1 => exact (h _ (isF_add (isF_ofInt (four hs.1)) hx hs.2))
theorem w_sub_fi (hx : IsF x a) (hs : n.natAbs < 2 ^ 51 ∧ (a - 4 * n).natAbs < 2 ^ 53 ∧ 0 ≤ a) (h : ∀ z, IsF z (a - 4 * n) → Q (.float z s.toks) { s with toks := s.toks + 1 }) :
    wpAny (model prog w) A (binaryOp .Sub (.float x t) (.int n u)) Q E s := by
  with_reducible refine' sub_fi_fits ?k0 ?k1
  case k0 => exact (lt1023 hs.1)
  case k1 => exact (h _ (isF_sub hx (isF_ofInt (four hs.1)) hs.2.1 (by omega)))
theorem w_mul_fi (hx : IsF x a) (hs : 0 ≤ a ∧ 0 ≤ n ∧ n < 2 ^ 51 ∧ n * a < 2 ^ 53) (h : ∀ z, IsF z (n * a) → Q (.float z s.toks) { s with toks := s.toks + 1 }) :
    wpAny (model prog w) A (binaryOp .Mult (.float x t) (.int n u)) Q E s := by
  obtain ⟨h1, h2, h3, h4⟩ := hs
  have hn : n.natAbs < 2 ^ 51 := by omega
  have h5 := Int.mul_nonneg h2 h1
  refine mul_fi_fits (lt1023 hn) (h _ (isF_mul hx (isF_ofInt (four hn)) ?_ h1 (by omega) (by omega)))
  rw [← Int.mul_assoc, Int.mul_comm a 4, Int.mul_assoc, Int.mul_comm a n]
theorem w_mul_if (hx : IsF x a) (hs : 0 ≤ a ∧ 0 ≤ n ∧ n < 2 ^ 51 ∧ n * a < 2 ^ 53) (h : ∀ z, IsF z (n * a) → Q (.float z s.toks) { s with toks := s.toks + 1 }) :
    wpAny (model prog w) A (binaryOp .Mult (.int n u) (.float x t)) Q E s := by
  obtain ⟨h1, h2, h3, h4⟩ := hs
  have hn : n.natAbs < 2 ^ 51 := by omega
  have h5 := Int.mul_nonneg h2 h1
  exact mul_if_fits (lt1023 hn) (h _ (isF_mul (isF_ofInt (four hn)) hx (Int.mul_assoc _ _ _) (by omega) h1 (by omega)))
theorem w_div_ff (hA : A.handled = none) (hx : IsF x a) (hy : IsF y b) (hs : 0 ≤ a ∧ 0 < b ∧ 2 * a + 2 * b < 2 ^ 53) (h : ∀ z, IsQ z (a / b) → Q (.float z s.toks) { s with toks := s.toks + 1 }) :
    wpAny (model prog w) A (binaryOp .Div (.float x t) (.float y u)) Q E s := by
  have hz : isZero y = false := by rw [isZero_isF hy]; simp; omega
  exact truediv_float_or hA (fun e => by rw [hz] at e; cases e) (fun _ => h _ (isQ_div hx hy hs.1 hs.2.1 hs.2.2))
theorem w_div_fi (hA : A.handled = none) (hx : IsF x a) (hs : 0 ≤ a ∧ 0 < n ∧ 2 * a + 8 * n < 2 ^ 53) (h : ∀ z, IsQ z (a / (4 * n)) → Q (.float z s.toks) { s with toks := s.toks + 1 }) :
    wpAny (model prog w) A (binaryOp .Div (.float x t) (.int n u)) Q E s := by
  have hn : n.natAbs < 2 ^ 51 := by omega
  exact PySem.Flt.truediv_fi hA (fun o => absurd o (nover hn)) (fun e => by omega) (fun _ _ => h _ (isQ_div hx (isF_ofInt (four hn)) hs.1 (by omega) (by omega)))
theorem w_div_if (hA : A.handled = none) (hx : IsF x a) (hs : 0 ≤ n ∧ 0 < a ∧ 8 * n + 2 * a < 2 ^ 53) (h : ∀ z, IsQ z (4 * n / a) → Q (.float z s.toks) { s with toks := s.toks + 1 }) :
    wpAny (model prog w) A (binaryOp .Div (.int n u) (.float x t)) Q E s := by
  have hn : n.natAbs < 2 ^ 51 := by omega
  have hz : isZero x = false := by rw [isZero_isF hx]; simp; omega
  exact PySem.Flt.truediv_if hA (fun o => absurd o (nover hn)) (fun _ e => by rw [hz] at e; cases e) (fun _ _ => h _ (isQ_div (isF_ofInt (four hn)) hx (by omega) hs.2.1 (by omega)))
theorem w_div_ii (hA : A.handled = none) (hs : 0 ≤ a ∧ 0 < b ∧ 2 * a + 2 * b < 2 ^ 51) (h : ∀ z, IsQ z (a / b) → Q (.float z s.toks) { s with toks := s.toks + 1 }) :
    wpAny (model prog w) A (binaryOp .Div (.int a t) (.int b u)) Q E s :=
  PySem.Flt.div_ii_fits hA (lt1023 (by omega)) (fun e => by omega) (fun _ _ => h _ (isQ_frac hs.1 hs.2.1 (by omega)))
theorem w_div_iiF (hA : A.handled = none) (hs : 0 ≤ a ∧ 0 < b ∧ a < 2 ^ 50 ∧ 4 * a = (4 * a / b) * b ∧ 4 * a / b < 2 ^ 53) (h : ∀ z, IsF z (4 * a / b) → Q (.float z s.toks) { s with toks := s.toks + 1 }) :
    wpAny (model prog w) A (binaryOp .Div (.int a t) (.int b u)) Q E s := by
  obtain ⟨h1, h2, h3, h4, h5⟩ := hs
  have h6 : 0 ≤ 4 * a / b := Int.ediv_nonneg (by omega) (by omega)
  exact PySem.Flt.div_ii_fits hA (lt1023 (by omega)) (fun e => by omega) (fun _ _ => h _ (isF_frac h4 h1 h2 (by omega)))
/-- raw quotient: what it is -/
def IsD (x : UInt64) (a b : Int) : Prop := x = ofFrac (decide (a < 0) != decide (b < 0)) a.natAbs b.natAbs
theorem w_div_iiD (hA : A.handled = none) (hs : 0 ≤ a ∧ 0 < b ∧ a < 2 ^ 50) (h : ∀ z, IsD z a b → Q (.float z s.toks) { s with toks := s.toks + 1 }) :
    wpAny (model prog w) A (binaryOp .Div (.int a t) (.int b u)) Q E s :=
  PySem.Flt.div_ii_fits hA (lt1023 (by omega)) (fun e => by omega) (fun _ _ => h _ rfl)
theorem w_mod_ff (hA : A.handled = none) (hx : IsF x a) (hy : IsF y b) (hs : 0 ≤ a ∧ 0 < b ∧ b < 2 ^ 53) (h : ∀ z, IsF z (a % b) → Q (.float z s.toks) { s with toks := s.toks + 1 }) :
    wpAny (model prog w) A (binaryOp .Mod (.float x t) (.float y u)) Q E s := by
  have hz : isZero y = false := by rw [isZero_isF hy]; simp; omega
  have h1 := Int.emod_nonneg a (show b ≠ 0 by omega)
  have h2 := Int.emod_lt_of_pos a hs.2.1
  exact PySem.Flt.mod_ff hA (fun e => by rw [hz] at e; cases e) (fun _ => h _ (isF_mod hx hy hs.1 hs.2.1 (by omega)))
theorem w_mod_fi (hA : A.handled = none) (hx : IsF x a) (hs : 0 ≤ a ∧ 0 < n ∧ n < 2 ^ 51) (h : ∀ z, IsF z (a % (4 * n)) → Q (.float z s.toks) { s with toks := s.toks + 1 }) :
    wpAny (model prog w) A (binaryOp .Mod (.float x t) (.int n u)) Q E s := by
  have hn : n.natAbs < 2 ^ 51 := by omega
  have h1 := Int.emod_nonneg a (show 4 * n ≠ 0 by omega)
  have h2 := Int.emod_lt_of_pos a (show 0 < 4 * n by omega)
  exact PySem.Flt.mod_fi hA (fun o => absurd o (nover hn)) (fun e => by omega) (fun _ _ => h _ (isF_mod hx (isF_ofInt (four hn)) hs.1 (by omega) (by omega)))
theorem w_mod_if (hA : A.handled = none) (hx : IsF x a) (hs : 0 ≤ n ∧ n < 2 ^ 51 ∧ 0 < a ∧ a < 2 ^ 53) (h : ∀ z, IsF z ((4 * n) % a) → Q (.float z s.toks) { s with toks := s.toks + 1 }) :
    wpAny (model prog w) A (binaryOp .Mod (.int n u) (.float x t)) Q E s := by
  have hn : n.natAbs < 2 ^ 51 := by omega
  have hz : isZero x = false := by rw [isZero_isF hx]; simp; omega
  have h1 := Int.emod_nonneg (4 * n) (show a ≠ 0 by omega)
  have h2 := Int.emod_lt_of_pos (4 * n) hs.2.2.1
  exact PySem.Flt.mod_if hA (fun o => absurd o (nover hn)) (fun _ e => by rw [hz] at e; cases e) (fun _ _ => h _ (isF_mod (isF_ofInt (four hn)) hx (by omega) hs.2.2.1 (by omega)))
theorem cmp_lt_dec (a b : Int) : ((some (compare a b) == some Ordering.lt)) = decide (a < b) := by
  rcases Int.lt_trichotomy a b with h | h | h
  · rw [Int.compare_eq_lt.mpr h]; simp [h]
  · subst h; simp
  · rw [Int.compare_eq_gt.mpr h]; simp [Int.le_of_lt h]
theorem cmp_gt_dec (a b : Int) : ((some (compare a b) == some Ordering.gt)) = decide (b < a) := by
  rcases Int.lt_trichotomy a b with h | h | h
  · rw [Int.compare_eq_lt.mpr h]; simp [Int.le_of_lt h]
  · subst h; simp
  · rw [Int.compare_eq_gt.mpr h]; simp [h]
theorem cmp_eq_dec (a b : Int) : ((some (compare a b) == some Ordering.eq)) = decide (a = b) := by
  rcases Int.lt_trichotomy a b with h | h | h
  · rw [Int.compare_eq_lt.mpr h]; simp [Int.ne_of_lt h]
  · subst h; simp
  · rw [Int.compare_eq_gt.mpr h]; simp [Int.ne_of_gt h]
theorem w_lt_ff (hx : IsF x a) (hy : IsF y b) (h : Q (.bool (decide (a < b))) s) : wpAny (model prog w) A (compareOp .Lt (.float x t) (.float y u)) Q E s :=
  AutoFloatOps.lt_0 (by rw [cmp_isF hx hy, cmp_lt_dec]; exact h)
theorem w_le_ff (hx : IsF x a) (hy : IsF y b) (h : Q (.bool (decide (a ≤ b))) s) : wpAny (model prog w) A (compareOp .LtE (.float x t) (.float y u)) Q E s :=
  AutoFloatOps.le_0 (by
    rw [cmp_isF hx hy, cmp_lt_dec, cmp_eq_dec]
    have e : (decide (a < b) || decide (a = b)) = decide (a ≤ b) := by
      by_cases h1 : a ≤ b
      · rcases Int.lt_or_eq_of_le h1 with h2 | h2 <;> simp [h1, h2]
      · have : ¬ a < b := by omega
        have h3 : ¬ a = b := by omega
        simp [h1, this, h3]
    rw [e]; exact h)
theorem w_eq_ff (hx : IsF x a) (hy : IsF y b) (h : Q (.bool (decide (a = b))) s) : wpAny (model prog w) A (compareOp .Eq (.float x t) (.float y u)) Q E s :=
  AutoFloatOps.eq_0 (by rw [cmp_isF hx hy, cmp_eq_dec]; exact h)
theorem w_ne_ff (hx : IsF x a) (hy : IsF y b) (h : Q (.bool (decide (a ≠ b))) s) : wpAny (model prog w) A (compareOp .NotEq (.float x t) (.float y u)) Q E s :=
  AutoFloatOps.ne_0 (by
    have e : (some (compare a b) != some Ordering.eq) = decide (a ≠ b) := by rw [bne, cmp_eq_dec]; simp
    rw [cmp_isF hx hy, e]; exact h)
theorem w_lt_fi (hx : IsF x a) (h : Q (.bool (decide (a < 4 * n))) s) : wpAny (model prog w) A (compareOp .Lt (.float x t) (.int n u)) Q E s :=
  lt_fi (by rw [cmpInt_isF hx, cmp_lt_dec]; exact h)
theorem w_ne_fi (hx : IsF x a) (h : Q (.bool (decide (a ≠ 4 * n))) s) : wpAny (model prog w) A (compareOp .NotEq (.float x t) (.int n u)) Q E s :=
  ne_fi (by
    have e : (some (compare a (4 * n)) != some Ordering.eq) = decide (a ≠ 4 * n) := by rw [bne, cmp_eq_dec]; simp
    rw [cmpInt_isF hx, e]; exact h)
theorem w_truthy (Q : Bool → Shared → Prop) (hx : IsF x a) (h : Q (decide (a ≠ 0)) s) : wpAny (model prog w) A (truthy (.float x t)) Q E s :=
  truthy_float (by
    have e : (!isZero x) = decide (a ≠ 0) := by rw [isZero_isF hx]; simp
    rw [e]; exact h)
theorem isQ_fin {x : UInt64} {q : Int} (h : IsQ x q) : Float64.isNaN x = false ∧ Float64.isInf x = false := by
  obtain ⟨m, e, hd, _⟩ := h
  unfold Float64.isNaN Float64.isInf; rw [hd]; exact ⟨rfl, rfl⟩
theorem isQ_floor {x : UInt64} {q : Int} (h : IsQ x q) : PySem.Flt.toInt floorOf x = q ∧ PySem.Flt.toInt truncOf x = q := by
  obtain ⟨m, e, hd, hq⟩ := h
  unfold PySem.Flt.toInt truncOf
  rw [hd]; exact ⟨hq, by simpa using hq⟩
theorem w_floor {q : Int} (hA : A.handled = none) (hx : IsQ x q) (h : Q (.int q s.toks) { s with toks := s.toks + 1 }) : wpAny (model prog w) A (call (.builtin "math.floor") [.float x t]) Q E s :=
  PySem.Flt.call_floor_float hA (fun e => by rw [(isQ_fin hx).1] at e; cases e) (fun e => by rw [(isQ_fin hx).2] at e; cases e) (fun _ => by rw [(isQ_floor hx).1]; exact h)
theorem w_trunc {q : Int} (hA : A.handled = none) (hx : IsQ x q) (h : Q (.int q s.toks) { s with toks := s.toks + 1 }) : wpAny (model prog w) A (call (.builtin "math.trunc") [.float x t]) Q E s :=
  PySem.Flt.call_trunc_float hA (fun e => by rw [(isQ_fin hx).1] at e; cases e) (fun e => by rw [(isQ_fin hx).2] at e; cases e) (fun _ => by rw [(isQ_floor hx).2]; exact h)
theorem w_int {q : Int} (hA : A.handled = none) (hx : IsQ x q) (h : Q (.int q s.toks) { s with toks := s.toks + 1 }) : wpAny (model prog w) A (call (.type "int") [.float x t]) Q E s :=
  PySem.Flt.call_int_float3 hA (fun e => by rw [(isQ_fin hx).1] at e; cases e) (fun e => by rw [(isQ_fin hx).2] at e; cases e) (fun _ => by rw [(isQ_floor hx).2]; exact h)
theorem w_mod_ii (hb : 0 < b) (h : Q (.int (a % b) s.toks) { s with toks := s.toks + 1 }) : wpAny (model prog w) A (binaryOp .Mod (.int a t) (.int b u)) Q E s :=
  mod_int' (by omega) (by rw [Int.fmod_eq_emod_of_nonneg _ (by omega)]; exact h)
end
theorem c_ge : IsF 4700144277945057280 6885702 := by
  have e : (4700144277945057280 : UInt64) = ofFrac (decide ((3442851 : Int) < 0) != decide ((2 : Int) < 0)) (3442851 : Int).natAbs (2 : Int).natAbs := by decide +kernel
  rw [e]; exact isF_frac (by decide) (by decide) (by decide) (by decide)
theorem c_fe : IsF 4702356487823949824 9503358 := by
  have e : (4702356487823949824 : UInt64) = ofFrac (decide ((4751679 : Int) < 0) != decide ((2 : Int) < 0)) (4751679 : Int).natAbs (2 : Int).natAbs := by decide +kernel
  rw [e]; exact isF_frac (by decide) (by decide) (by decide) (by decide)
theorem c_half : IsF 4602678819172646912 2 := by
  have e : (4602678819172646912 : UInt64) = ofFrac (decide ((1 : Int) < 0) != decide ((2 : Int) < 0)) (1 : Int).natAbs (2 : Int).natAbs := by decide +kernel
  rw [e]; exact isF_frac (by decide) (by decide) (by decide) (by decide)
theorem c_4 : IsF 4616189618054758400 16 := by
  have e : (4616189618054758400 : UInt64) = ofInt 4 := by decide +kernel
  rw [e]; exact isF_ofInt (by decide)
theorem c_365 : IsF 4645128764097822720 1460 := by
  have e : (4645128764097822720 : UInt64) = ofInt 365 := by decide +kernel
  rw [e]; exact isF_ofInt (by decide)
theorem c_1461 : IsF 4654140361399074816 5844 := by
  have e : (4654140361399074816 : UInt64) = ofInt 1461 := by decide +kernel
  rw [e]; exact isF_ofInt (by decide)
theorem c_100 : IsF 4636737291354636288 400 := by
  have e : (4636737291354636288 : UInt64) = ofInt 100 := by decide +kernel
  rw [e]; exact isF_ofInt (by decide)
theorem c_400 : IsF 4645744490609377280 1600 := by
  have e : (4645744490609377280 : UInt64) = ofInt 400 := by decide +kernel
  rw [e]; exact isF_ofInt (by decide)
theorem c_4000 : IsF 4661014508095930368 16000 := by
  have e : (4661014508095930368 : UInt64) = ofInt 4000 := by decide +kernel
  rw [e]; exact isF_ofInt (by decide)
theorem c_30 : IsF 4629137466983448576 120 := by
  have e : (4629137466983448576 : UInt64) = ofInt 30 := by decide +kernel
  rw [e]; exact isF_ofInt (by decide)
section
variable {prog : Program} {w : World} {A : Around} {E : Value → Shared → Prop} {s : Shared} {Q : Value → Shared → Prop} {h₀ : Heap} {L : Addr} {news : List (Addr × Obj)}
theorem mix_reads {h : Heap} {l : Addr} {k : Int} {c : Str} {u v : Tok} {n : Nat} (N : News h₀ L h news) (hm : (l, ({ cls := .type "tuple", data := .seq #[.int k u, .str c v] n } : Obj)) ∈ news) : Reads h (.ref l) (.tuple [.int k, .str c]) [] :=
  .tuple (as := []) (N _ hm).1 rfl rfl (.cons (as := []) (bs := []) (.int k u) (.cons (as := []) (bs := []) (.str c v) .nil))
theorem w_in_mixI {l : Addr} {i k : Int} {c : Str} {t u v : Tok} {n : Nat} (N : News h₀ L s.heap news) (hm : (l, ({ cls := .type "tuple", data := .seq #[.int k u, .str c v] n } : Obj)) ∈ news)
    (hc : (PyData.str c).canLay0 = true) (hu : A.units + 4 < cLine) (h : Q (.bool (decide (i = k))) s) : wpAny (model prog w) A (compareOp .In (.int i t) (.ref l)) Q E s := by
  refine SeqAt.in_tuple_reads (d := .int i) (mix_reads N hm) (.int i t) ?_ rfl ?_ ?_
  · simp only [PyData.canLay0] at hc; simp only [PyData.canLayAll0, PyData.canLay0, hc, Bool.and_true]
  · have : min (PyData.depthAll [PyData.int k, PyData.str c]) (PyData.int i).depth ≤ 0 := Nat.min_le_right _ _
    omega
  · have e : ([PyData.int k, PyData.str c].any fun y => PyData.eqv y (.int i)) = decide (i = k) := by
      simp only [List.any_cons, List.any_nil, PyData.eqv, Bool.or_false]
      by_cases q : i = k
      · subst q; simp
      · have : ¬ k = i := fun e => q e.symm
        simp [q, this]
    rw [e]; exact h
theorem w_in_mixS {l : Addr} {x : Str} {k : Int} {c : Str} {t u v : Tok} {n : Nat} (N : News h₀ L s.heap news) (hm : (l, ({ cls := .type "tuple", data := .seq #[.int k u, .str c v] n } : Obj)) ∈ news)
    (hc : (PyData.str c).canLay0 = true) (hx : (PyData.str x).canLay0 = true) (hu : A.units + 4 < cLine) {b : Bool} (hb : (c == x) = b) (h : Q (.bool b) s) : wpAny (model prog w) A (compareOp .In (.str x t) (.ref l)) Q E s := by
  subst hb
  refine SeqAt.in_tuple_reads (d := .str x) (mix_reads N hm) (.str x t) ?_ hx ?_ ?_
  · simp only [PyData.canLay0] at hc; simp only [PyData.canLayAll0, PyData.canLay0, hc, Bool.and_true]
  · have : min (PyData.depthAll [PyData.int k, PyData.str c]) (PyData.str x).depth ≤ 0 := Nat.min_le_right _ _
    omega
  · have e : ([PyData.int k, PyData.str c].any fun y => PyData.eqv y (.str x)) = (c == x) := by
      simp only [List.any_cons, List.any_nil, PyData.eqv, Bool.or_false, Bool.false_or]
    rw [e]; exact h
end
section
variable {prog : Program} {w : World} {A : Around} {E : Value → Shared → Prop} {s : Shared} {Q : Value → Shared → Prop} {h₀ : Heap} {L : Addr} {news : List (Addr × Obj)}
theorem mix4_reads {h : Heap} {l : Addr} {k k' : Int} {c c' : Str} {u v u' v' : Tok} {n : Nat} (N : News h₀ L h news) (hm : (l, ({ cls := .type "tuple", data := .seq #[.int k u, .str c v, .int k' u', .str c' v'] n } : Obj)) ∈ news) : Reads h (.ref l) (.tuple [.int k, .str c, .int k', .str c']) [] :=
  .tuple (as := []) (N _ hm).1 rfl rfl (.cons (as := []) (bs := []) (.int k u) (.cons (as := []) (bs := []) (.str c v) (.cons (as := []) (bs := []) (.int k' u') (.cons (as := []) (bs := []) (.str c' v') .nil))))
theorem w_in_mixI4 {l : Addr} {i k k' : Int} {c c' : Str} {t u v u' v' : Tok} {n : Nat} (N : News h₀ L s.heap news) (hm : (l, ({ cls := .type "tuple", data := .seq #[.int k u, .str c v, .int k' u', .str c' v'] n } : Obj)) ∈ news)
    (hc : (PyData.str c).canLay0 = true) (hc' : (PyData.str c').canLay0 = true) (hu : A.units + 4 < cLine) (h : Q (.bool (decide (i = k ∨ i = k'))) s) : wpAny (model prog w) A (compareOp .In (.int i t) (.ref l)) Q E s := by
  refine SeqAt.in_tuple_reads (d := .int i) (mix4_reads N hm) (.int i t) ?_ rfl ?_ ?_
  · simp only [PyData.canLay0] at hc hc'; simp only [PyData.canLayAll0, PyData.canLay0, hc, hc', Bool.and_true]
  · have : min (PyData.depthAll [PyData.int k, PyData.str c, PyData.int k', PyData.str c']) (PyData.int i).depth ≤ 0 := Nat.min_le_right _ _
    omega
  · have e : ([PyData.int k, PyData.str c, PyData.int k', PyData.str c'].any fun y => PyData.eqv y (.int i)) = decide (i = k ∨ i = k') := by
      simp only [List.any_cons, List.any_nil, PyData.eqv, Bool.or_false, Bool.false_or]
      rw [Bool.eq_iff_iff]
      simp only [Bool.or_eq_true, beq_iff_eq, decide_eq_true_eq]
      exact ⟨fun q => q.imp Eq.symm Eq.symm, fun q => q.imp Eq.symm Eq.symm⟩
    rw [e]; exact h
theorem w_in_mixS4 {l : Addr} {x : Str} {k k' : Int} {c c' : Str} {t u v u' v' : Tok} {n : Nat} (N : News h₀ L s.heap news) (hm : (l, ({ cls := .type "tuple", data := .seq #[.int k u, .str c v, .int k' u', .str c' v'] n } : Obj)) ∈ news)
    (hc : (PyData.str c).canLay0 = true) (hc' : (PyData.str c').canLay0 = true) (hx : (PyData.str x).canLay0 = true) (hu : A.units + 4 < cLine) {b : Bool} (hb : (c == x || c' == x) = b) (h : Q (.bool b) s) : wpAny (model prog w) A (compareOp .In (.str x t) (.ref l)) Q E s := by
  subst hb
  refine SeqAt.in_tuple_reads (d := .str x) (mix4_reads N hm) (.str x t) ?_ hx ?_ ?_
  · simp only [PyData.canLay0] at hc hc'; simp only [PyData.canLayAll0, PyData.canLay0, hc, hc', Bool.and_true]
  · have : min (PyData.depthAll [PyData.int k, PyData.str c, PyData.int k', PyData.str c']) (PyData.str x).depth ≤ 0 := Nat.min_le_right _ _
    omega
  · have e : ([PyData.int k, PyData.str c, PyData.int k', PyData.str c'].any fun y => PyData.eqv y (.str x)) = (c == x || c' == x) := by
      simp only [List.any_cons, List.any_nil, PyData.eqv, Bool.or_false, Bool.false_or]
    rw [e]; exact h
end
section
variable {prog : Program} {w : World} {A : Around} {E : Value → Shared → Prop} {s : Shared} {Q : Value → Shared → Prop} {h₀ : Heap} {L : Addr} {news : List (Addr × Obj)}
theorem w_in_3 {l : Addr} {i a b c : Int} {t u v x : Tok} {n : Nat} (N : News h₀ L s.heap news) (hm : (l, ({ cls := .type "tuple", data := .seq #[.int a u, .int b v, .int c x] n } : Obj)) ∈ news)
    (h : Q (.bool (decide (i = a ∨ i = b ∨ i = c))) s) : wpAny (model prog w) A (compareOp .In (.int i t) (.ref l)) Q E s := by
  refine in_tuple_ints (ns := [a, b, c]) (News.isTup N hm) (.cons _ _ (.cons _ _ (.cons _ _ .nil))) ?_
  have e : ([a, b, c].any fun y => y == i) = decide (i = a ∨ i = b ∨ i = c) := by
    rw [Bool.eq_iff_iff]
    simp only [List.any_cons, List.any_nil, Bool.or_false, Bool.or_eq_true, beq_iff_eq, decide_eq_true_eq]
    exact ⟨fun q => q.imp Eq.symm (fun q => q.imp Eq.symm Eq.symm), fun q => q.imp Eq.symm (fun q => q.imp Eq.symm Eq.symm)⟩
  rw [e]; exact h
end
theorem uok {dp un : Nat} {gd : Option (List Code)} {cn : Str} {cs : Scope} {L a : Addr} {ccd : Value} {cl : List (Str × Addr)} {outer : List Env} {env : Env} (h : un + 8 < cLine) : ((ktrTop dp un gd cn cs L a ccd cl outer).deeper env).units + 4 < cLine := by
  show un + 3 + 4 < cLine
  omega
section
variable {prog : Program} {w : World} {A : Around} {E : Value → Shared → Prop} {s : Shared} {Q : Value → Shared → Prop} {x : UInt64} {a n : Int} {t u : Tok}
theorem w_eq_if (hx : IsF x a) (h : Q (.bool (decide (a = 4 * n))) s) : wpAny (model prog w) A (compareOp .Eq (.int n u) (.float x t)) Q E s :=
  eq_if (by rw [cmpInt_isF hx, cmp_eq_dec]; exact h)
end
section
variable {prog : Program} {w : World} {A : Around} {E : Value → Shared → Prop} {s : Shared} {Q : Value → Shared → Prop} {a : Int} {t : Tok}
theorem w_add_true (h : Q (.int (a + 1) s.toks) { s with toks := s.toks + 1 }) : wpAny (model prog w) A (binaryOp .Add (.int a t) (.bool true)) Q E s := by
  with_reducible refine' add_int_bool ?k0
  case k0 => exact h
theorem w_add_false (h : Q (.int (a + 0) s.toks) { s with toks := s.toks + 1 }) : wpAny (model prog w) A (binaryOp .Add (.int a t) (.bool false)) Q E s := by
  with_reducible refine' add_int_bool ?k0
  case k0 => exact h
end
/-- a value that names a way: its number or its word -/
def Way (kind : Int) (v : Value) : Prop :=
  (kind = 0 ∧ ((∃ t, v = .int 4 t) ∨ ∃ t, v = .str (Str.ofString "continuous") t)) ∨ (kind = 1 ∧ ((∃ t, v = .int 100 t) ∨ ∃ t, v = .str (Str.ofString "romme") t)) ∨ (kind = 2 ∧ ((∃ t, v = .int 128 t) ∨ ∃ t, v = .str (Str.ofString "madler") t))
/-- the tuple's kind -/
def kindOf (k : Int) : Int := if k = 4 then 0 else if k = 100 then 1 else 2
def wordOf (k : Int) : Str := if k = 4 then Str.ofString "continuous" else if k = 100 then Str.ofString "romme" else Str.ofString "madler"
section
variable {prog : Program} {w : World} {A : Around} {E : Value → Shared → Prop} {s : Shared} {Q : Value → Shared → Prop} {h₀ : Heap} {L : Addr} {news : List (Addr × Obj)}
theorem Way.kinds {kind : Int} {v : Value} (h : Way kind v) : kind = 0 ∨ kind = 1 ∨ kind = 2 := by
  rcases h with ⟨h, _⟩ | ⟨h, _⟩ | ⟨h, _⟩ <;> simp [h]
theorem w_in_way {l : Addr} {kind k : Int} {v : Value} {c : Str} {u u' : Tok} {n : Nat} (hv : Way kind v) (N : News h₀ L s.heap news) (hm : (l, ({ cls := .type "tuple", data := .seq #[.int k u, .str c u'] n } : Obj)) ∈ news)
    (hk : (k = 4 ∨ k = 100 ∨ k = 128) ∧ c = wordOf k) (hu : A.units + 4 < cLine) {b : Bool} (hb : decide (kind = kindOf k) = b) (h : Q (.bool b) s) : wpAny (model prog w) A (compareOp .In v (.ref l)) Q E s := by
  obtain ⟨hk, rfl⟩ := hk
  subst hb
  have l1 : ∀ k, (k = 4 ∨ k = 100 ∨ k = 128) → (PyData.str (wordOf k)).canLay0 = true := by
    rintro _ (rfl | rfl | rfl) <;> decide +kernel
  rcases hv with ⟨rfl, ⟨t, rfl⟩ | ⟨t, rfl⟩⟩ | ⟨rfl, ⟨t, rfl⟩ | ⟨t, rfl⟩⟩ | ⟨rfl, ⟨t, rfl⟩ | ⟨t, rfl⟩⟩
  · refine w_in_mixI N hm (l1 _ hk) hu ?_
    rcases hk with rfl | rfl | rfl <;> exact h
  · refine w_in_mixS N hm (l1 _ hk) (l1 4 (by decide)) hu ?_ h
    rcases hk with rfl | rfl | rfl <;> decide +kernel
  · refine w_in_mixI N hm (l1 _ hk) hu ?_
    rcases hk with rfl | rfl | rfl <;> exact h
  · refine w_in_mixS N hm (l1 _ hk) (l1 100 (by decide)) hu ?_ h
    rcases hk with rfl | rfl | rfl <;> decide +kernel
  · refine w_in_mixI N hm (l1 _ hk) hu ?_
    rcases hk with rfl | rfl | rfl <;> exact h
  · refine w_in_mixS N hm (l1 _ hk) (l1 128 (by decide)) hu ?_ h
    rcases hk with rfl | rfl | rfl <;> decide +kernel
theorem w_in_way4 {l : Addr} {kind : Int} {v : Value} {u u' u2 u3 : Tok} {n : Nat} (hv : Way kind v) (N : News h₀ L s.heap news) (hm : (l, ({ cls := .type "tuple", data := .seq #[.int 128 u, .str (Str.ofString "madler") u', .int 4 u2, .str (Str.ofString "continuous") u3] n } : Obj)) ∈ news)
    (hu : A.units + 4 < cLine) {b : Bool} (hb : decide (kind = 2 ∨ kind = 0) = b) (h : Q (.bool b) s) : wpAny (model prog w) A (compareOp .In v (.ref l)) Q E s := by
  subst hb
  have l1 : ∀ k, (k = 4 ∨ k = 100 ∨ k = 128) → (PyData.str (wordOf k)).canLay0 = true := by
    rintro _ (rfl | rfl | rfl) <;> decide +kernel
  rcases hv with ⟨rfl, ⟨t, rfl⟩ | ⟨t, rfl⟩⟩ | ⟨rfl, ⟨t, rfl⟩ | ⟨t, rfl⟩⟩ | ⟨rfl, ⟨t, rfl⟩ | ⟨t, rfl⟩⟩
  · exact w_in_mixI4 N hm (l1 128 (by decide)) (l1 4 (by decide)) hu h
  · exact w_in_mixS4 N hm (l1 128 (by decide)) (l1 4 (by decide)) (l1 4 (by decide)) hu (by decide +kernel) h
  · exact w_in_mixI4 N hm (l1 128 (by decide)) (l1 4 (by decide)) hu h
  · exact w_in_mixS4 N hm (l1 128 (by decide)) (l1 4 (by decide)) (l1 100 (by decide)) hu (by decide +kernel) h
  · exact w_in_mixI4 N hm (l1 128 (by decide)) (l1 4 (by decide)) hu h
  · exact w_in_mixS4 N hm (l1 128 (by decide)) (l1 4 (by decide)) (l1 128 (by decide)) hu (by decide +kernel) h
theorem w_truthy_way {kind : Int} {v : Value} (Q : Bool → Shared → Prop) (hv : Way kind v) (h : ∀ tk, Q true { s with toks := tk }) : wpAny (model prog w) A (truthy v) Q E s := by
  rcases hv with ⟨rfl, ⟨t, rfl⟩ | ⟨t, rfl⟩⟩ | ⟨rfl, ⟨t, rfl⟩ | ⟨t, rfl⟩⟩ | ⟨rfl, ⟨t, rfl⟩ | ⟨t, rfl⟩⟩
  · exact truthy_int (h s.toks)
  · exact SBL.truthy (by decide +kernel) (by rw [show (((Str.ofString "continuous").length : Int) != 0) = true by decide +kernel]; exact h _)
  · exact truthy_int (h s.toks)
  · exact SBL.truthy (by decide +kernel) (by rw [show (((Str.ofString "romme").length : Int) != 0) = true by decide +kernel]; exact h _)
  · exact truthy_int (h s.toks)
  · exact SBL.truthy (by decide +kernel) (by rw [show (((Str.ofString "madler").length : Int) != 0) = true by decide +kernel]; exact h _)
end
/-- the float x is the whole number n -/
def IsI (x : UInt64) (n : Int) : Prop := IsF x (4 * n)
section
variable {prog : Program} {w : World} {A : Around} {E : Value → Shared → Prop} {s : Shared} {Q : Value → Shared → Prop} {x y : UInt64} {a b : Int} {n : Int} {t u : Tok}
theorem i_div {a b : Int} : 4 * a / (4 * b) = a / b := Int.mul_ediv_mul_of_pos _ _ (by decide)
theorem i_mod {a b : Int} : 4 * a % (4 * b) = 4 * (a % b) := Int.mul_emod_mul_of_pos _ _ (by decide)
theorem i_int {n : Int} (h : n.natAbs < 2 ^ 51) : IsI (ofInt n) n := isF_ofInt (four h)
theorem i_add_ff (hx : IsI x a) (hy : IsI y b) (hs : (a + b).natAbs < 2 ^ 51) (h : ∀ z, IsI z (a + b) → Q (.float z s.toks) { s with toks := s.toks + 1 }) :
    wpAny (model prog w) A (binaryOp .Add (.float x t) (.float y u)) Q E s := by
  with_reducible refine' w_add_ff ?k0 ?k1 ?k2 ?k3
  case k0 => exact hx
  case k1 => exact hy
  case k2 => exact (by omega)
  case k3 => exact fun z hz => h z (by unfold IsI; rw [Int.mul_add]; exact hz)
theorem i_add_fi (hx : IsI x a) (hs : n.natAbs < 2 ^ 51 ∧ (a + n).natAbs < 2 ^ 51) (h : ∀ z, IsI z (a + n) → Q (.float z s.toks) { s with toks := s.toks + 1 }) :
    wpAny (model prog w) A (binaryOp .Add (.float x t) (.int n u)) Q E s := by
  with_reducible refine' w_add_fi ?k0 ?k1 ?k2
  case k0 => exact hx
  case k1 => exact (by omega)
  case k2 => exact fun z hz => h z (by unfold IsI; rw [Int.mul_add]; exact hz)
theorem i_add_if (hx : IsI x a) (hs : n.natAbs < 2 ^ 51 ∧ (n + a).natAbs < 2 ^ 51) (h : ∀ z, IsI z (n + a) → Q (.float z s.toks) { s with toks := s.toks + 1 }) :
    wpAny (model prog w) A (binaryOp .Add (.int n u) (.float x t)) Q E s := by
  with_reducible refine' w_add_if ?k0 ?k1 ?k2
  case k0 => exact hx
  case k1 => exact (by omega)
  case k2 => exact fun z hz => h z (by unfold IsI; rw [Int.mul_add]; exact hz)
theorem i_sub_ff (hx : IsI x a) (hy : IsI y b) (hs : (a - b).natAbs < 2 ^ 51 ∧ 0 ≤ a) (h : ∀ z, IsI z (a - b) → Q (.float z s.toks) { s with toks := s.toks + 1 }) :
    wpAny (model prog w) A (binaryOp .Sub (.float x t) (.float y u)) Q E s := by
  with_reducible refine' w_sub_ff ?k0 ?k1 ?k2 ?k3
  case k0 => exact hx
  case k1 => exact hy
  case k2 => exact (by omega)
  case k3 => exact fun z hz => h z (by unfold IsI; rw [Int.mul_sub]; exact hz)
theorem i_sub_fi (hx : IsI x a) (hs : n.natAbs < 2 ^ 51 ∧ (a - n).natAbs < 2 ^ 51 ∧ 0 ≤ a) (h : ∀ z, IsI z (a - n) → Q (.float z s.toks) { s with toks := s.toks + 1 }) :
    wpAny (model prog w) A (binaryOp .Sub (.float x t) (.int n u)) Q E s := by
  with_reducible refine' w_sub_fi ?k0 ?k1 ?k2
  case k0 => exact hx
  case k1 => exact (by omega)
  case k2 => exact fun z hz => h z (by unfold IsI; rw [Int.mul_sub]; exact hz)
theorem i_mul_ff (hx : IsI x a) (hy : IsI y b) (hs : 0 ≤ a ∧ 0 ≤ b ∧ a * b < 2 ^ 51) (h : ∀ z, IsI z (a * b) → Q (.float z s.toks) { s with toks := s.toks + 1 }) :
    wpAny (model prog w) A (binaryOp .Mult (.float x t) (.float y u)) Q E s := by
  obtain ⟨h1, h2, h3⟩ := hs
  have h5 := Int.mul_nonneg h1 h2
  have e : 4 * a * (4 * b) = 4 * (4 * (a * b)) := by rw [Int.mul_assoc, Int.mul_left_comm a 4 b]
  exact mul_float (h _ (isF_mul hx hy e (by omega) (by omega) (by omega)))
theorem i_mul_fi (hx : IsI x a) (hs : 0 ≤ a ∧ 0 ≤ n ∧ n < 2 ^ 51 ∧ a * n < 2 ^ 51) (h : ∀ z, IsI z (a * n) → Q (.float z s.toks) { s with toks := s.toks + 1 }) :
    wpAny (model prog w) A (binaryOp .Mult (.float x t) (.int n u)) Q E s := by
  obtain ⟨h1, h2, h3, h4⟩ := hs
  have hn : n.natAbs < 2 ^ 51 := by omega
  have h5 := Int.mul_nonneg h1 h2
  have e : 4 * a * (4 * n) = 4 * (4 * (a * n)) := by rw [Int.mul_assoc, Int.mul_left_comm a 4 n]
  exact mul_fi_fits (lt1023 hn) (h _ (isF_mul hx (i_int hn) e (by omega) (by omega) (by omega)))
theorem i_mul_if (hx : IsI x a) (hs : 0 ≤ a ∧ 0 ≤ n ∧ n < 2 ^ 51 ∧ n * a < 2 ^ 51) (h : ∀ z, IsI z (n * a) → Q (.float z s.toks) { s with toks := s.toks + 1 }) :
    wpAny (model prog w) A (binaryOp .Mult (.int n u) (.float x t)) Q E s := by
  obtain ⟨h1, h2, h3, h4⟩ := hs
  have hn : n.natAbs < 2 ^ 51 := by omega
  have h5 := Int.mul_nonneg h2 h1
  have e : 4 * n * (4 * a) = 4 * (4 * (n * a)) := by rw [Int.mul_assoc, Int.mul_left_comm n 4 a]
  exact mul_if_fits (lt1023 hn) (h _ (isF_mul (i_int hn) hx e (by omega) (by omega) (by omega)))
theorem i_div_ff (hA : A.handled = none) (hx : IsI x a) (hy : IsI y b) (hs : 0 ≤ a ∧ 0 < b ∧ a < 2 ^ 48 ∧ b < 2 ^ 48) (h : ∀ z, IsQ z (a / b) → Q (.float z s.toks) { s with toks := s.toks + 1 }) :
    wpAny (model prog w) A (binaryOp .Div (.float x t) (.float y u)) Q E s := by
  with_reducible refine' w_div_ff ?k0 ?k1 ?k2 ?k3 ?k4
  case k0 => exact hA
  case k1 => exact hx
  case k2 => exact hy
  case k3 => exact (by omega)
  case k4 => exact fun z hz => h z (by rw [i_div] at hz; exact hz)
theorem i_div_fi (hA : A.handled = none) (hx : IsI x a) (hs : 0 ≤ a ∧ 0 < n ∧ a < 2 ^ 48 ∧ n < 2 ^ 48) (h : ∀ z, IsQ z (a / n) → Q (.float z s.toks) { s with toks := s.toks + 1 }) :
    wpAny (model prog w) A (binaryOp .Div (.float x t) (.int n u)) Q E s := by
  with_reducible refine' w_div_fi ?k0 ?k1 ?k2 ?k3
  case k0 => exact hA
  case k1 => exact hx
  case k2 => exact (by omega)
  case k3 => exact fun z hz => h z (by rw [i_div] at hz; exact hz)
theorem i_div_if (hA : A.handled = none) (hx : IsI x a) (hs : 0 ≤ n ∧ 0 < a ∧ n < 2 ^ 48 ∧ a < 2 ^ 48) (h : ∀ z, IsQ z (n / a) → Q (.float z s.toks) { s with toks := s.toks + 1 }) :
    wpAny (model prog w) A (binaryOp .Div (.int n u) (.float x t)) Q E s := by
  with_reducible refine' w_div_if ?k0 ?k1 ?k2 ?k3
  case k0 => exact hA
  case k1 => exact hx
  case k2 => exact (by omega)
  case k3 => exact fun z hz => h z (by rw [i_div] at hz; exact hz)
theorem i_mod_ff (hA : A.handled = none) (hx : IsI x a) (hy : IsI y b) (hs : 0 ≤ a ∧ 0 < b ∧ b < 2 ^ 48) (h : ∀ z, IsI z (a % b) → Q (.float z s.toks) { s with toks := s.toks + 1 }) :
    wpAny (model prog w) A (binaryOp .Mod (.float x t) (.float y u)) Q E s := by
  with_reducible refine' w_mod_ff ?k0 ?k1 ?k2 ?k3 ?k4
  case k0 => exact hA
  case k1 => exact hx
  case k2 => exact hy
  case k3 => exact (by omega)
  case k4 => exact fun z hz => h z (by rw [i_mod] at hz; exact hz)
theorem i_mod_fi (hA : A.handled = none) (hx : IsI x a) (hs : 0 ≤ a ∧ 0 < n ∧ n < 2 ^ 48) (h : ∀ z, IsI z (a % n) → Q (.float z s.toks) { s with toks := s.toks + 1 }) :
    wpAny (model prog w) A (binaryOp .Mod (.float x t) (.int n u)) Q E s := by
  with_reducible refine' w_mod_fi ?k0 ?k1 ?k2 ?k3
  case k0 => exact hA
  case k1 => exact hx
  case k2 => exact (by omega)
  case k3 => exact fun z hz => h z (by rw [i_mod] at hz; exact hz)
theorem i_mod_if (hA : A.handled = none) (hx : IsI x a) (hs : 0 ≤ n ∧ n < 2 ^ 48 ∧ 0 < a ∧ a < 2 ^ 48) (h : ∀ z, IsI z (n % a) → Q (.float z s.toks) { s with toks := s.toks + 1 }) :
    wpAny (model prog w) A (binaryOp .Mod (.int n u) (.float x t)) Q E s := by
  with_reducible refine' w_mod_if ?k0 ?k1 ?k2 ?k3
  case k0 => exact hA
  case k1 => exact hx
  case k2 => exact (by omega)
  case k3 => exact fun z hz => h z (by rw [i_mod] at hz; exact hz)
theorem dec_of {p q : Prop} [Decidable p] [Decidable q] (h : p ↔ q) : decide p = decide q := decide_eq_decide.mpr h
theorem i_lt_ff (hx : IsI x a) (hy : IsI y b) (h : Q (.bool (decide (a < b))) s) : wpAny (model prog w) A (compareOp .Lt (.float x t) (.float y u)) Q E s := by
  with_reducible refine' w_lt_ff ?k0 ?k1 ?k2
  case k0 => exact hx
  case k1 => exact hy
  case k2 => exact (by rw [dec_of (show 4 * a < 4 * b ↔ a < b by omega)]; exact h)
theorem i_le_ff (hx : IsI x a) (hy : IsI y b) (h : Q (.bool (decide (a ≤ b))) s) : wpAny (model prog w) A (compareOp .LtE (.float x t) (.float y u)) Q E s := by
  with_reducible refine' w_le_ff ?k0 ?k1 ?k2
  case k0 => exact hx
  case k1 => exact hy
  case k2 => exact (by rw [dec_of (show 4 * a ≤ 4 * b ↔ a ≤ b by omega)]; exact h)
theorem i_eq_ff (hx : IsI x a) (hy : IsI y b) (h : Q (.bool (decide (a = b))) s) : wpAny (model prog w) A (compareOp .Eq (.float x t) (.float y u)) Q E s := by
  with_reducible refine' w_eq_ff ?k0 ?k1 ?k2
  case k0 => exact hx
  case k1 => exact hy
  case k2 => exact (by rw [dec_of (show 4 * a = 4 * b ↔ a = b by omega)]; exact h)
theorem i_eq_if (hx : IsI x a) (h : Q (.bool (decide (a = n))) s) : wpAny (model prog w) A (compareOp .Eq (.int n u) (.float x t)) Q E s := by
  with_reducible refine' w_eq_if ?k0 ?k1
  case k0 => exact hx
  case k1 => exact (by rw [dec_of (show 4 * a = 4 * n ↔ a = n by omega)]; exact h)
theorem i_lt_fi (hx : IsI x a) (h : Q (.bool (decide (a < n))) s) : wpAny (model prog w) A (compareOp .Lt (.float x t) (.int n u)) Q E s := by
  with_reducible refine' w_lt_fi ?k0 ?k1
  case k0 => exact hx
  case k1 => exact (by rw [dec_of (show 4 * a < 4 * n ↔ a < n by omega)]; exact h)
theorem i_ne_fi (hx : IsI x a) (h : Q (.bool (decide (a ≠ n))) s) : wpAny (model prog w) A (compareOp .NotEq (.float x t) (.int n u)) Q E s := by
  with_reducible refine' w_ne_fi ?k0 ?k1
  case k0 => exact hx
  case k1 => exact (by rw [dec_of (show 4 * a ≠ 4 * n ↔ a ≠ n by omega)]; exact h)
theorem i_isQ (hx : IsI x n) (h : 0 ≤ n) : IsQ x n := by
  have := isQ_isF hx (by omega)
  rwa [Int.mul_ediv_cancel_left _ (by decide)] at this
/-- a difference that is whole -/
theorem w_sub_ffI (hx : IsF x a) (hy : IsF y b) (hs : (a - b).natAbs < 2 ^ 53 ∧ 0 ≤ a ∧ (a - b) % 4 = 0) (h : ∀ z k, 4 * k = a - b → IsI z k → Q (.float z s.toks) { s with toks := s.toks + 1 }) :
    wpAny (model prog w) A (binaryOp .Sub (.float x t) (.float y u)) Q E s := by
  with_reducible refine' w_sub_ff ?k0 ?k1 ?k2 ?k3
  case k0 => exact hx
  case k1 => exact hy
  case k2 => exact (by omega)
  case k3 => exact fun z hz => h z ((a - b) / 4) (by omega) (by unfold IsI; rw [show 4 * ((a - b) / 4) = a - b by omega]; exact hz)
end
theorem i_4 : IsI 4616189618054758400 4 := c_4
theorem i_365 : IsI 4645128764097822720 365 := c_365
theorem i_1461 : IsI 4654140361399074816 1461 := c_1461
theorem i_100 : IsI 4636737291354636288 100 := c_100
theorem i_400 : IsI 4645744490609377280 400 := c_400
theorem i_4000 : IsI 4661014508095930368 4000 := c_4000
theorem i_30 : IsI 4629137466983448576 30 := c_30
/-- a number that a whole difference may be -/
def Hint (_ : Int) : Prop := True
section
variable {prog : Program} {w : World} {A : Around} {E : Value → Shared → Prop} {s : Shared} {Q : Value → Shared → Prop} {x y : UInt64} {a b k : Int} {t u : Tok}
theorem w_sub_ffK (hk : Hint k) (hx : IsF x a) (hy : IsF y b) (hs : (a - b).natAbs < 2 ^ 53 ∧ 0 ≤ a ∧ 4 * k = a - b) (h : ∀ z, IsI z k → Q (.float z s.toks) { s with toks := s.toks + 1 }) :
    wpAny (model prog w) A (binaryOp .Sub (.float x t) (.float y u)) Q E s := by
  with_reducible refine' w_sub_ff ?k0 ?k1 ?k2 ?k3
  case k0 => exact hx
  case k1 => exact hy
  case k2 => exact (by omega)
  case k3 => exact fun z hz => h z (by unfold IsI; rw [hs.2.2]; exact hz)
end
theorem isF_of_I {x : UInt64} {n : Int} (h : IsI x n) : IsF x (4 * n) := h
section
variable {prog : Program} {w : World} {A : Around} {E : Value → Shared → Prop} {s : Shared} {Q : Value → Shared → Prop} {a b : Int} {t u : Tok}
theorem w_fdiv_ii (hb : 0 < b ∧ b < 2 ^ 20) (h : Q (.int (a / b) s.toks) { s with toks := s.toks + 1 }) : wpAny (model prog w) A (binaryOp .FloorDiv (.int a t) (.int b u)) Q E s := by
  refine floordiv_int (by omega) (by rw [Int.fdiv_eq_ediv_of_nonneg _ (by omega)]; exact h) (Or.inl ?_)
  exact PyProof.noPylong_small (by omega)
end
section
variable {prog : Program} {w : World} {A : Around} {E : Value → Shared → Prop} {s : Shared} {Q : Value → Shared → Prop} {h₀ : Heap} {L : Addr} {m : Str → Option Value} {K : Frag}
theorem w_in_4K {l : Addr} {i a b c d : Int} {t u v x y : Tok} {n : Nat} {dd : Option Addr} {sl : Array (Option Value)} (F : Fr h₀ L s.heap m) (X : K.In h₀)
    (hl : K.lookup l = some ⟨.type "tuple", dd, .seq #[.int a u, .int b v, .int c x, .int d y] n, sl⟩)
    (h : Q (.bool (decide (i = a ∨ i = b ∨ i = c ∨ i = d))) s) : wpAny (model prog w) A (compareOp .In (.int i t) (.ref l)) Q E s := by
  refine in_tuple_ints (ns := [a, b, c, d]) (tupK (l := [.int a u, .int b v, .int c x, .int d y]) (X.keeps F.keep) hl) (.cons _ _ (.cons _ _ (.cons _ _ (.cons _ _ .nil)))) ?_
  have e : ([a, b, c, d].any fun y => y == i) = decide (i = a ∨ i = b ∨ i = c ∨ i = d) := by
    rw [Bool.eq_iff_iff]
    simp only [List.any_cons, List.any_nil, Bool.or_false, Bool.or_eq_true, beq_iff_eq, decide_eq_true_eq]
    exact ⟨fun q => q.imp Eq.symm (fun q => q.imp Eq.symm (fun q => q.imp Eq.symm Eq.symm)), fun q => q.imp Eq.symm (fun q => q.imp Eq.symm (fun q => q.imp Eq.symm Eq.symm))⟩
  rw [e]; exact h
end
def IsD1 (x : UInt64) (a b l : Int) : Prop := ∃ y, IsD y a b ∧ x = add y (ofInt l)
def IsD2 (x : UInt64) (a b l d : Int) : Prop := ∃ y, IsD1 y a b l ∧ x = add y (ofInt d)
section
variable {prog : Program} {w : World} {A : Around} {E : Value → Shared → Prop} {s : Shared} {Q : Value → Shared → Prop} {x : UInt64} {a b l n : Int} {t u : Tok}
theorem w_addD1 (hx : IsD x a b) (hs : n.natAbs < 2 ^ 51) (h : ∀ z, IsD1 z a b n → Q (.float z s.toks) { s with toks := s.toks + 1 }) :
    wpAny (model prog w) A (binaryOp .Add (.float x t) (.int n u)) Q E s := by
  with_reducible refine' add_fi_fits ?k0 ?k1
  case k0 => exact (lt1023 hs)
  case k1 => exact (h _ ⟨x, hx, rfl⟩)
theorem w_addD2 (hx : IsD1 x a b l) (hs : n.natAbs < 2 ^ 51) (h : ∀ z, IsD2 z a b l n → Q (.float z s.toks) { s with toks := s.toks + 1 }) :
    wpAny (model prog w) A (binaryOp .Add (.float x t) (.int n u)) Q E s := by
  with_reducible refine' add_fi_fits ?k0 ?k1
  case k0 => exact (lt1023 hs)
  case k1 => exact (h _ ⟨x, hx, rfl⟩)
end
def isQb (x : UInt64) (q : Int) : Bool := match decode x with
  | .fin false m e => floorOf false m e == q
  | _ => false
theorem isQ_of_b {x : UInt64} {q : Int} (h : isQb x q = true) : IsQ x q := by
  unfold isQb at h
  split at h
  · rename_i m e hd; exact ⟨m, e, hd, by simpa using h⟩
  · cases h
/-- the code's quotient for a month's days: a check of 1,116 floats -/
def chkM (m l d : Nat) : Bool :=
  isQb (add (add (ofFrac false (367 * (m + 1) - 362) 12) (ofInt (-(l : Int)))) (ofInt ((d : Int) + 1))) ((((367 * (m + 1) - 362) / 12 : Nat) : Int) + -(l : Int) + ((d : Int) + 1))
theorem chk_1 : (List.range 2).all (fun m => (List.range 31).all fun d => chkM m 0 d) = true := by decide +kernel
theorem chk_2 : (List.range 10).all (fun m => (List.range 31).all fun d => chkM (m + 2) 1 d) = true := by decide +kernel
theorem chk_3 : (List.range 10).all (fun m => (List.range 31).all fun d => chkM (m + 2) 2 d) = true := by decide +kernel
theorem all2 {p : Nat → Nat → Bool} {a b : Nat} (h : ((List.range a).all fun m => (List.range b).all fun d => p m d) = true) {m d : Nat} (hm : m < a) (hd : d < b) : p m d = true := by
  have h1 := List.all_eq_true.mp h m (List.mem_range.mpr hm)
  exact List.all_eq_true.mp h1 d (List.mem_range.mpr hd)
theorem isQ_month {x : UInt64} {m l d : Int} (hx : IsD2 x (367 * m - 362) 12 l d) (hm : 1 ≤ m ∧ m ≤ 12) (hl : (m ≤ 2 ∧ l = 0) ∨ (3 ≤ m ∧ (l = -1 ∨ l = -2))) (hd : 1 ≤ d ∧ d ≤ 31) : IsQ x ((367 * m - 362) / 12 + l + d) := by
  obtain ⟨y, ⟨z, hz, rfl⟩, rfl⟩ := hx
  unfold IsD at hz
  subst hz
  obtain ⟨mn, rfl⟩ : ∃ k : Nat, m = (k : Int) + 1 := ⟨(m - 1).toNat, by omega⟩
  obtain ⟨dn, rfl⟩ : ∃ k : Nat, d = (k : Int) + 1 := ⟨(d - 1).toNat, by omega⟩
  obtain ⟨ln, rfl⟩ : ∃ k : Nat, l = -(k : Int) := ⟨(-l).toNat, by omega⟩
  have e1 : (decide (367 * ((mn : Int) + 1) - 362 < 0) != decide ((12 : Int) < 0)) = false := by
    have : decide (367 * ((mn : Int) + 1) - 362 < 0) = false := by simp; omega
    rw [this]; rfl
  have e2 : (367 * ((mn : Int) + 1) - 362).natAbs = 367 * (mn + 1) - 362 := by omega
  have e3 : (12 : Int).natAbs = 12 := rfl
  have e4 : (367 * ((mn : Int) + 1) - 362) / 12 = (((367 * (mn + 1) - 362) / 12 : Nat) : Int) := by omega
  rw [e1, e2, e3, e4]
  apply isQ_of_b
  show chkM mn ln dn = true
  have hdn : dn < 31 := by omega
  rcases hl with ⟨h1, h2⟩ | ⟨h1, h2 | h2⟩
  · obtain rfl : ln = 0 := by omega
    exact all2 (p := fun m d => chkM m 0 d) chk_1 (show mn < 2 by omega) hdn
  · obtain rfl : ln = 1 := by omega
    have := all2 (p := fun m d => chkM (m + 2) 1 d) chk_2 (show mn - 2 < 10 by omega) hdn
    rwa [show mn - 2 + 2 = mn by omega] at this
  · obtain rfl : ln = 2 := by omega
    have := all2 (p := fun m d => chkM (m + 2) 2 d) chk_3 (show mn - 2 < 10 by omega) hdn
    rwa [show mn - 2 + 2 = mn by omega] at this
/-- a quotient and a rest, named -/
def Dv (n b q r : Int) : Prop := n / b = q ∧ n % b = r
theorem dv_ex (n b : Int) (hb : 0 < b) : ∃ q r, Dv n b q r ∧ n = b * q + r ∧ 0 ≤ r ∧ r < b :=
  ⟨n / b, n % b, ⟨rfl, rfl⟩, (Int.mul_ediv_add_emod n b).symm, Int.emod_nonneg _ (by omega), Int.emod_lt_of_pos _ hb⟩
section
variable {prog : Program} {w : World} {A : Around} {E : Value → Shared → Prop} {s : Shared} {Q : Value → Shared → Prop} {x : UInt64} {a n q r : Int} {t u : Tok}
theorem i_div_fiD (hA : A.handled = none) (hx : IsI x a) (hd : Dv a n q r) (hs : 0 ≤ a ∧ 0 < n ∧ a < 2 ^ 48 ∧ n < 2 ^ 48) (h : ∀ z, IsQ z q → Q (.float z s.toks) { s with toks := s.toks + 1 }) :
    wpAny (model prog w) A (binaryOp .Div (.float x t) (.int n u)) Q E s := by
  with_reducible refine' i_div_fi ?k0 ?k1 ?k2 ?k3
  case k0 => exact hA
  case k1 => exact hx
  case k2 => exact hs
  case k3 => exact fun z hz => h z (by rw [hd.1] at hz; exact hz)
theorem i_mod_fiD (hA : A.handled = none) (hx : IsI x a) (hd : Dv a n q r) (hs : 0 ≤ a ∧ 0 < n ∧ n < 2 ^ 48) (h : ∀ z, IsI z r → Q (.float z s.toks) { s with toks := s.toks + 1 }) :
    wpAny (model prog w) A (binaryOp .Mod (.float x t) (.int n u)) Q E s := by
  with_reducible refine' i_mod_fi ?k0 ?k1 ?k2 ?k3
  case k0 => exact hA
  case k1 => exact hx
  case k2 => exact hs
  case k3 => exact fun z hz => h z (by rw [hd.2] at hz; exact hz)
end
def szAt (k : Int) : Int := if k = 1 then 28 else if k = 3 ∨ k = 5 ∨ k = 8 ∨ k = 10 then 30 else 31
section
variable {prog : Program} {w : World} {A : Around} {E : Value → Shared → Prop} {s : Shared} {Q : Value → Shared → Prop} {h₀ : Heap} {L : Addr} {m : Str → Option Value} {K : Frag}
theorem w_sizes {value slice : PySem.Expr} {l : Addr} {k : Int} {u t0 t1 t2 t3 t4 t5 t6 t7 t8 t9 t10 t11 : Tok} {n : Nat} {dd : Option Addr} {sl : Array (Option Value)} (F : Fr h₀ L s.heap m) (X : K.In h₀)
    (hl : K.lookup l = some ⟨.type "tuple", dd, .seq #[.int 31 t0, .int 28 t1, .int 31 t2, .int 30 t3, .int 31 t4, .int 30 t5, .int 31 t6, .int 31 t7, .int 30 t8, .int 31 t9, .int 30 t10, .int 31 t11] n, sl⟩)
    (hk : 0 ≤ k ∧ k ≤ 11) (h : ∀ t, Q (.int (szAt k) t) s)
    (hs : subscripted slice false (.ref l) (.int k u) = operate [.ref l, .int k u] (getItem (.ref l) (.int k u)) := by with_unfolding_all rfl) :
    wpAny (model prog w) A (subscriptTail value slice (.ref l) (.int k u)) Q E s := by
  have hc : k = 0 ∨ k = 1 ∨ k = 2 ∨ k = 3 ∨ k = 4 ∨ k = 5 ∨ k = 6 ∨ k = 7 ∨ k = 8 ∨ k = 9 ∨ k = 10 ∨ k = 11 := by omega
  have hl' : K.lookup l = some ⟨.type "tuple", dd, .seq [.int 31 t0, .int 28 t1, .int 31 t2, .int 30 t3, .int 31 t4, .int 30 t5, .int 31 t6, .int 31 t7, .int 30 t8, .int 31 t9, .int 30 t10, .int 31 t11].toArray n, sl⟩ := hl
  rcases hc with rfl | rfl | rfl | rfl | rfl | rfl | rfl | rfl | rfl | rfl | rfl | rfl
  · exact topTup_K (j := 0) F X hl' (by decide) (by decide) rfl rfl (h _) hs
  · exact topTup_K (j := 1) F X hl' (by decide) (by decide) rfl rfl (h _) hs
  · exact topTup_K (j := 2) F X hl' (by decide) (by decide) rfl rfl (h _) hs
  · exact topTup_K (j := 3) F X hl' (by decide) (by decide) rfl rfl (h _) hs
  · exact topTup_K (j := 4) F X hl' (by decide) (by decide) rfl rfl (h _) hs
  · exact topTup_K (j := 5) F X hl' (by decide) (by decide) rfl rfl (h _) hs
  · exact topTup_K (j := 6) F X hl' (by decide) (by decide) rfl rfl (h _) hs
  · exact topTup_K (j := 7) F X hl' (by decide) (by decide) rfl rfl (h _) hs
  · exact topTup_K (j := 8) F X hl' (by decide) (by decide) rfl rfl (h _) hs
  · exact topTup_K (j := 9) F X hl' (by decide) (by decide) rfl rfl (h _) hs
  · exact topTup_K (j := 10) F X hl' (by decide) (by decide) rfl rfl (h _) hs
  · exact topTup_K (j := 11) F X hl' (by decide) (by decide) rfl rfl (h _) hs
end
section
open PyProof.Rows.LCt PyProof.Rows.LCg
variable {prog : Program} {w : World} {A : Around} {E : Value → Shared → Prop} {s : Shared} {h₀ : Heap} {L : Addr} {m : Str → Option Value} {env : Env}
/-- a list made of a tuple's items that pass a test -/
theorem comp_tup {ct elt : PySem.Expr} {y x : Str} {px py : Pos} {scope : Scope} {cl : List (Str × Addr)} {pos : Pos} {Q : Value → Shared → Prop} {ax : Addr} {its : Array Value} {k : Nat} {news : List (Addr × Obj)}
    (hclos : closureFor scope env = pure cl) (hcell : ∀ z ∈ scope.names, z.2 ≠ .cell) (hkind : scope.kind = .function)
    (hnames : ∀ z ∈ scope.names, z.2 = .local → scope.names.lookup z.1 = some .local) (hx : scope.names.lookup x = some .local)
    (hh : A.handled = none) (F : Fr h₀ L s.heap m) (N : News h₀ L s.heap news) (hm : (ax, ({ cls := .type "tuple", data := .seq its k } : Obj)) ∈ news) (hsz : its.size ≤ sizeLine)
    (hy : ∀ Q' : Value → Shared → Prop, Q' (.ref ax) s → wpAny (model prog w) A (eval (.Name y py) env) Q' E s)
    (h : ∀ g, CompRestT prog w A h₀ L m env ct elt x scope cl { s with heap := g } (fun nw => (ax, ({ cls := .type "tuple", data := .seq its k } : Obj)) ∈ nw) (fun i v => its[i]? = some v) (FinE h₀ L m { s with heap := g } Q) its.size 0 [] news)
    (hs : ∀ v, foldedSetIterable (.Name y py) env v = pure v := by intro _; rfl) :
    wpAny (model prog w) A (eval (.ListComp elt [⟨.Name x px, .Name y py, [ct], 0⟩] scope pos) env) Q E s := by
  rw [eval_ListComp]
  refine wpAny_comprehension_free (use := none) rfl hs hclos hkind hnames (hy _ ?_)
  have hl : s.heap.IsTuple ax its := ⟨_, (N _ hm).1, rfl, k, rfl⟩
  have hlt : ax < s.heap.objs.size := Heap.lt_size (N _ hm).1
  have up : ∀ b o, s.heap.get? b = some o → (s.heap.push { cls := .type "tuple_iterator", data := .fields #[.ref ax, .int 0 0] }).get? b = some o := fun b o e => Heap.get?_push_of_some _ e
  refine wpAny_pyIter_tuple hl ?_
  refine block_T (W := Walks.tuple hh s.heap.objs.size ax (Nat.ne_of_lt hlt) its) (S := fun nw => (ax, ({ cls := .type "tuple", data := .seq its k } : Obj)) ∈ nw) hsz
    (fun i h st => by obtain ⟨o, e, _⟩ := st.1; exact ⟨o, e⟩)
    (fun i h h' o nw st e e' _ N' S' => ⟨by obtain ⟨o', q, r⟩ := st.1; rw [e] at q; cases q; exact ⟨o, e', r⟩, ⟨_, (N' _ S').1, rfl, k, rfl⟩⟩)
    hcell hkind hx ⟨⟨_, Heap.get?_push_size _ rfl, rfl, rfl⟩, ⟨_, up _ _ (N _ hm).1, rfl, k, rfl⟩⟩ (fun b hb => ?_)
    (F.keeps up) (N.grown up) (Nat.ne_of_lt F.ns.lt) (next_is_new F) (fun p hp => Nat.ne_of_lt (Heap.lt_size (N p hp).1)) hm (h _) ?_
  · show b < (s.heap.push _).objs.size
    rw [Heap.size_push]
    rcases List.mem_cons.mp hb with rfl | hb
    · exact Nat.lt_succ_self _
    · rw [List.mem_singleton.mp hb]; exact Nat.lt_succ_of_lt hlt
  · intro D C h tk m' ys news' F' N' o1 hn hC₀ hD₀ hCL hDL hCD offC fin
    refine ⟨m', hn, fun h'' hs'' => fin D h'' tk (F'.change hs'' hCL hC₀) (fun p hp => ?_) o1⟩
    refine ⟨hs''.extBut _ _ ?_ (N' p hp).1, (N' p hp).2⟩
    rcases List.mem_cons.mp hp with rfl | hp
    · exact Ne.symm hCD
    · exact offC p hp
end
section
variable {prog : Program} {w : World} {A : Around} {E : Value → Shared → Prop} {Q : Flow → Shared → Prop} {s : Shared} {env : Env} {h₀ : Heap} {L : Addr}
/-- a turn of a while that moves three ints alone -/
def W3End (h₀ : Heap) (L : Addr) (s : Shared) (news : List (Addr × Obj)) (m : Str → Option Value) (x1 x2 x3 : Str) (I : Int → Int → Int → Prop) (μ : Int → Int → Int → Nat) (n : Nat) (f : Flow) (s₃ : Shared) : Prop :=
  f = .next ∧ ∃ h' tk m₂ a b c t u v, s₃ = { s with heap := h', toks := tk } ∧ Fr h₀ L h' m₂ ∧ News h₀ L h' news ∧ m₂ x1 = some (.int a t) ∧ m₂ x2 = some (.int b u) ∧ m₂ x3 = some (.int c v) ∧ (∀ z, z ≠ x1 → z ≠ x2 → z ≠ x3 → m₂ z = m z) ∧ I a b c ∧ μ a b c < n
theorem w3_end {s : Shared} {news : List (Addr × Obj)} {m m₂ : Str → Option Value} {x1 x2 x3 : Str} {I : Int → Int → Int → Prop} {μ : Int → Int → Int → Nat} {n : Nat} {h' : Heap} {tk : Nat} {a b c : Int} {t u v : Tok}
    (F : Fr h₀ L h' m₂) (N : News h₀ L h' news) (h1 : m₂ x1 = some (.int a t)) (h2 : m₂ x2 = some (.int b u)) (h3 : m₂ x3 = some (.int c v)) (h4 : ∀ z, z ≠ x1 → z ≠ x2 → z ≠ x3 → m₂ z = m z) (hI : I a b c) (hμ : μ a b c < n) :
    W3End h₀ L s news m x1 x2 x3 I μ n .next { s with heap := h', toks := tk } := ⟨rfl, h', tk, m₂, a, b, c, t, u, v, rfl, F, N, h1, h2, h3, h4, hI, hμ⟩
theorem while3 {test : PySem.Expr} {body : List Stmt} {pos : Pos} {m : Str → Option Value} {news : List (Addr × Obj)} (x1 x2 x3 : Str) (I : Int → Int → Int → Prop) (μ : Int → Int → Int → Nat) {a₀ b₀ c₀ : Int} {t₀ u₀ v₀ : Tok}
    (F : Fr h₀ L s.heap m) (N : News h₀ L s.heap news) (h1 : m x1 = some (.int a₀ t₀)) (h2 : m x2 = some (.int b₀ u₀)) (h3 : m x3 = some (.int c₀ v₀)) (hI : I a₀ b₀ c₀)
    (turn : ∀ (a b c : Int) (t u v : Tok) (h : Heap) (tk : Nat), I a b c → Fr h₀ L h (fun z => if z = x1 then some (.int a t) else if z = x2 then some (.int b u) else if z = x3 then some (.int c v) else m z) → News h₀ L h news →
      wpAny (model prog w) A (isTrue test env (eval test env)) (fun ok s₂ =>
        if ok = true then wpAny (model prog w) A (execs body env) (W3End h₀ L s news m x1 x2 x3 I μ (μ a b c)) E s₂ else Q .next s₂) E { s with heap := h, toks := tk })
    (hE : PassesOwn (model prog w) A env E := by passes_own) :
    wpAny (model prog w) A (exec (.While test body [] pos) env) Q E s := by
  refine While_inv (fun n m₁ nx => nx = news ∧ ∃ a b c t u v, m₁ x1 = some (.int a t) ∧ m₁ x2 = some (.int b u) ∧ m₁ x3 = some (.int c v) ∧ (∀ z, z ≠ x1 → z ≠ x2 → z ≠ x3 → m₁ z = m z) ∧ I a b c ∧ μ a b c = n) (n₀ := μ a₀ b₀ c₀) F N
    ⟨rfl, a₀, b₀, c₀, t₀, u₀, v₀, h1, h2, h3, fun _ _ _ _ => rfl, hI, rfl⟩ ?_ hE
  rintro n m₁ nx h tk F₁ N₁ ⟨rfl, a, b, c, t, u, v, e1, e2, e3, e4, hI', rfl⟩
  have em : m₁ = fun z => if z = x1 then some (.int a t) else if z = x2 then some (.int b u) else if z = x3 then some (.int c v) else m z := by
    funext z
    by_cases q1 : z = x1
    · rw [if_pos q1, q1, e1]
    · by_cases q2 : z = x2
      · rw [if_neg q1, if_pos q2, q2, e2]
      · by_cases q3 : z = x3
        · rw [if_neg q1, if_neg q2, if_pos q3, q3, e3]
        · rw [if_neg q1, if_neg q2, if_neg q3, e4 z q1 q2 q3]
  rw [em] at F₁
  refine wpAny_mono (turn a b c t u v h tk hI' F₁ N₁) (fun ok s₂ p => ?_) fun _ _ x => x
  cases ok with
  | false => simpa using p
  | true =>
    simp only [if_true] at p ⊢
    refine wpAny_mono p (fun f s₃ q => ?_) fun _ _ x => x
    obtain ⟨rfl, h', tk', m₂, a', b', c', t', u', v', rfl, F₂, N₂, k1, k2, k3, k4, hI₂, hlt⟩ := q
    exact ⟨rfl, h', tk', m₂, _, _, rfl, F₂, N₂, hlt, rfl, a', b', c', t', u', v', k1, k2, k3, k4, hI₂, rfl⟩
end
section
variable {M : Model} {A : Around} {E : Value → Shared → Prop} {s : Shared} {K : Frag} {h₀ : Heap} {L a : Addr} {m mg mb : Str → Option Value} {cn : Str} {cs : Scope} {ccd : Value} {p : Program} {loose : List Str} {x x' : Str} {pos : Pos} {v u : Value} {news : List (Addr × Obj)}
theorem q_name {Q : Value → Shared → Prop} (F : Fr h₀ L s.heap m) (hl : cs.names.lookup x = some .local) (hk : cs.kind = .function) (hd : (x == ("__debug__" : Str)) = false) (hv : m x = some v) (h : Q v s) :
    wpAny M A (eval (.Name x pos) (envOf cn cs L a ccd)) Q E s := ld F hv h hk hl hd
theorem q_nameG {Q : Value → Shared → Prop} (F : Fr h₀ L s.heap m) (hl : cs.names.lookup x = some .globalImplicit) (hk : cs.kind = .function) (hd : (x == ("__debug__" : Str)) = false) (X : K.In h₀) (T : TopRead p loose mg mb h₀) (e : nsIn K mainGlobals x = some (some v)) (h : Q v s) :
    wpAny M A (eval (.Name x pos) (envOf cn cs L a ccd)) Q E s := name_K F X T e h hk hl hd
theorem q_nameB {Q : Value → Shared → Prop} (F : Fr h₀ L s.heap m) (hl : cs.names.lookup x = some .globalImplicit) (hk : cs.kind = .function) (hd : (x == ("__debug__" : Str)) = false) (X : K.In h₀) (T : TopRead p loose mg mb h₀) (e : nsIn K mainGlobals x = some none) (hv : bootBuiltins x = some v) (hn : (x == ("__name__" : Str)) = false) (h : Q v s) :
    wpAny M A (eval (.Name x pos) (envOf cn cs L a ccd)) Q E s := name_B F X T e hv (by intro e; rw [e] at hn; simp at hn) h hk hl hd
theorem q_store {Q : Unit → Shared → Prop} (F : Fr h₀ L s.heap m) (N : News h₀ L s.heap news) (hl : cs.names.lookup x = some .local) (hk : cs.kind = .function)
    (h : ∀ h', Fr h₀ L h' (fun y => if y = x then some v else m y) → News h₀ L h' news → Q () { s with heap := h', toks := s.toks + 1 }) : wpAny M A (storeName (envOf cn cs L a ccd) x v) Q E s :=
  storeX_L (cl := []) F N h hk hl
theorem look_hit {r : Option Value} : (if x = x then some u else r) = some u := if_pos rfl
theorem look_miss {r r' : Option Value} (h : (x' == x) = false) (hm : r = r') : (if x' = x then some u else r) = r' := by
  have : ¬ x' = x := by intro e; rw [e] at h; simp at h
  rw [if_neg this]; exact hm
theorem lookl_hit {l : List (Str × Value)} : List.lookup x ((x, u) :: l) = some u := by simp [List.lookup]
theorem lookl_miss {l : List (Str × Value)} {r' : Option Value} (h : (x' == x) = false) (hm : List.lookup x' l = r') : List.lookup x' ((x, u) :: l) = r' := by
  simp only [List.lookup, h]; exact hm
end

end
section
open PySem PySem.W PyProof.Rows
open_top hd for PySem.Challenge.rw_ad5032_01
end
section
open PySem PySem.W PySem.Spec PySem.Calls PyProof.Rows PySem.Float64
open scoped Classical
abbrev Pg : Program := PySem.Challenge.rw_ad5032_01.row.prog
/-- how a call of the def at f is met, its answer handed to G -/
abbrev CB (w : World) (loose : List Str) (mean : ExcName → Option Value) (mg mb : Str → Option Value) (f : Addr) (n : Nat) (vs : List Value) (kw : List (Str × Value))
    (G : (h₀ : Heap) → (L : Addr) → (m : Str → Option Value) → (news : List (Addr × Obj)) → (s : Shared) → (Value → Shared → Prop) → Prop) : Prop :=
  ∀ (dp un : Nat) (gd : Option (List Code)) (cn : Str) (cs : Scope) (a : Addr) (ccd : Value) (cl : List (Str × Addr)) (outer : List Env) (A₀ : Around) (base h₀ : Heap) (L : Addr) (m : Str → Option Value) (news : List (Addr × Obj)) (s : Shared) (Q E : Value → Shared → Prop),
    Below A₀ base outer h₀ → Fr h₀ L s.heap m → (hd.heap_39 w.params).In h₀ → News h₀ L s.heap news → Top hd.view_39 loose mean mg mb h₀ → cs.kind = .function →
    dp + n < recursionLimit → un + 8 * n < cLine → G h₀ L m news s Q →
      wpAny (model Pg w) (ktrTop dp un gd cn cs L a ccd cl outer) (call (.ref f) vs kw) Q E s
abbrev GV (R : Tok → Value) (h₀ : Heap) (L : Addr) (m : Str → Option Value) (news : List (Addr × Obj)) (s : Shared) (Q : Value → Shared → Prop) : Prop :=
  ∀ (t : Tok) (h' : Heap) (tk' : Nat), Fr h₀ L h' m → News h₀ L h' news → Q (R t) { s with heap := h', toks := tk' }
abbrev GF (k : Int) (h₀ : Heap) (L : Addr) (m : Str → Option Value) (news : List (Addr × Obj)) (s : Shared) (Q : Value → Shared → Prop) : Prop :=
  ∀ (z : UInt64) (t : Tok) (h' : Heap) (tk' : Nat), IsF z k → Fr h₀ L h' m → News h₀ L h' news → Q (.float z t) { s with heap := h', toks := tk' }
/-- a new tuple of three ints -/
abbrev tup3 (x y z : Int) (t u v : Tok) (n : Nat) : Obj := { cls := .type "tuple", data := .seq #[.int x t, .int y u, .int z v] n }
abbrev GT (x y z : Int) (h₀ : Heap) (L : Addr) (m : Str → Option Value) (news : List (Addr × Obj)) (s : Shared) (Q : Value → Shared → Prop) : Prop :=
  ∀ (b : Addr) (t u v : Tok) (n : Nat) (h' : Heap) (tk' : Nat), Fr h₀ L h' m → News h₀ L h' ((b, tup3 x y z t u v n) :: news) → Q (.ref b) { s with heap := h', toks := tk' }
theorem cb_use {w : World} {loose : List Str} {mean : ExcName → Option Value} {mg mb : Str → Option Value} {f : Addr} {n : Nat} {vs : List Value} {kw : List (Str × Value)}
    {G : (h₀ : Heap) → (L : Addr) → (m : Str → Option Value) → (news : List (Addr × Obj)) → (s : Shared) → (Value → Shared → Prop) → Prop}
    (C : CB w loose mean mg mb f n vs kw G) {dp un : Nat} {gd : Option (List Code)} {cn : Str} {cs : Scope} {a : Addr} {ccd : Value} {cl : List (Str × Addr)} {outer : List Env} {A₀ : Around} {base h₀ : Heap} {L : Addr} {m : Str → Option Value} {news : List (Addr × Obj)} {s : Shared} {Q E : Value → Shared → Prop}
    (B : Below A₀ base outer h₀) (F : Fr h₀ L s.heap m) (X : (hd.heap_39 w.params).In h₀) (N : News h₀ L s.heap news) (T : Top hd.view_39 loose mean mg mb h₀) (hk : cs.kind = .function)
    (h1 : dp + n < recursionLimit) (h2 : un + 8 * n < cLine) (g : G h₀ L m news s Q) : wpAny (model Pg w) (ktrTop dp un gd cn cs L a ccd cl outer) (call (.ref f) vs kw) Q E s :=
  C dp un gd cn cs a ccd cl outer A₀ base h₀ L m news s Q E B F X N T hk h1 h2 g
theorem gv_end {R : Tok → Value} {h₀ : Heap} {L : Addr} {m : Str → Option Value} {news : List (Addr × Obj)} {s : Shared} {Q : Value → Shared → Prop} (g : GV R h₀ L m news s Q) {v : Value} {h' : Heap} {tk' : Nat} {t : Tok}
    (F : Fr h₀ L h' m) (N : News h₀ L h' news) (e : R t = v) : Q v { s with heap := h', toks := tk' } := e ▸ g t h' tk' F N
theorem bool_end {b c : Bool} (h : b = true ↔ c = true) : Value.bool b = Value.bool c := congrArg Value.bool (Bool.eq_iff_iff.mpr h)
theorem int_end {b c : Int} {t : Tok} (h : b = c) : Value.int b t = Value.int c t := by rw [h]
theorem gf_end {k : Int} {h₀ : Heap} {L : Addr} {m : Str → Option Value} {news : List (Addr × Obj)} {s : Shared} {Q : Value → Shared → Prop} (g : GF k h₀ L m news s Q) {z : UInt64} {k' : Int} {h' : Heap} {tk' : Nat} {t : Tok}
    (F : Fr h₀ L h' m) (N : News h₀ L h' news) (hz : IsF z k') (e : k' = k) : Q (.float z t) { s with heap := h', toks := tk' } := g z t h' tk' (e ▸ hz) F N
theorem gt_end {x y z : Int} {h₀ : Heap} {L : Addr} {m : Str → Option Value} {news news' : List (Addr × Obj)} {s : Shared} {Q : Value → Shared → Prop} (g : GT x y z h₀ L m news s Q) {b : Addr} {x' y' z' : Int} {t u v : Tok} {n : Nat} {h' : Heap} {tk' : Nat}
    (F : Fr h₀ L h' m) (N : News h₀ L h' news') (hm : (b, tup3 x' y' z' t u v n) ∈ news') (hs : ∀ p ∈ news, p ∈ news') (e : x' = x ∧ y' = y ∧ z' = z) : Q (.ref b) { s with heap := h', toks := tk' } := by
  obtain ⟨rfl, rfl, rfl⟩ := e
  exact g b t u v n h' tk' F fun p hp => N p (by rcases List.mem_cons.mp hp with rfl | hp; exact hm; exact hs p hp)
/-- as GT, of a tuple that is at hand -/
abbrev GTm (b : Addr) (o : Obj) (x y z : Int) (h₀ : Heap) (L : Addr) (m : Str → Option Value) (news : List (Addr × Obj)) (s : Shared) (Q : Value → Shared → Prop) : Prop :=
  (b, o) ∈ news ∧ GT x y z h₀ L m news s Q
abbrev GVm (b : Addr) (o : Obj) (R : Tok → Value) (h₀ : Heap) (L : Addr) (m : Str → Option Value) (news : List (Addr × Obj)) (s : Shared) (Q : Value → Shared → Prop) : Prop :=
  (b, o) ∈ news ∧ GV R h₀ L m news s Q
local macro_rules | `(tactic| walk_at "om") => `(tactic| first | omega | (simp only [decide_eq_true_eq, decide_eq_false_iff_not, Bool.and_eq_true, Bool.or_eq_true, Bool.not_eq_true', Bool.not_eq_false'] at *; omega))
local macro_rules | `(tactic| walk_at "binaryOp Add float float") => `(tactic| ((with_reducible refine' w_add_ff ?k1 ?k2 ?k3 ?_); (case k1 => walk_at "isf"); (case k2 => walk_at "isf"); (case k3 => walk_at "om"); intro _ _; try dsimp only))
local macro_rules | `(tactic| walk_at "binaryOp Sub float float") => `(tactic| ((with_reducible refine' w_sub_ff ?k1 ?k2 ?k3 ?_); (case k1 => walk_at "isf"); (case k2 => walk_at "isf"); (case k3 => walk_at "om"); intro _ _; try dsimp only))
local macro_rules | `(tactic| walk_at "binaryOp Mult float float") => `(tactic| ((with_reducible refine' w_mul_ff ?k1 ?k2 ?k3 ?_); (case k1 => walk_at "isf"); (case k2 => walk_at "isf"); (case k3 => walk_at "om"); intro _ _; try dsimp only))
local macro_rules | `(tactic| walk_at "binaryOp Add float int") => `(tactic| ((with_reducible refine' w_add_fi ?k1 ?k3 ?_); (case k1 => walk_at "isf"); (case k3 => walk_at "om"); intro _ _; try dsimp only))
local macro_rules | `(tactic| walk_at "binaryOp Add int float") => `(tactic| ((with_reducible refine' w_add_if ?k1 ?k3 ?_); (case k1 => walk_at "isf"); (case k3 => walk_at "om"); intro _ _; try dsimp only))
local macro_rules | `(tactic| walk_at "binaryOp Sub float int") => `(tactic| ((with_reducible refine' w_sub_fi ?k1 ?k3 ?_); (case k1 => walk_at "isf"); (case k3 => walk_at "om"); intro _ _; try dsimp only))
local macro_rules | `(tactic| walk_at "binaryOp Mult float int") => `(tactic| ((with_reducible refine' w_mul_fi ?k1 ?k3 ?_); (case k1 => walk_at "isf"); (case k3 => walk_at "om"); intro _ _; try dsimp only))
local macro_rules | `(tactic| walk_at "binaryOp Mult int float") => `(tactic| ((with_reducible refine' w_mul_if ?k1 ?k3 ?_); (case k1 => walk_at "isf"); (case k3 => walk_at "om"); intro _ _; try dsimp only))
local macro_rules | `(tactic| walk_at "binaryOp Div float float") => `(tactic| ((with_reducible refine' w_div_ff ?k0 ?k1 ?k2 ?k3 ?_); (case k0 => k_dflt (exact rfl)); (case k1 => walk_at "isf"); (case k2 => walk_at "isf"); (case k3 => walk_at "om"); intro _ _; try dsimp only))
local macro_rules | `(tactic| walk_at "binaryOp Div float int") => `(tactic| ((with_reducible refine' w_div_fi ?k0 ?k1 ?k3 ?_); (case k0 => k_dflt (exact rfl)); (case k1 => walk_at "isf"); (case k3 => walk_at "om"); intro _ _; try dsimp only))
local macro_rules | `(tactic| walk_at "binaryOp Div int float") => `(tactic| ((with_reducible refine' w_div_if ?k0 ?k1 ?k3 ?_); (case k0 => k_dflt (exact rfl)); (case k1 => walk_at "isf"); (case k3 => walk_at "om"); intro _ _; try dsimp only))
local macro_rules | `(tactic| walk_at "binaryOp Div int int") => `(tactic| first
  | ((with_reducible show wpAny _ _ (binaryOp _ (Value.int _ _) (Value.int 12 _)) _ _ _); (with_reducible refine' w_div_iiD ?k0 ?k3 ?_); (case k0 => k_dflt (exact rfl)); (case k3 => walk_at "om"); intro _ _; try dsimp only)
  | ((with_reducible show wpAny _ _ (binaryOp _ (Value.int _ _) (Value.int 2 _)) _ _ _); (with_reducible refine' w_div_iiF ?k0 ?k3 ?_); (case k0 => k_dflt (exact rfl)); (case k3 => walk_at "om"); intro _ _; try dsimp only)
  | ((with_reducible show wpAny _ _ (binaryOp _ (Value.int _ _) (Value.int 4 _)) _ _ _); (with_reducible refine' w_div_iiF ?k0 ?k3 ?_); (case k0 => k_dflt (exact rfl)); (case k3 => walk_at "om"); intro _ _; try dsimp only)
  | ((with_reducible refine' w_div_ii ?k0 ?k3 ?_); (case k0 => k_dflt (exact rfl)); (case k3 => walk_at "om"); intro _ _; try dsimp only))
local macro_rules | `(tactic| walk_at "binaryOp Mod float float") => `(tactic| ((with_reducible refine' w_mod_ff ?k0 ?k1 ?k2 ?k3 ?_); (case k0 => k_dflt (exact rfl)); (case k1 => walk_at "isf"); (case k2 => walk_at "isf"); (case k3 => walk_at "om"); intro _ _; try dsimp only))
local macro_rules | `(tactic| walk_at "binaryOp Mod float int") => `(tactic| ((with_reducible refine' w_mod_fi ?k0 ?k1 ?k3 ?_); (case k0 => k_dflt (exact rfl)); (case k1 => walk_at "isf"); (case k3 => walk_at "om"); intro _ _; try dsimp only))
local macro_rules | `(tactic| walk_at "binaryOp Mod int float") => `(tactic| ((with_reducible refine' w_mod_if ?k0 ?k1 ?k3 ?_); (case k0 => k_dflt (exact rfl)); (case k1 => walk_at "isf"); (case k3 => walk_at "om"); intro _ _; try dsimp only))
local macro_rules | `(tactic| walk_at "binaryOp Mod int int") => `(tactic| ((with_reducible refine' w_mod_ii ?k3 ?_); (case k3 => walk_at "om"); try dsimp only))
local macro_rules | `(tactic| walk_at "compareOp Lt float float") => `(tactic| ((with_reducible refine' w_lt_ff ?k1 ?k2 ?_); (case k1 => walk_at "isf"); (case k2 => walk_at "isf"); try dsimp only))
local macro_rules | `(tactic| walk_at "compareOp LtE float float") => `(tactic| ((with_reducible refine' w_le_ff ?k1 ?k2 ?_); (case k1 => walk_at "isf"); (case k2 => walk_at "isf"); try dsimp only))
local macro_rules | `(tactic| walk_at "compareOp Eq float float") => `(tactic| ((with_reducible refine' w_eq_ff ?k1 ?k2 ?_); (case k1 => walk_at "isf"); (case k2 => walk_at "isf"); try dsimp only))
local macro_rules | `(tactic| walk_at "compareOp NotEq float float") => `(tactic| ((with_reducible refine' w_ne_ff ?k1 ?k2 ?_); (case k1 => walk_at "isf"); (case k2 => walk_at "isf"); try dsimp only))
local macro_rules | `(tactic| walk_at "compareOp Lt float int") => `(tactic| ((with_reducible refine' w_lt_fi ?k1 ?_); (case k1 => walk_at "isf"); try dsimp only))
local macro_rules | `(tactic| walk_at "compareOp NotEq float int") => `(tactic| ((with_reducible refine' w_ne_fi ?k1 ?_); (case k1 => walk_at "isf"); try dsimp only))
local macro_rules | `(tactic| walk_at "truthy float") => `(tactic| ((with_reducible refine' w_truthy _ ?k1 ?_); (case k1 => walk_at "isf"); try dsimp only))
local macro_rules | `(tactic| walk_at "call builtin:math.floor") => `(tactic| ((with_reducible refine' w_floor ?k0 ?k1 ?_); (case k0 => k_dflt (exact rfl)); (case k1 => walk_at "isq"); try dsimp only))
local macro_rules | `(tactic| walk_at "call builtin:math.trunc") => `(tactic| ((with_reducible refine' w_trunc ?k0 ?k1 ?_); (case k0 => k_dflt (exact rfl)); (case k1 => walk_at "isq"); try dsimp only))
local macro_rules | `(tactic| walk_at "call type:int") => `(tactic| ((with_reducible show wpAny _ _ (call _ [Value.float _ _]) _ _ _); (with_reducible refine' w_int ?k0 ?k1 ?_); (case k0 => k_dflt (exact rfl)); (case k1 => walk_at "isq"); try dsimp only))
local macro_rules | `(tactic| walk_at "compareOp In int ref") => `(tactic| (k_here; k_dflt (refine' w_in_mixI ?k1 ?k2 ?k3 ?k4 ?_; (case k1 => k_asm); (case k2 => k_mem); (case k3 => decide +kernel); (case k4 => first | exact uok (by omega) | ktr_units)); try dsimp only))
local macro_rules | `(tactic| walk_at "compareOp In str ref") => `(tactic| (k_here; k_dflt (refine' w_in_mixS ?k1 ?k2 ?k3 ?k4 ?k5 ?k6 ?_; (case k1 => k_asm); (case k2 => k_mem); (case k3 => decide +kernel); (case k4 => decide +kernel); (case k5 => first | exact uok (by omega) | ktr_units); (case k6 => first | exact rfl | decide +kernel)); try dsimp only))
local macro_rules | `(tactic| walk_at "compareOp In int ref") => `(tactic| (k_here; k_dflt (refine' w_in_mixI4 ?k1 ?k2 ?k3 ?k3b ?k4 ?_; (case k1 => k_asm); (case k2 => k_mem); (case k3 => decide +kernel); (case k3b => decide +kernel); (case k4 => first | exact uok (by omega) | ktr_units)); try dsimp only))
local macro_rules | `(tactic| walk_at "compareOp In str ref") => `(tactic| (k_here; k_dflt (refine' w_in_mixS4 ?k1 ?k2 ?k3 ?k3b ?k4 ?k5 ?k6 ?_; (case k1 => k_asm); (case k2 => k_mem); (case k3 => decide +kernel); (case k3b => decide +kernel); (case k4 => decide +kernel); (case k5 => first | exact uok (by omega) | ktr_units); (case k6 => first | exact rfl | decide +kernel)); try dsimp only))
local macro_rules | `(tactic| walk_at "compareOp In int ref") => `(tactic| (k_here; k_dflt (refine' w_in_3 ?k1 ?k2 ?_; (case k1 => k_asm); (case k2 => k_mem)); try dsimp only))
local macro_rules | `(tactic| walk_at "news") => `(tactic| first
  | (with_reducible assumption)
  | (refine' cb_drop ?cbN ?cbS; (case cbN => with_reducible assumption); (case cbS => (intro p9 hp9; first | exact .tail _ hp9 | exact .tail _ (.tail _ hp9) | exact .tail _ (.tail _ (.tail _ hp9)) | exact .tail _ (.tail _ (.tail _ (.tail _ hp9))) | exact .tail _ (.tail _ (.tail _ (.tail _ (.tail _ hp9)))) | exact .tail _ (.tail _ (.tail _ (.tail _ (.tail _ (.tail _ hp9))))) | exact .tail _ (.tail _ (.tail _ (.tail _ (.tail _ (.tail _ (.tail _ hp9)))))) | exact .tail _ (.tail _ (.tail _ (.tail _ (.tail _ (.tail _ (.tail _ (.tail _ hp9))))))) | exact .tail _ (.tail _ (.tail _ (.tail _ (.tail _ (.tail _ (.tail _ (.tail _ (.tail _ hp9))))))))))))
local macro_rules | `(tactic| walk_at "execs cons") => `(tactic| first | (k_here; (try dsimp only); k_gentoks) | ((with_reducible refine wpAny_execs_cons ?_); try dsimp only))
local macro_rules | `(tactic| walk_at "storeName") => `(tactic| (k_here; (try dsimp only); k_dflt (refine' q_store ?F ?N ?a ?b ?_; (case F => k_asm); (case N => k_asm); (case a => decide +kernel); (case b => exact rfl); k_whole; intro h' F' N'; (try k_sweep)); try dsimp only))
local macro_rules | `(tactic| walk_at "look") => `(tactic| first
  | (with_reducible exact look_hit)
  | (with_reducible exact lookl_hit)
  | ((with_reducible refine' look_miss ?la ?lb); (case la => decide +kernel); (case lb => walk_at "look"))
  | ((with_reducible refine' lookl_miss ?la ?lb); (case la => decide +kernel); (case lb => walk_at "look")))
local macro_rules | `(tactic| walk_at "eval Name") => `(tactic| (k_here; name_kind "globalImplicit"; k_dflt (refine' q_nameG ?F ?l ?k ?d ?X ?T ?e ?_; (case F => k_asm); (case l => decide +kernel); (case k => exact rfl); (case d => decide +kernel); (case X => k_asm); (case T => k_asm); (case e => k_is); k_whole)))
local macro_rules | `(tactic| walk_at "eval Name") => `(tactic| (k_here; name_kind "globalImplicit"; name_is_builtin; k_dflt (refine' q_nameB ?F ?l ?k ?d ?X ?T ?e ?b ?n ?_; (case F => k_asm); (case b => boot_by_name); (case l => decide +kernel); (case k => exact rfl); (case d => decide +kernel); (case X => k_asm); (case T => k_asm); (case e => k_is); (case n => decide +kernel); k_whole)))
local macro_rules | `(tactic| walk_at "eval Name") => `(tactic| (k_here; name_kind "local"; k_dflt (refine' q_name ?F ?l ?k ?d ?v ?_; (case F => k_asm); (case l => decide +kernel); (case k => exact rfl); (case d => decide +kernel); (case v => walk_at "look"); k_whole)))
local macro_rules | `(tactic| walk_at "compareOp In") => `(tactic| (k_here; (with_reducible show wpAny _ _ (compareOp CmpOp.In _ (Value.ref _)) _ _ _); k_dflt (first
  | (refine' w_in_way ?k0 ?k1 ?k2 ?k3 ?k5 ?k6 ?_; (case k0 => with_reducible assumption); (case k1 => k_asm); (case k2 => k_mem); (case k3 => first | exact ⟨.inl rfl, rfl⟩ | exact ⟨.inr (.inl rfl), rfl⟩ | exact ⟨.inr (.inr rfl), rfl⟩); (case k5 => first | exact uok (by omega) | ktr_units); (case k6 => exact rfl))
  | (refine' w_in_way4 ?k0 ?k1 ?k2 ?k5 ?k6 ?_; (case k0 => with_reducible assumption); (case k1 => k_asm); (case k2 => k_mem); (case k5 => first | exact uok (by omega) | ktr_units); (case k6 => exact rfl))); try dsimp only))
local macro_rules | `(tactic| walk_at "truthy") => `(tactic| ((with_reducible refine' w_truthy_way _ ?k1 ?_); (case k1 => with_reducible assumption); intro _; try dsimp only))
local macro_rules | `(tactic| walk_at "units") => `(tactic| (have hcL9 := cLine_is; first | omega | ktr_units))
local macro_rules | `(tactic| walk_at "call ref") => `(tactic| (k_here; k_extra "call ref"))

local macro_rules | `(tactic| walk_at "compareOp Eq int float") => `(tactic| ((with_reducible refine' w_eq_if ?k1 ?_); (case k1 => walk_at "isf"); try dsimp only))
local macro_rules | `(tactic| walk_at "binaryOp Add int bool") => `(tactic| (first | (with_reducible refine' w_add_true ?_) | (with_reducible refine' w_add_false ?_); try dsimp only))
local macro_rules | `(tactic| walk_at "sub") => `(tactic| (intro p9 hp9; first | exact hp9 | exact .tail _ hp9 | exact .tail _ (.tail _ hp9) | exact .tail _ (.tail _ (.tail _ hp9)) | exact .tail _ (.tail _ (.tail _ (.tail _ hp9))) | exact .tail _ (.tail _ (.tail _ (.tail _ (.tail _ hp9)))) | exact .tail _ (.tail _ (.tail _ (.tail _ (.tail _ (.tail _ hp9))))) | exact .tail _ (.tail _ (.tail _ (.tail _ (.tail _ (.tail _ (.tail _ hp9)))))) | exact .tail _ (.tail _ (.tail _ (.tail _ (.tail _ (.tail _ (.tail _ (.tail _ hp9))))))) | exact .tail _ (.tail _ (.tail _ (.tail _ (.tail _ (.tail _ (.tail _ (.tail _ (.tail _ hp9)))))))) | exact .tail _ (.tail _ (.tail _ (.tail _ (.tail _ (.tail _ (.tail _ (.tail _ (.tail _ (.tail _ hp9))))))))) | exact .tail _ (.tail _ (.tail _ (.tail _ (.tail _ (.tail _ (.tail _ (.tail _ (.tail _ (.tail _ (.tail _ hp9)))))))))) | exact .tail _ (.tail _ (.tail _ (.tail _ (.tail _ (.tail _ (.tail _ (.tail _ (.tail _ (.tail _ (.tail _ (.tail _ hp9))))))))))) | exact .tail _ (.tail _ (.tail _ (.tail _ (.tail _ (.tail _ (.tail _ (.tail _ (.tail _ (.tail _ (.tail _ (.tail _ (.tail _ hp9))))))))))))))
local macro_rules | `(tactic| walk_at "isi") => `(tactic| first | (with_reducible assumption) | (with_reducible exact i_365) | (with_reducible exact i_1461) | (with_reducible exact i_4) | (with_reducible exact i_100) | (with_reducible exact i_400) | (with_reducible exact i_4000) | (with_reducible exact i_30))
local macro_rules | `(tactic| walk_at "isf") => `(tactic| first | (with_reducible assumption) | (with_reducible exact c_fe) | (with_reducible exact c_ge) | (with_reducible exact c_half) | (with_reducible refine' isF_of_I ?ki; (case ki => walk_at "isi")))
local macro_rules | `(tactic| walk_at "isq") => `(tactic| first | (with_reducible assumption) | exact i_isQ (by with_reducible assumption) (by walk_at "om") | exact isQ_isF (by with_reducible assumption) (by walk_at "om"))
local macro_rules | `(tactic| walk_at "binaryOp Sub float float") => `(tactic| ((with_reducible refine' w_sub_ffI ?k1 ?k2 ?k3 ?_); (case k1 => walk_at "isf"); (case k2 => walk_at "isf"); (case k3 => walk_at "om"); intro _ _ _ _; try dsimp only))
local macro_rules | `(tactic| walk_at "binaryOp Sub float float") => `(tactic| ((with_reducible refine' w_sub_ffK ?k0 ?k1 ?k2 ?k3 ?_); (case k0 => with_reducible assumption); (case k1 => walk_at "isf"); (case k2 => walk_at "isf"); (case k3 => walk_at "om"); intro _ _; try dsimp only))
local macro_rules | `(tactic| walk_at "binaryOp Add float float") => `(tactic| ((with_reducible refine' i_add_ff ?k1 ?k2 ?k3 ?_); (case k1 => walk_at "isi"); (case k2 => walk_at "isi"); (case k3 => walk_at "om"); intro _ _; try dsimp only))
local macro_rules | `(tactic| walk_at "binaryOp Sub float float") => `(tactic| ((with_reducible refine' i_sub_ff ?k1 ?k2 ?k3 ?_); (case k1 => walk_at "isi"); (case k2 => walk_at "isi"); (case k3 => walk_at "om"); intro _ _; try dsimp only))
local macro_rules | `(tactic| walk_at "binaryOp Mult float float") => `(tactic| ((with_reducible refine' i_mul_ff ?k1 ?k2 ?k3 ?_); (case k1 => walk_at "isi"); (case k2 => walk_at "isi"); (case k3 => walk_at "om"); intro _ _; try dsimp only))
local macro_rules | `(tactic| walk_at "binaryOp Add float int") => `(tactic| ((with_reducible refine' i_add_fi ?k1 ?k3 ?_); (case k1 => walk_at "isi"); (case k3 => walk_at "om"); intro _ _; try dsimp only))
local macro_rules | `(tactic| walk_at "binaryOp Add int float") => `(tactic| ((with_reducible refine' i_add_if ?k1 ?k3 ?_); (case k1 => walk_at "isi"); (case k3 => walk_at "om"); intro _ _; try dsimp only))
local macro_rules | `(tactic| walk_at "binaryOp Sub float int") => `(tactic| ((with_reducible refine' i_sub_fi ?k1 ?k3 ?_); (case k1 => walk_at "isi"); (case k3 => walk_at "om"); intro _ _; try dsimp only))
local macro_rules | `(tactic| walk_at "binaryOp Mult float int") => `(tactic| ((with_reducible refine' i_mul_fi ?k1 ?k3 ?_); (case k1 => walk_at "isi"); (case k3 => walk_at "om"); intro _ _; try dsimp only))
local macro_rules | `(tactic| walk_at "binaryOp Mult int float") => `(tactic| ((with_reducible refine' i_mul_if ?k1 ?k3 ?_); (case k1 => walk_at "isi"); (case k3 => walk_at "om"); intro _ _; try dsimp only))
local macro_rules | `(tactic| walk_at "binaryOp Div float float") => `(tactic| ((with_reducible refine' i_div_ff ?k0 ?k1 ?k2 ?k3 ?_); (case k0 => k_dflt (exact rfl)); (case k1 => walk_at "isi"); (case k2 => walk_at "isi"); (case k3 => walk_at "om"); intro _ _; try dsimp only))
local macro_rules | `(tactic| walk_at "binaryOp Div float int") => `(tactic| ((with_reducible refine' i_div_fi ?k0 ?k1 ?k3 ?_); (case k0 => k_dflt (exact rfl)); (case k1 => walk_at "isi"); (case k3 => walk_at "om"); intro _ _; try dsimp only))
local macro_rules | `(tactic| walk_at "binaryOp Div int float") => `(tactic| ((with_reducible refine' i_div_if ?k0 ?k1 ?k3 ?_); (case k0 => k_dflt (exact rfl)); (case k1 => walk_at "isi"); (case k3 => walk_at "om"); intro _ _; try dsimp only))
local macro_rules | `(tactic| walk_at "binaryOp Mod float float") => `(tactic| ((with_reducible refine' i_mod_ff ?k0 ?k1 ?k2 ?k3 ?_); (case k0 => k_dflt (exact rfl)); (case k1 => walk_at "isi"); (case k2 => walk_at "isi"); (case k3 => walk_at "om"); intro _ _; try dsimp only))
local macro_rules | `(tactic| walk_at "binaryOp Mod float int") => `(tactic| ((with_reducible refine' i_mod_fi ?k0 ?k1 ?k3 ?_); (case k0 => k_dflt (exact rfl)); (case k1 => walk_at "isi"); (case k3 => walk_at "om"); intro _ _; try dsimp only))
local macro_rules | `(tactic| walk_at "binaryOp Mod int float") => `(tactic| ((with_reducible refine' i_mod_if ?k0 ?k1 ?k3 ?_); (case k0 => k_dflt (exact rfl)); (case k1 => walk_at "isi"); (case k3 => walk_at "om"); intro _ _; try dsimp only))
local macro_rules | `(tactic| walk_at "compareOp Lt float float") => `(tactic| ((with_reducible refine' i_lt_ff ?k1 ?k2 ?_); (case k1 => walk_at "isi"); (case k2 => walk_at "isi"); try dsimp only))
local macro_rules | `(tactic| walk_at "compareOp LtE float float") => `(tactic| ((with_reducible refine' i_le_ff ?k1 ?k2 ?_); (case k1 => walk_at "isi"); (case k2 => walk_at "isi"); try dsimp only))
local macro_rules | `(tactic| walk_at "compareOp Eq float float") => `(tactic| ((with_reducible refine' i_eq_ff ?k1 ?k2 ?_); (case k1 => walk_at "isi"); (case k2 => walk_at "isi"); try dsimp only))
local macro_rules | `(tactic| walk_at "compareOp Eq int float") => `(tactic| ((with_reducible refine' i_eq_if ?k1 ?_); (case k1 => walk_at "isi"); try dsimp only))
local macro_rules | `(tactic| walk_at "compareOp Lt float int") => `(tactic| ((with_reducible refine' i_lt_fi ?k1 ?_); (case k1 => walk_at "isi"); try dsimp only))
local macro_rules | `(tactic| walk_at "compareOp NotEq float int") => `(tactic| ((with_reducible refine' i_ne_fi ?k1 ?_); (case k1 => walk_at "isi"); try dsimp only))
local macro_rules | `(tactic| walk_at "binaryOp FloorDiv int int") => `(tactic| ((with_reducible refine' w_fdiv_ii ?k3 ?_); (case k3 => (constructor <;> decide)); try dsimp only))
local macro_rules | `(tactic| walk_at "compareOp In int ref") => `(tactic| (k_here; k_dflt (refine' w_in_4K ?k1 ?k2 ?k3 ?_; (case k1 => k_asm); (case k2 => k_asm); (case k3 => k_is)); try dsimp only))
local macro_rules | `(tactic| walk_at "binaryOp Add float int") => `(tactic| first
  | ((with_reducible refine' w_addD1 ?k1 ?k3 ?_); (case k1 => with_reducible assumption); (case k3 => walk_at "om"); intro _ _; try dsimp only)
  | ((with_reducible refine' w_addD2 ?k1 ?k3 ?_); (case k1 => with_reducible assumption); (case k3 => walk_at "om"); intro _ _; try dsimp only))
local macro_rules | `(tactic| walk_at "call builtin:math.floor") => `(tactic| ((with_reducible refine' w_floor ?k0 ?k1 ?_); (case k0 => k_dflt (exact rfl)); (case k1 => exact isQ_month (by with_reducible assumption) (by walk_at "om") (by walk_at "om") (by walk_at "om")); try dsimp only))
local macro_rules | `(tactic| walk_at "binaryOp Div float int") => `(tactic| ((with_reducible refine' i_div_fiD ?k0 ?k1 ?k2 ?k3 ?_); (case k0 => k_dflt (exact rfl)); (case k1 => walk_at "isi"); (case k2 => first | (with_reducible assumption) | k_extra "mine dv"); (case k3 => walk_at "om"); intro _ _; try dsimp only))
local macro_rules | `(tactic| walk_at "binaryOp Mod float int") => `(tactic| ((with_reducible refine' i_mod_fiD ?k0 ?k1 ?k2 ?k3 ?_); (case k0 => k_dflt (exact rfl)); (case k1 => walk_at "isi"); (case k2 => with_reducible assumption); (case k3 => walk_at "om"); intro _ _; try dsimp only))
local macro_rules | `(tactic| walk_at "binaryOp Sub float float") => `(tactic| (k_extra "mine sub"))
local macro_rules | `(tactic| walk_at "eval Call") => `(tactic| (k_here; first | ((with_reducible show wpAny _ _ (eval (Expr.Call (Expr.Name _ _) _ (_ :: _) _) _) _ _ _); k_dflt (refine wpAny_Call_Name_kw ?_)) | ((with_reducible show wpAny _ _ (eval (Expr.Call (Expr.Name _ _) _ [] _) _) _ _ _); k_dflt (refine Call_ ?_))))
local macro_rules | `(tactic| walk_at "subscriptTail Name BinOp ref int") => `(tactic| (k_here; k_dflt (refine' w_sizes ?k1 ?k2 ?k3 ?k4 ?_; (case k1 => k_asm); (case k2 => k_asm); (case k3 => k_is); (case k4 => walk_at "om")); intro _; try dsimp only))
local macro_rules | `(tactic| walk_at "eval ListComp") => `(tactic| (k_extra "mine comp"))
local macro_rules | `(tactic| walk_at "CompEnd") => `(tactic| (k_dflt (refine' LCg.CompEnd.intro ?F ?N _ (fun _ h => h) ?off ?S ?_; (case F => k_asm); (case N => k_asm); (case off => first | assumption | (simp only [LCg.Off3, and_true]; assumption)); (case S => first | assumption | k_mem)); try dsimp only))
local macro_rules | `(tactic| walk_at "exec While Compare cons nil") => `(tactic| (k_extra "mine while"))
local macro_rules | `(tactic| walk_at "exec Raise some none") => `(tactic| refine Raise_new rfl ?_)
local macro_rules | `(tactic| walk_at "exec Raise some none") => `(tactic| (k_extra "mine raise"))
local macro_rules | `(tactic| walk_at "callWith ref") => `(tactic| (k_here; (with_reducible show wpAny _ _ (callWith _ (Value.ref _) _ _ (backToKw _ (keywordEach (_ :: _) _))) _ _ _); k_dflt (first
  | ((with_reducible refine' callWith_KW ?k1 ?k2 ?k3 ?_ ?k5 ?k6); (case k1 => k_asm); (case k2 => k_is); (case k3 => exact rfl); (case k5 => exact rfl); (case k6 => exact rfl); k_whole)
  | ((with_reducible refine' callWith_KW0 ?k1 ?k2 ?k3 ?_ ?k5); (case k1 => k_asm); (case k2 => k_is); (case k3 => exact rfl); (case k5 => exact rfl); k_whole))))
local macro_rules | `(tactic| walk_at "ite") => `(tactic| (k_closed; first
  | (with_reducible refine ite_tt ?_)
  | (with_reducible refine ite_ff ?_)
  | (k_dflt (refine ite_pos (by decide +kernel) ?_))
  | (k_dflt (refine ite_neg (by decide +kernel) ?_))))

/-- whether the way makes the year a leap year, as the code reckons it -/
def leapZ (kind year : Int) : Prop :=
  (year < 15 ∧ (year = 3 ∨ year = 7 ∨ year = 11)) ∨ (15 ≤ year ∧ (((kind = 0 ∨ (kind = 2 ∧ year ≤ 16)) ∧ year % 4 = 3)
    ∨ (kind = 1 ∧ ((year % 4 = 0 ∧ year % 100 ≠ 0) ∨ year % 400 = 0)) ∨ (kind = 2 ∧ 16 < year ∧ year % 4 = 0 ∧ year % 128 ≠ 0)))
theorem c_leap {w loose mean mg mb} (kind y : Int) (v : Value) (ty : Tok) (b : Bool) (hv : Way kind v) (hb : decide (leapZ kind y) = b) : CB w loose mean mg mb 79 2 [.int y ty, v] [] (GV fun _ => .bool b) := by
  unfold CB Pg
  k_fill
  subst hb
  rcases hv.kinds with rfl | rfl | rfl
  all_goals (
    intro dp un gd cn cs a ccd cl outer A₀ base h₀ L m' news s Q E B F X N T hk hd hu hret
    refine wpAny_call ?_
    k_dflt (refine' code_def (binds := [(Str.ofString "year", .int y ty), (Str.ofString "method", v)]) ?k1 ?k2 ?k3 ?k4 ?k5 ?kA ?kF ?kK ?k6 ?k7 ?k8 ?k9 ?kB ?_ ?c2 ?c3 ?c4 ?c5; (case kA => exact rfl); (case kF => exact rfl); (case kK => assumption); (case k1 => k_asm); (case k2 => k_asm); (case k3 => k_asm); (case k4 => k_asm); (case k5 => k_asm); (case k6 => k_is); (case k7 => k_is); (case k8 => ktr_room); (case k9 => first | exact BindsTo.of_eq rfl | exact binds_K (by k_in) rfl (by k_is) rfl rfl rfl); (case c5 => decide); (case kB => exact locs rfl); (case c2 => exact rfl); (case c3 => exact rfl); (case c4 => exact rfl); k_whole; intro g' L' h' FG' F' N' B' X' T'; (simp only [List.reverse_cons, List.reverse_nil, List.nil_append, List.cons_append] at F'); (try dsimp only); (try k_lift B'); (try k_fold))
    k_steps)
  all_goals (
    refine' gv_end (t := 0) hret ?e1 ?e2 (bool_end ?_)
    (case e1 => k_asm)
    (case e2 => walk_at "news")
    clear B F X N T hk hd hu hret
    simp only [decide_eq_true_eq, beq_iff_eq, bne_iff_ne, leapZ, Bool.false_eq_true, true_and, true_or, iff_false, iff_true]
    first | omega | trace_state)
theorem c_leapK {w loose mean mg mb} (kind y : Int) (v : Value) (ty : Tok) (b : Bool) (hv : Way kind v) (hb : decide (leapZ kind y) = b) : CB w loose mean mg mb 79 2 [.int y ty] [(Str.ofString "method", v)] (GV fun _ => .bool b) := by
  unfold CB Pg
  k_fill
  subst hb
  rcases hv.kinds with rfl | rfl | rfl
  all_goals (
    intro dp un gd cn cs a ccd cl outer A₀ base h₀ L m' news s Q E B F X N T hk hd hu hret
    refine wpAny_call ?_
    k_dflt (refine' code_def (binds := [(Str.ofString "year", .int y ty), (Str.ofString "method", v)]) ?k1 ?k2 ?k3 ?k4 ?k5 ?kA ?kF ?kK ?k6 ?k7 ?k8 ?k9 ?kB ?_ ?c2 ?c3 ?c4 ?c5; (case kA => exact rfl); (case kF => exact rfl); (case kK => assumption); (case k1 => k_asm); (case k2 => k_asm); (case k3 => k_asm); (case k4 => k_asm); (case k5 => k_asm); (case k6 => k_is); (case k7 => k_is); (case k8 => ktr_room); (case k9 => first | exact BindsTo.of_eq rfl | exact binds_K (by k_in) rfl (by k_is) rfl rfl rfl); (case c5 => decide); (case kB => exact locs rfl); (case c2 => exact rfl); (case c3 => exact rfl); (case c4 => exact rfl); k_whole; intro g' L' h' FG' F' N' B' X' T'; (simp only [List.reverse_cons, List.reverse_nil, List.nil_append, List.cons_append] at F'); (try dsimp only); (try k_lift B'); (try k_fold))
    k_steps)
  all_goals (
    refine' gv_end (t := 0) hret ?e1 ?e2 (bool_end ?_)
    (case e1 => k_asm)
    (case e2 => walk_at "news")
    clear B F X N T hk hd hu hret
    simp only [decide_eq_true_eq, beq_iff_eq, bne_iff_ne, leapZ, Bool.false_eq_true, true_and, true_or, iff_false, iff_true]
    first | omega | trace_state)
/-- the days before the year's first, as the code reckons them -/
def yj (kind y : Int) : Int :=
  if kind = 0 ∨ (kind = 1 ∧ y < 15) ∨ (kind = 2 ∧ y < 17) then y / 4 * 1461 + y % 4 * 365 - 365
  else if kind = 1 then 4383 + (y - 13) / 4000 * 1460969 + (y - 13) % 4000 / 400 * 146097 + (y - 13) % 4000 % 400 / 100 * 36524 + (y - 13) % 4000 % 400 % 100 / 4 * 1461 + (y - 13) % 4000 % 400 % 100 % 4 * 365
  else 5844 + (y - 17) / 128 * 46751 + (y - 17) % 128 / 4 * 1461 + (y - 17) % 128 % 4 * 365
/-- the quarters of a date's day number -/
def toQ (kind y m d : Int) : Int := 9503358 + 4 * (yj kind y + (m - 1) * 30 + d - 1)
theorem c_sch {w loose mean mg mb} (kind y m d : Int) (v : Value) (ty tm td : Tok) (hv : Way kind v) (hy : 1 ≤ y ∧ y ≤ 2000000) (hm : 1 ≤ m ∧ m ≤ 13) (hdd : 1 ≤ d ∧ d ≤ 30) :
    CB w loose mean mg mb 94 2 [.int y ty, .int m tm, .int d td, v] [] (GF (toQ kind y m d)) := by
  unfold CB Pg
  k_fill
  rcases hv.kinds with rfl | rfl | rfl
  all_goals (
    intro dp un gd cn cs a ccd cl outer A₀ base h₀ L m' news s Q E B F X N T hk hd hu hret
    refine wpAny_call ?_
    k_dflt (refine' code_def (binds := [(Str.ofString "year", .int y ty), (Str.ofString "month", .int m tm), (Str.ofString "day", .int d td), (Str.ofString "method", v)]) ?k1 ?k2 ?k3 ?k4 ?k5 ?kA ?kF ?kK ?k6 ?k7 ?k8 ?k9 ?kB ?_ ?c2 ?c3 ?c4 ?c5; (case kA => exact rfl); (case kF => exact rfl); (case kK => assumption); (case k1 => k_asm); (case k2 => k_asm); (case k3 => k_asm); (case k4 => k_asm); (case k5 => k_asm); (case k6 => k_is); (case k7 => k_is); (case k8 => ktr_room); (case k9 => first | exact BindsTo.of_eq rfl | exact binds_K (by k_in) rfl (by k_is) rfl rfl rfl); (case c5 => decide); (case kB => exact locs rfl); (case c2 => exact rfl); (case c3 => exact rfl); (case c4 => exact rfl); k_whole; intro g' L' h' FG' F' N' B' X' T'; (simp only [List.reverse_cons, List.reverse_nil, List.nil_append, List.cons_append] at F'); (try dsimp only); (try k_lift B'); (try k_fold))
    k_steps)
  all_goals (
    refine' gf_end hret ?e1 ?e2 ?e3 ?_
    (case e3 => with_reducible assumption)
    (case e1 => k_asm)
    (case e2 => walk_at "news")
    clear B F X N T hk hd hu hret
    simp only [toQ, yj, true_and, true_or, ↓reduceIte]
    row_timed "OM" ((repeat' split) <;> first | omega | trace_state))
theorem c_to {w loose mean mg mb} (kind y m d : Int) (v : Value) (ty tm td : Tok) (b : Bool) (hv : Way kind v) (hb : decide (leapZ kind y) = b) (hy : 1 ≤ y ∧ y ≤ 2000000) (hm : 1 ≤ m ∧ m ≤ 13) (hdd : 1 ≤ d ∧ d ≤ 30) (h13 : m ≠ 13 ∨ d ≤ if b then 6 else 5) :
    CB w loose mean mg mb 87 5 [.int y ty, .int m tm, .int d td, v] [] (GF (toQ kind y m d)) := by
  unfold CB Pg
  k_fill
  k_with "call ref" => (k_dflt (refine' cb_use (c_leap _ _ _ _ _ ?sw ?sb) ?k1 ?k2 ?k3 ?k4 ?k5 ?k6 ?k7 ?k8 ?_; (case sw => with_reducible assumption); (case sb => with_reducible assumption); (case k1 => k_asm); (case k2 => k_asm); (case k3 => k_asm); (case k4 => k_asm); (case k5 => k_asm); (case k6 => first | exact rfl | assumption); (case k7 => ktr_room); (case k8 => walk_at "units"); intro _ _ _ _ _; (try dsimp only)))
  k_with "call ref" => (k_dflt (refine' cb_use (c_leapK _ _ _ _ _ ?sw ?sb) ?k1 ?k2 ?k3 ?k4 ?k5 ?k6 ?k7 ?k8 ?_; (case sw => with_reducible assumption); (case sb => with_reducible assumption); (case k1 => k_asm); (case k2 => k_asm); (case k3 => k_asm); (case k4 => k_asm); (case k5 => k_asm); (case k6 => first | exact rfl | assumption); (case k7 => ktr_room); (case k8 => walk_at "units"); intro _ _ _ _ _; (try dsimp only)))
  k_with "call ref" => (k_dflt (refine' cb_use (c_sch _ _ _ _ _ _ _ _ ?sw ?sy ?sm ?sd) ?k1 ?k2 ?k3 ?k4 ?k5 ?k6 ?k7 ?k8 ?_; (case sw => with_reducible assumption); (case sy => walk_at "om"); (case sm => walk_at "om"); (case sd => walk_at "om"); (case k1 => k_asm); (case k2 => k_asm); (case k3 => k_asm); (case k4 => k_asm); (case k5 => k_asm); (case k6 => first | exact rfl | assumption); (case k7 => ktr_room); (case k8 => walk_at "units"); intro _ _ _ _ _ _ _; (try dsimp only)))
  cases b
  all_goals (
    simp only [Bool.false_eq_true, ↓reduceIte] at h13
    intro dp un gd cn cs a ccd cl outer A₀ base h₀ L m' news s Q E B F X N T hk hd hu hret
    refine wpAny_call ?_
    k_dflt (refine' code_def (binds := [(Str.ofString "year", .int y ty), (Str.ofString "month", .int m tm), (Str.ofString "day", .int d td), (Str.ofString "method", v)]) ?k1 ?k2 ?k3 ?k4 ?k5 ?kA ?kF ?kK ?k6 ?k7 ?k8 ?k9 ?kB ?_ ?c2 ?c3 ?c4 ?c5; (case kA => exact rfl); (case kF => exact rfl); (case kK => assumption); (case k1 => k_asm); (case k2 => k_asm); (case k3 => k_asm); (case k4 => k_asm); (case k5 => k_asm); (case k6 => k_is); (case k7 => k_is); (case k8 => ktr_room); (case k9 => first | exact BindsTo.of_eq rfl | exact binds_K (by k_in) rfl (by k_is) rfl rfl rfl); (case c5 => decide); (case kB => exact locs rfl); (case c2 => exact rfl); (case c3 => exact rfl); (case c4 => exact rfl); k_whole; intro g' L' h' FG' F' N' B' X' T'; (simp only [List.reverse_cons, List.reverse_nil, List.nil_append, List.cons_append] at F'); (try dsimp only); (try k_lift B'); (try k_fold))
    k_steps)
  all_goals (
    refine' gf_end hret ?e1 ?e2 ?e3 rfl
    (case e3 => with_reducible assumption)
    (case e1 => k_asm)
    (case e2 => walk_at "news"))
theorem c_toK {w loose mean mg mb} (kind y m d : Int) (v : Value) (ty tm td : Tok) (b : Bool) (hv : Way kind v) (hb : decide (leapZ kind y) = b) (hy : 1 ≤ y ∧ y ≤ 2000000) (hm : 1 ≤ m ∧ m ≤ 13) (hdd : 1 ≤ d ∧ d ≤ 30) (h13 : m ≠ 13 ∨ d ≤ if b then 6 else 5) :
    CB w loose mean mg mb 87 5 [.int y ty, .int m tm, .int d td] [(Str.ofString "method", v)] (GF (toQ kind y m d)) := by
  unfold CB Pg
  k_fill
  cases b
  all_goals (
    simp only [Bool.false_eq_true, ↓reduceIte] at h13
    intro dp un gd cn cs a ccd cl outer A₀ base h₀ L m' news s Q E B F X N T hk hd hu hret
    refine wpAny_call ?_
    k_dflt (refine' code_def (binds := [(Str.ofString "year", .int y ty), (Str.ofString "month", .int m tm), (Str.ofString "day", .int d td), (Str.ofString "method", v)]) ?k1 ?k2 ?k3 ?k4 ?k5 ?kA ?kF ?kK ?k6 ?k7 ?k8 ?k9 ?kB ?_ ?c2 ?c3 ?c4 ?c5; (case kA => exact rfl); (case kF => exact rfl); (case kK => assumption); (case k1 => k_asm); (case k2 => k_asm); (case k3 => k_asm); (case k4 => k_asm); (case k5 => k_asm); (case k6 => k_is); (case k7 => k_is); (case k8 => ktr_room); (case k9 => first | exact BindsTo.of_eq rfl | exact binds_K (by k_in) rfl (by k_is) rfl rfl rfl); (case c5 => decide); (case kB => exact locs rfl); (case c2 => exact rfl); (case c3 => exact rfl); (case c4 => exact rfl); k_whole; intro g' L' h' FG' F' N' B' X' T'; (simp only [List.reverse_cons, List.reverse_nil, List.nil_append, List.cons_append] at F'); (try dsimp only); (try k_lift B'); (try k_fold))
    k_steps)
  all_goals (
    refine' gf_end hret ?e1 ?e2 ?e3 rfl
    (case e3 => with_reducible assumption)
    (case e1 => k_asm)
    (case e2 => walk_at "news"))
/-- years and days within a cycle of four -/
def yq (j : Int) : Int := j / 1461 * 4 + (if j % 1461 = 1460 then 3 else j % 1461 / 365)
def dq (j : Int) : Int := if j % 1461 = 1460 then 365 else j % 1461 % 365
/-- the year, and the day within it from nought, of the n-th day from the epoch, as the code reckons them -/
def fy (kind n : Int) : Int :=
  if kind = 0 ∨ (kind = 1 ∧ n ≤ 4383) ∨ (kind = 2 ∧ n ≤ 6209) then yq (n + 365)
  else if kind = 1 then (n - 365 * 12 - 3) / 1460969 * 4000 + (n - 365 * 12 - 3) % 1460969 / 146097 * 400 + (n - 365 * 12 - 3) % 1460969 % 146097 / 36524 * 100 + yq ((n - 365 * 12 - 3) % 1460969 % 146097 % 36524) + 13
  else (n - 365 * 16 - 4) / 46751 * 128 + yq ((n - 365 * 16 - 4) % 46751) + 17
def fd (kind n : Int) : Int :=
  if kind = 0 ∨ (kind = 1 ∧ n ≤ 4383) ∨ (kind = 2 ∧ n ≤ 6209) then dq (n + 365)
  else if kind = 1 then dq ((n - 365 * 12 - 3) % 1460969 % 146097 % 36524)
  else dq ((n - 365 * 16 - 4) % 46751)
theorem fy0 {kind n : Int} (h : kind = 0 ∨ (kind = 1 ∧ n ≤ 4383) ∨ (kind = 2 ∧ n ≤ 6209)) : fy kind n = yq (n + 365) ∧ fd kind n = dq (n + 365) := by
  unfold fy fd; rw [if_pos h, if_pos h]; exact ⟨rfl, rfl⟩
theorem fy1 {n : Int} (h : 4383 < n) : fy 1 n = (n - 365 * 12 - 3) / 1460969 * 4000 + (n - 365 * 12 - 3) % 1460969 / 146097 * 400 + (n - 365 * 12 - 3) % 1460969 % 146097 / 36524 * 100 + yq ((n - 365 * 12 - 3) % 1460969 % 146097 % 36524) + 13
    ∧ fd 1 n = dq ((n - 365 * 12 - 3) % 1460969 % 146097 % 36524) := by
  unfold fy fd; rw [if_neg (by omega), if_pos rfl, if_neg (by omega), if_pos rfl]; exact ⟨rfl, rfl⟩
theorem fy2 {n : Int} (h : 6209 < n) : fy 2 n = (n - 365 * 16 - 4) / 46751 * 128 + yq ((n - 365 * 16 - 4) % 46751) + 17 ∧ fd 2 n = dq ((n - 365 * 16 - 4) % 46751) := by
  unfold fy fd; rw [if_neg (by omega), if_neg (by omega), if_neg (by omega), if_neg (by omega)]; exact ⟨rfl, rfl⟩
theorem yqA {j : Int} (h : j % 1461 = 1461 - 1) : yq j = j / 1461 * 4 + 3 ∧ dq j = 365 := by
  unfold yq dq; rw [if_pos (by omega), if_pos (by omega)]; exact ⟨rfl, rfl⟩
theorem yqB {j : Int} (h : ¬ j % 1461 = 1461 - 1) : yq j = j / 1461 * 4 + j % 1461 / 365 ∧ dq j = j % 1461 % 365 := by
  unfold yq dq; rw [if_neg (by omega), if_neg (by omega)]; exact ⟨rfl, rfl⟩
theorem dayAt (j : Int) : j - j / 30 * 30 = j % 30 := by omega
theorem c_fsch {w loose mean mg mb} (kind n r : Int) (x : UInt64) (v : Value) (tx : Tok) (hv : Way kind v) (hx : IsF x (9503358 + 4 * n + r)) (hn : 0 ≤ n ∧ n ≤ 1000000000) (hr : 0 ≤ r ∧ r ≤ 1) :
    CB w loose mean mg mb 109 2 [.float x tx, v] [] (GT (fy kind n) (fd kind n / 30 + 1) (fd kind n % 30 + 1)) := by
  unfold CB Pg
  k_fill
  have hint : Hint n := trivial
  rcases hv.kinds with rfl | rfl | rfl
  all_goals (
    intro dp un gd cn cs a ccd cl outer A₀ base h₀ L m' news s Q E B F X N T hk hd hu hret
    refine wpAny_call ?_
    k_dflt (refine' code_def (binds := [(Str.ofString "jd", .float x tx), (Str.ofString "method", v)]) ?k1 ?k2 ?k3 ?k4 ?k5 ?kA ?kF ?kK ?k6 ?k7 ?k8 ?k9 ?kB ?_ ?c2 ?c3 ?c4 ?c5; (case kA => exact rfl); (case kF => exact rfl); (case kK => assumption); (case k1 => k_asm); (case k2 => k_asm); (case k3 => k_asm); (case k4 => k_asm); (case k5 => k_asm); (case k6 => k_is); (case k7 => k_is); (case k8 => ktr_room); (case k9 => first | exact BindsTo.of_eq rfl | exact binds_K (by k_in) rfl (by k_is) rfl rfl rfl); (case c5 => decide); (case kB => exact locs rfl); (case c2 => exact rfl); (case c3 => exact rfl); (case c4 => exact rfl); k_whole; intro g' L' h' FG' F' N' B' X' T'; (simp only [List.reverse_cons, List.reverse_nil, List.nil_append, List.cons_append] at F'); (try dsimp only); (try k_lift B'); (try k_fold))
    k_steps)
  all_goals (
    refine' gt_end hret ?e1 ?e2 ?e3 ?e4 ?_
    (case e1 => k_asm)
    (case e2 => with_reducible assumption)
    (case e3 => k_mem)
    (case e4 => walk_at "sub")
    clear B F X N T hk hd hu hret hint hx
    row_timed "OM" (first
      | (rw [(fy0 (by omega)).1, (fy0 (by omega)).2, (yqA (by assumption)).1, (yqA (by assumption)).2]; exact ⟨by omega, rfl, rfl⟩)
      | (rw [(fy0 (by omega)).1, (fy0 (by omega)).2, (yqB (by assumption)).1, (yqB (by assumption)).2]; exact ⟨by omega, rfl, by rw [dayAt]⟩)
      | (rw [(fy1 (by omega)).1, (fy1 (by omega)).2, (yqA (by assumption)).1, (yqA (by assumption)).2]; exact ⟨by omega, rfl, rfl⟩)
      | (rw [(fy1 (by omega)).1, (fy1 (by omega)).2, (yqB (by assumption)).1, (yqB (by assumption)).2]; exact ⟨by omega, rfl, by rw [dayAt]⟩)
      | (rw [(fy2 (by omega)).1, (fy2 (by omega)).2, (yqA (by assumption)).1, (yqA (by assumption)).2]; exact ⟨by omega, rfl, rfl⟩)
      | (rw [(fy2 (by omega)).1, (fy2 (by omega)).2, (yqB (by assumption)).1, (yqB (by assumption)).2]; exact ⟨by omega, rfl, by rw [dayAt]⟩)
      | trace_state))
theorem c_from {w loose mean mg mb} (kind n r : Int) (x : UInt64) (v : Value) (tx : Tok) (hv : Way kind v) (hx : IsF x (9503358 + 4 * n + r)) (hn : 0 ≤ n ∧ n ≤ 1000000000) (hr : 0 ≤ r ∧ r ≤ 1) :
    CB w loose mean mg mb 102 4 [.float x tx, v] [] (GT (fy kind n) (fd kind n / 30 + 1) (fd kind n % 30 + 1)) := by
  unfold CB Pg
  k_fill
  k_with "call ref" => (k_dflt (refine' cb_use (c_fsch _ _ _ _ _ _ ?sw ?sx ?sn ?sr) ?k1 ?k2 ?k3 ?k4 ?k5 ?k6 ?k7 ?k8 ?_; (case sw => with_reducible assumption); (case sx => with_reducible assumption); (case sn => walk_at "om"); (case sr => walk_at "om"); (case k1 => k_asm); (case k2 => k_asm); (case k3 => k_asm); (case k4 => k_asm); (case k5 => k_asm); (case k6 => first | exact rfl | assumption); (case k7 => ktr_room); (case k8 => walk_at "units"); intro _ _ _ _ _ _ _ _ _; (try dsimp only)))
  (
    intro dp un gd cn cs a ccd cl outer A₀ base h₀ L m' news s Q E B F X N T hk hd hu hret
    refine wpAny_call ?_
    k_dflt (refine' code_def (binds := [(Str.ofString "jd", .float x tx), (Str.ofString "method", v)]) ?k1 ?k2 ?k3 ?k4 ?k5 ?kA ?kF ?kK ?k6 ?k7 ?k8 ?k9 ?kB ?_ ?c2 ?c3 ?c4 ?c5; (case kA => exact rfl); (case kF => exact rfl); (case kK => assumption); (case k1 => k_asm); (case k2 => k_asm); (case k3 => k_asm); (case k4 => k_asm); (case k5 => k_asm); (case k6 => k_is); (case k7 => k_is); (case k8 => ktr_room); (case k9 => first | exact BindsTo.of_eq rfl | exact binds_K (by k_in) rfl (by k_is) rfl rfl rfl); (case c5 => decide); (case kB => exact locs rfl); (case c2 => exact rfl); (case c3 => exact rfl); (case c4 => exact rfl); k_whole; intro g' L' h' FG' F' N' B' X' T'; (simp only [List.reverse_cons, List.reverse_nil, List.nil_append, List.cons_append] at F'); (try dsimp only); (try k_lift B'); (try k_fold))
    k_steps)
  all_goals (
    refine' gt_end hret ?e1 ?e2 ?e3 ?e4 ⟨rfl, rfl, rfl⟩
    (case e1 => k_asm)
    (case e2 => with_reducible assumption)
    (case e3 => k_mem)
    (case e4 => walk_at "sub"))
theorem c_fromK {w loose mean mg mb} (kind n r : Int) (x : UInt64) (v : Value) (tx : Tok) (hv : Way kind v) (hx : IsF x (9503358 + 4 * n + r)) (hn : 0 ≤ n ∧ n ≤ 1000000000) (hr : 0 ≤ r ∧ r ≤ 1) :
    CB w loose mean mg mb 102 4 [.float x tx] [(Str.ofString "method", v)] (GT (fy kind n) (fd kind n / 30 + 1) (fd kind n % 30 + 1)) := by
  unfold CB Pg
  k_fill
  (
    intro dp un gd cn cs a ccd cl outer A₀ base h₀ L m' news s Q E B F X N T hk hd hu hret
    refine wpAny_call ?_
    k_dflt (refine' code_def (binds := [(Str.ofString "jd", .float x tx), (Str.ofString "method", v)]) ?k1 ?k2 ?k3 ?k4 ?k5 ?kA ?kF ?kK ?k6 ?k7 ?k8 ?k9 ?kB ?_ ?c2 ?c3 ?c4 ?c5; (case kA => exact rfl); (case kF => exact rfl); (case kK => assumption); (case k1 => k_asm); (case k2 => k_asm); (case k3 => k_asm); (case k4 => k_asm); (case k5 => k_asm); (case k6 => k_is); (case k7 => k_is); (case k8 => ktr_room); (case k9 => first | exact BindsTo.of_eq rfl | exact binds_K (by k_in) rfl (by k_is) rfl rfl rfl); (case c5 => decide); (case kB => exact locs rfl); (case c2 => exact rfl); (case c3 => exact rfl); (case c4 => exact rfl); k_whole; intro g' L' h' FG' F' N' B' X' T'; (simp only [List.reverse_cons, List.reverse_nil, List.nil_append, List.cons_append] at F'); (try dsimp only); (try k_lift B'); (try k_fold))
    k_steps)
  all_goals (
    refine' gt_end hret ?e1 ?e2 ?e3 ?e4 ⟨rfl, rfl, rfl⟩
    (case e1 => k_asm)
    (case e2 => with_reducible assumption)
    (case e3 => k_mem)
    (case e4 => walk_at "sub"))
def glZ (y : Int) : Prop := y % 4 = 0 ∧ (y % 100 ≠ 0 ∨ y % 400 = 0)
/-- days of a month of the Gregorian calendar -/
noncomputable def glen (y m : Int) : Int := if m = 2 then (if glZ y then 29 else 28) else if m = 4 ∨ m = 6 ∨ m = 9 ∨ m = 11 then 30 else 31
/-- days ahead of the month, days ahead of the year -/
noncomputable def gm (y m : Int) : Int := (367 * m - 362) / 12 + (if m ≤ 2 then 0 else if glZ y then -1 else -2)
def gy (y : Int) : Int := 365 * (y - 1) + (y - 1) / 4 - (y - 1) / 100 + (y - 1) / 400
theorem c_isleap {w loose mean mg mb} (y : Int) (ty : Tok) (b : Bool) (hb : decide (glZ y) = b) : CB w loose mean mg mb 50 1 [.int y ty] [] (GV fun _ => .bool b) := by
  unfold CB Pg
  k_fill
  subst hb
  (
    intro dp un gd cn cs a ccd cl outer A₀ base h₀ L m' news s Q E B F X N T hk hd hu hret
    refine wpAny_call ?_
    k_dflt (refine' code_def (binds := [(Str.ofString "year", .int y ty)]) ?k1 ?k2 ?k3 ?k4 ?k5 ?kA ?kF ?kK ?k6 ?k7 ?k8 ?k9 ?kB ?_ ?c2 ?c3 ?c4 ?c5; (case kA => exact rfl); (case kF => exact rfl); (case kK => assumption); (case k1 => k_asm); (case k2 => k_asm); (case k3 => k_asm); (case k4 => k_asm); (case k5 => k_asm); (case k6 => k_is); (case k7 => k_is); (case k8 => ktr_room); (case k9 => first | exact BindsTo.of_eq rfl | exact binds_K (by k_in) rfl (by k_is) rfl rfl rfl); (case c5 => decide); (case kB => exact locs rfl); (case c2 => exact rfl); (case c3 => exact rfl); (case c4 => exact rfl); k_whole; intro g' L' h' FG' F' N' B' X' T'; (simp only [List.reverse_cons, List.reverse_nil, List.nil_append, List.cons_append] at F'); (try dsimp only); (try k_lift B'); (try k_fold))
    k_steps)
  all_goals (
    refine' gv_end (t := 0) hret ?e1 ?e2 (bool_end ?_)
    (case e1 => k_asm)
    (case e2 => walk_at "news")
    clear B F X N T hk hd hu hret
    (try simp only [decide_eq_true_eq])
    simp only [beq_iff_eq, bne_iff_ne, glZ, Bool.false_eq_true, true_and, true_or, iff_false, iff_true]
    first | omega | trace_state)
/-- the N-th day (from nought) of the Gregorian calendar -/
def IsCiv (N y m d : Int) : Prop := 1 ≤ y ∧ 1 ≤ m ∧ m ≤ 12 ∧ 1 ≤ d ∧ d ≤ glen y m ∧ N = gy y + gm y m + d - 1
theorem glZ_iff (y : Int) : (glZ y ∧ y % 4 = 0 ∧ (y % 100 ≠ 0 ∨ y % 400 = 0)) ∨ (¬ glZ y ∧ ¬ (y % 4 = 0 ∧ (y % 100 ≠ 0 ∨ y % 400 = 0))) := by
  by_cases h : glZ y
  · exact .inl ⟨h, h⟩
  · exact .inr ⟨h, h⟩
theorem gy_step (y : Int) : (glZ y ∧ gy (y + 1) = gy y + 366) ∨ (¬ glZ y ∧ gy (y + 1) = gy y + 365) := by
  rcases glZ_iff y with ⟨h1, h2⟩ | ⟨h1, h2⟩
  · refine .inl ⟨h1, ?_⟩; unfold gy; omega
  · refine .inr ⟨h1, ?_⟩; unfold gy; omega
theorem gy_mono {y y' : Int} (h : y ≤ y') : gy y ≤ gy y' := by unfold gy; omega
theorem m_cases {m : Int} (h1 : 1 ≤ m) (h2 : m ≤ 12) : m = 1 ∨ m = 2 ∨ m = 3 ∨ m = 4 ∨ m = 5 ∨ m = 6 ∨ m = 7 ∨ m = 8 ∨ m = 9 ∨ m = 10 ∨ m = 11 ∨ m = 12 := by omega
theorem glen_le (y m : Int) (h1 : 1 ≤ m) (h2 : m ≤ 12) : 28 ≤ glen y m ∧ glen y m ≤ 31 := by
  unfold glen
  by_cases hy : glZ y <;> rcases m_cases h1 h2 with rfl | rfl | rfl | rfl | rfl | rfl | rfl | rfl | rfl | rfl | rfl | rfl <;> simp [hy]
theorem gm_1 (y : Int) : gm y 1 = 0 := by unfold gm; simp
/-- a month's end is the next one's start -/
theorem gm_step (y m : Int) (h1 : 1 ≤ m) (h2 : m ≤ 11) : gm y (m + 1) = gm y m + glen y m := by
  unfold gm glen
  by_cases hy : glZ y <;> rcases m_cases h1 (by omega) with rfl | rfl | rfl | rfl | rfl | rfl | rfl | rfl | rfl | rfl | rfl | rfl <;> simp [hy] <;> omega
theorem gm_end (y : Int) : (glZ y ∧ gm y 12 + glen y 12 = 366) ∨ (¬ glZ y ∧ gm y 12 + glen y 12 = 365) := by
  unfold gm glen
  by_cases hy : glZ y <;> simp [hy]
theorem gm_mono {y m m' : Int} (h1 : 1 ≤ m) (h : m < m') (h2 : m' ≤ 12) : gm y m + glen y m ≤ gm y m' := by
  unfold gm glen
  by_cases hy : glZ y <;> rcases m_cases h1 (by omega) with rfl | rfl | rfl | rfl | rfl | rfl | rfl | rfl | rfl | rfl | rfl | rfl <;> simp [hy] <;> (repeat' split) <;> omega
theorem gm_room {y m d : Int} (h1 : 1 ≤ m) (h2 : m ≤ 12) (h3 : 1 ≤ d) (h4 : d ≤ glen y m) : 0 ≤ gm y m + d - 1 ∧ gm y m + d - 1 ≤ 365 ∧ gy y + gm y m + d - 1 < gy (y + 1) := by
  have e := gm_end y
  have st := gy_step y
  have s1 : 0 ≤ gm y m := by
    rcases Int.lt_or_eq_of_le h1 with h | h
    · have := gm_mono (y := y) (Int.le_refl 1) h h2
      have := gm_1 y
      have := glen_le y 1 (by decide) (by decide)
      omega
    · rw [← h, gm_1]; decide
  have s2 : gm y m + glen y m ≤ gm y 12 + glen y 12 := by
    rcases Int.lt_or_eq_of_le h2 with h | h
    · have := gm_mono (y := y) h1 h (Int.le_refl 12)
      have := glen_le y 12 (by decide) (by decide)
      omega
    · rw [h]; exact Int.le_refl _
  rcases e with ⟨e1, e2⟩ | ⟨e1, e2⟩ <;> rcases st with ⟨f1, f2⟩ | ⟨f1, f2⟩
  · exact ⟨by omega, by omega, by omega⟩
  · exact absurd e1 f1
  · exact absurd f1 e1
  · exact ⟨by omega, by omega, by omega⟩
theorem gy_at {a b c e : Int} (hb : 0 ≤ b ∧ b ≤ 3) (hc : 0 ≤ c ∧ c ≤ 24) (he : 0 ≤ e ∧ e ≤ 3) : gy (a * 400 + b * 100 + c * 4 + e + 1) = 146097 * a + 36524 * b + 1461 * c + 365 * e := by
  unfold gy
  have e1 : (a * 400 + b * 100 + c * 4 + e + 1 - 1) / 4 = 100 * a + 25 * b + c := by omega
  have e2 : (a * 400 + b * 100 + c * 4 + e + 1 - 1) / 100 = 4 * a + b := by omega
  have e3 : (a * 400 + b * 100 + c * 4 + e + 1 - 1) / 400 = a := by omega
  rw [e1, e2, e3]
  omega
theorem gy_at' {Y a b c e : Int} (h : Y = a * 400 + b * 100 + c * 4 + e + 1) (hb : 0 ≤ b ∧ b ≤ 3) (hc : 0 ≤ c ∧ c ≤ 24) (he : 0 ≤ e ∧ e ≤ 3) : gy Y = 146097 * a + 36524 * b + 1461 * c + 365 * e := by
  rw [h]; exact gy_at hb hc he
theorem civ_year {N y m d Y : Int} (h : IsCiv N y m d) (h1 : gy Y ≤ N) (h2 : N < gy (Y + 1)) : y = Y := by
  obtain ⟨c1, c2, c3, c4, c5, c6⟩ := h
  have r := gm_room c2 c3 c4 c5
  rcases Int.lt_trichotomy y Y with h | h | h
  · have := gy_mono (show y + 1 ≤ Y by omega)
    omega
  · exact h
  · have := gy_mono (show Y + 1 ≤ y by omega)
    omega
theorem civ_unique {N y m d y' m' d' : Int} (h : IsCiv N y m d) (h' : IsCiv N y' m' d') : y = y' ∧ m = m' ∧ d = d' := by
  have hy : y = y' := by
    obtain ⟨c1, c2, c3, c4, c5, c6⟩ := h'
    have r := gm_room c2 c3 c4 c5
    exact civ_year h (by omega) (by omega)
  subst hy
  obtain ⟨c1, c2, c3, c4, c5, c6⟩ := h
  obtain ⟨k1, k2, k3, k4, k5, k6⟩ := h'
  have hm : m = m' := by
    rcases Int.lt_trichotomy m m' with h | h | h
    · have := gm_mono (y := y) c2 h k3
      omega
    · exact h
    · have := gm_mono (y := y) k2 h c3
      omega
  subst hm
  exact ⟨rfl, rfl, by omega⟩
/-- the month by the code's own quotient -/
theorem month_of {y m d : Int} (h1 : 1 ≤ m) (h2 : m ≤ 12) (h3 : 1 ≤ d) (h4 : d ≤ glen y m) :
    (glZ y → (gm y m + d - 1 < 59 → ((gm y m + d - 1 + 0) * 12 + 373) / 367 = m) ∧ (59 ≤ gm y m + d - 1 → ((gm y m + d - 1 + 1) * 12 + 373) / 367 = m)) ∧
    (¬ glZ y → (gm y m + d - 1 < 58 → ((gm y m + d - 1 + 0) * 12 + 373) / 367 = m) ∧ (58 ≤ gm y m + d - 1 → ((gm y m + d - 1 + 2) * 12 + 373) / 367 = m)) := by
  unfold glen at h4
  unfold gm
  by_cases hy : glZ y <;> rcases m_cases h1 h2 with rfl | rfl | rfl | rfl | rfl | rfl | rfl | rfl | rfl | rfl | rfl | rfl <;> simp [hy] at h4 ⊢ <;> omega
theorem civ_parts {N y m d a r1 b r2 c r3 e r4 : Int} (h : IsCiv N y m d) (h1 : N = 146097 * a + r1 ∧ 0 ≤ r1 ∧ r1 < 146097) (h2 : r1 = 36524 * b + r2 ∧ 0 ≤ r2 ∧ r2 < 36524)
    (h3 : r2 = 1461 * c + r3 ∧ 0 ≤ r3 ∧ r3 < 1461) (h4 : r3 = 365 * e + r4 ∧ 0 ≤ r4 ∧ r4 < 365) :
    ((b = 4 ∨ e = 4) ∧ y = a * 400 + b * 100 + c * 4 + e) ∨ (b ≠ 4 ∧ e ≠ 4 ∧ y = a * 400 + b * 100 + c * 4 + e + 1) := by
  by_cases hb4 : b = 4
  · have hc : c = 0 ∧ e = 0 ∧ r4 = 0 := by omega
    have k1 := gy_at' (Y := a * 400 + b * 100 + c * 4 + e) (a := a) (b := 3) (c := 24) (e := 3) (by omega) (by omega) (by omega) (by omega)
    have k2 := gy_at' (Y := a * 400 + b * 100 + c * 4 + e + 1) (a := a + 1) (b := 0) (c := 0) (e := 0) (by omega) (by omega) (by omega) (by omega)
    exact .inl ⟨.inl hb4, civ_year h (by omega) (by omega)⟩
  · by_cases he4 : e = 4
    · have k1 := gy_at' (Y := a * 400 + b * 100 + c * 4 + e) (a := a) (b := b) (c := c) (e := 3) (by omega) (by omega) (by omega) (by omega)
      have k2 := gy_at' (Y := a * 400 + b * 100 + c * 4 + e + 1) (a := a) (b := b) (c := c + 1) (e := 0) (by omega) (by omega) (by omega) (by omega)
      exact .inl ⟨.inr he4, civ_year h (by omega) (by omega)⟩
    · have k1 := gy_at (a := a) (b := b) (c := c) (e := e) (by omega) (by omega) (by omega)
      refine .inr ⟨hb4, he4, civ_year h (by omega) ?_⟩
      by_cases q1 : e < 3
      · have k2 := gy_at' (Y := a * 400 + b * 100 + c * 4 + e + 1 + 1) (a := a) (b := b) (c := c) (e := e + 1) (by omega) (by omega) (by omega) (by omega)
        omega
      · by_cases q2 : c < 24
        · have k2 := gy_at' (Y := a * 400 + b * 100 + c * 4 + e + 1 + 1) (a := a) (b := b) (c := c + 1) (e := 0) (by omega) (by omega) (by omega) (by omega)
          omega
        · by_cases q3 : b < 3
          · have k2 := gy_at' (Y := a * 400 + b * 100 + c * 4 + e + 1 + 1) (a := a) (b := b + 1) (c := 0) (e := 0) (by omega) (by omega) (by omega) (by omega)
            omega
          · have k2 := gy_at' (Y := a * 400 + b * 100 + c * 4 + e + 1 + 1) (a := a + 1) (b := 0) (c := 0) (e := 0) (by omega) (by omega) (by omega) (by omega)
            omega
theorem c_legal {w loose mean mg mb} (y m d : Int) (ty tm td : Tok) (b : Bool) (hb : decide (glZ y) = b) (hm : 1 ≤ m ∧ m ≤ 12) (hdd : 1 ≤ d ∧ d ≤ glen y m) :
    CB w loose mean mg mb 57 3 [.int y ty, .int m tm, .int d td] [] (GV fun _ => .bool true) := by
  unfold CB Pg
  k_fill
  k_with_none
  k_with "call ref" => (k_dflt (refine' cb_use (c_isleap _ _ _ ?sb) ?k1 ?k2 ?k3 ?k4 ?k5 ?k6 ?k7 ?k8 ?_; (case sb => with_reducible assumption); (case k1 => k_asm); (case k2 => k_asm); (case k3 => k_asm); (case k4 => k_asm); (case k5 => k_asm); (case k6 => first | exact rfl | assumption); (case k7 => ktr_room); (case k8 => walk_at "units"); intro _ _ _ _ _; (try dsimp only)))
  k_with "mine raise" => (exfalso; walk_at "om")
  have hb2 := hb
  have hq : (m = 2 ∧ d ≤ if b then 29 else 28) ∨ (m ≠ 2 ∧ (m = 4 ∨ m = 6 ∨ m = 9 ∨ m = 11) ∧ d ≤ 30) ∨ (m ≠ 2 ∧ ¬(m = 4 ∨ m = 6 ∨ m = 9 ∨ m = 11) ∧ d ≤ 31) := by
    obtain ⟨h1, h2⟩ := hdd
    unfold glen at h2
    subst hb
    by_cases h3 : m = 2
    · rw [if_pos h3] at h2; refine .inl ⟨h3, ?_⟩; by_cases h4 : glZ y <;> simpa [h4] using h2
    · rw [if_neg h3] at h2
      by_cases h4 : m = 4 ∨ m = 6 ∨ m = 9 ∨ m = 11
      · rw [if_pos h4] at h2; exact .inr (.inl ⟨h3, h4, h2⟩)
      · rw [if_neg h4] at h2; exact .inr (.inr ⟨h3, h4, h2⟩)
  have hd1 := hdd.1
  clear hdd hb2
  cases b
  all_goals (
    simp only [Bool.false_eq_true, ↓reduceIte] at hq
    rcases hq with ⟨hq1, hq2⟩ | ⟨hq1, hq2, hq3⟩ | ⟨hq1, hq2, hq3⟩)
  all_goals (
    intro dp un gd cn cs a ccd cl outer A₀ base h₀ L m' news s Q E B F X N T hk hd hu hret
    refine wpAny_call ?_
    k_dflt (refine' code_def (binds := [(Str.ofString "year", .int y ty), (Str.ofString "month", .int m tm), (Str.ofString "day", .int d td)]) ?k1 ?k2 ?k3 ?k4 ?k5 ?kA ?kF ?kK ?k6 ?k7 ?k8 ?k9 ?kB ?_ ?c2 ?c3 ?c4 ?c5; (case kA => exact rfl); (case kF => exact rfl); (case kK => assumption); (case k1 => k_asm); (case k2 => k_asm); (case k3 => k_asm); (case k4 => k_asm); (case k5 => k_asm); (case k6 => k_is); (case k7 => k_is); (case k8 => ktr_room); (case k9 => first | exact BindsTo.of_eq rfl | exact binds_K (by k_in) rfl (by k_is) rfl rfl rfl); (case c5 => decide); (case kB => exact locs rfl); (case c2 => exact rfl); (case c3 => exact rfl); (case c4 => exact rfl); k_whole; intro g' L' h' FG' F' N' B' X' T'; (simp only [List.reverse_cons, List.reverse_nil, List.nil_append, List.cons_append] at F'); (try dsimp only); (try k_lift B'); (try k_fold))
    k_steps)
  all_goals (
    first
    | (exfalso; walk_at "om")
    | (refine' gv_end (t := 0) hret ?e1 ?e2 rfl
       (case e1 => k_asm)
       (case e2 => walk_at "news")))
/-- leap years counted out by the law -/
def sx (kind past : Int) : Int :=
  if kind = 1 ∧ 14 < past then past / 4 - past / 100 + past / 400 else if kind = 2 ∧ 16 < past then past / 4 - past / 128 else (past + 1) / 4
def agZ (kind y : Int) : Prop :=
  (kind = 0) ∨ (kind = 1 ∧ y < 4001 ∧ (y % 400 < 100 ∨ y % 100 = 0 ∨ 12 < y % 100)) ∨ (kind = 2 ∧ (y < 129 ∨ y % 128 = 0 ∨ 16 < y % 128))
theorem c_sixth {w loose mean mg mb} (kind y : Int) (tk ty : Tok) (b : Bool) (hk3 : kind = 0 ∨ kind = 1 ∨ kind = 2) (hy : 1 ≤ y) (hb : decide (leapZ kind y) = b) : CB w loose mean mg mb 137 1 [.int kind tk, .int y ty] [] (GV fun _ => .bool b) := by
  unfold CB Pg
  k_fill
  subst hb
  rcases hk3 with hk4 | hk4 | hk4
  all_goals (
    intro dp un gd cn cs a ccd cl outer A₀ base h₀ L m' news s Q E B F X N T hk hd hu hret
    refine wpAny_call ?_
    k_dflt (refine' code_def (binds := [(Str.ofString "kind", .int kind tk), (Str.ofString "year", .int y ty)]) ?k1 ?k2 ?k3 ?k4 ?k5 ?kA ?kF ?kK ?k6 ?k7 ?k8 ?k9 ?kB ?_ ?c2 ?c3 ?c4 ?c5; (case kA => exact rfl); (case kF => exact rfl); (case kK => assumption); (case k1 => k_asm); (case k2 => k_asm); (case k3 => k_asm); (case k4 => k_asm); (case k5 => k_asm); (case k6 => k_is); (case k7 => k_is); (case k8 => ktr_room); (case k9 => first | exact BindsTo.of_eq rfl | exact binds_K (by k_in) rfl (by k_is) rfl rfl rfl); (case c5 => decide); (case kB => exact locs rfl); (case c2 => exact rfl); (case c3 => exact rfl); (case c4 => exact rfl); k_whole; intro g' L' h' FG' F' N' B' X' T'; (simp only [List.reverse_cons, List.reverse_nil, List.nil_append, List.cons_append] at F'); (try dsimp only); (try k_lift B'); (try k_fold))
    k_steps)
  all_goals (
    refine' gv_end (t := 0) hret ?e1 ?e2 (bool_end ?_)
    (case e1 => k_asm)
    (case e2 => walk_at "news")
    clear B F X N T hk hd hu hret
    (try simp only [decide_eq_true_eq])
    simp only [beq_iff_eq, bne_iff_ne, leapZ, Bool.false_eq_true, true_and, true_or, false_and, or_false, false_or, iff_false, iff_true, reduceCtorEq]
    row_timed "OM" (first | omega | trace_state))
theorem c_sixths {w loose mean mg mb} (kind p : Int) (tk ty : Tok) (hk3 : kind = 0 ∨ kind = 1 ∨ kind = 2) (hy : 0 ≤ p) : CB w loose mean mg mb 144 1 [.int kind tk, .int p ty] [] (GV fun t => .int (sx kind p) t) := by
  unfold CB Pg
  k_fill
  rcases hk3 with hk4 | hk4 | hk4
  all_goals (
    intro dp un gd cn cs a ccd cl outer A₀ base h₀ L m' news s Q E B F X N T hk hd hu hret
    refine wpAny_call ?_
    k_dflt (refine' code_def (binds := [(Str.ofString "kind", .int kind tk), (Str.ofString "past", .int p ty)]) ?k1 ?k2 ?k3 ?k4 ?k5 ?kA ?kF ?kK ?k6 ?k7 ?k8 ?k9 ?kB ?_ ?c2 ?c3 ?c4 ?c5; (case kA => exact rfl); (case kF => exact rfl); (case kK => assumption); (case k1 => k_asm); (case k2 => k_asm); (case k3 => k_asm); (case k4 => k_asm); (case k5 => k_asm); (case k6 => k_is); (case k7 => k_is); (case k8 => ktr_room); (case k9 => first | exact BindsTo.of_eq rfl | exact binds_K (by k_in) rfl (by k_is) rfl rfl rfl); (case c5 => decide); (case kB => exact locs rfl); (case c2 => exact rfl); (case c3 => exact rfl); (case c4 => exact rfl); k_whole; intro g' L' h' FG' F' N' B' X' T'; (simp only [List.reverse_cons, List.reverse_nil, List.nil_append, List.cons_append] at F'); (try dsimp only); (try k_lift B'); (try k_fold))
    k_steps)
  all_goals (
    refine' gv_end hret ?e1 ?e2 (int_end ?_)
    (case e1 => k_asm)
    (case e2 => walk_at "news")
    clear B F X N T hk hd hu hret
    simp only [sx, true_and, ↓reduceIte]
    row_timed "OM" ((repeat' split) <;> first | omega | trace_state))
theorem c_agreed {w loose mean mg mb} (kind y : Int) (tk ty : Tok) (b : Bool) (hk3 : kind = 0 ∨ kind = 1 ∨ kind = 2) (hb : decide (agZ kind y) = b) : CB w loose mean mg mb 151 1 [.int kind tk, .int y ty] [] (GV fun _ => .bool b) := by
  unfold CB Pg
  k_fill
  subst hb
  rcases hk3 with hk4 | hk4 | hk4
  all_goals (
    intro dp un gd cn cs a ccd cl outer A₀ base h₀ L m' news s Q E B F X N T hk hd hu hret
    refine wpAny_call ?_
    k_dflt (refine' code_def (binds := [(Str.ofString "kind", .int kind tk), (Str.ofString "year", .int y ty)]) ?k1 ?k2 ?k3 ?k4 ?k5 ?kA ?kF ?kK ?k6 ?k7 ?k8 ?k9 ?kB ?_ ?c2 ?c3 ?c4 ?c5; (case kA => exact rfl); (case kF => exact rfl); (case kK => assumption); (case k1 => k_asm); (case k2 => k_asm); (case k3 => k_asm); (case k4 => k_asm); (case k5 => k_asm); (case k6 => k_is); (case k7 => k_is); (case k8 => ktr_room); (case k9 => first | exact BindsTo.of_eq rfl | exact binds_K (by k_in) rfl (by k_is) rfl rfl rfl); (case c5 => decide); (case kB => exact locs rfl); (case c2 => exact rfl); (case c3 => exact rfl); (case c4 => exact rfl); k_whole; intro g' L' h' FG' F' N' B' X' T'; (simp only [List.reverse_cons, List.reverse_nil, List.nil_append, List.cons_append] at F'); (try dsimp only); (try k_lift B'); (try k_fold))
    k_steps)
  all_goals (
    refine' gv_end (t := 0) hret ?e1 ?e2 (bool_end ?_)
    (case e1 => k_asm)
    (case e2 => walk_at "news")
    clear B F X N T hk hd hu hret
    (try simp only [decide_eq_true_eq])
    simp only [beq_iff_eq, bne_iff_ne, agZ, Bool.false_eq_true, true_and, true_or, false_and, or_false, false_or, iff_false, iff_true, reduceCtorEq]
    row_timed "OM" (first | omega | trace_state))
theorem c_midnight {w loose mean mg mb} (n : Int) (tn : Tok) (hn : 1 ≤ n ∧ n ≤ 2000000000) : CB w loose mean mg mb 186 1 [.int n tn] [] (GF (4 * n - 2)) := by
  unfold CB Pg
  k_fill
  (
    intro dp un gd cn cs a ccd cl outer A₀ base h₀ L m' news s Q E B F X N T hk hd hu hret
    refine wpAny_call ?_
    k_dflt (refine' code_def (binds := [(Str.ofString "number", .int n tn)]) ?k1 ?k2 ?k3 ?k4 ?k5 ?kA ?kF ?kK ?k6 ?k7 ?k8 ?k9 ?kB ?_ ?c2 ?c3 ?c4 ?c5; (case kA => exact rfl); (case kF => exact rfl); (case kK => assumption); (case k1 => k_asm); (case k2 => k_asm); (case k3 => k_asm); (case k4 => k_asm); (case k5 => k_asm); (case k6 => k_is); (case k7 => k_is); (case k8 => ktr_room); (case k9 => first | exact BindsTo.of_eq rfl | exact binds_K (by k_in) rfl (by k_is) rfl rfl rfl); (case c5 => decide); (case kB => exact locs rfl); (case c2 => exact rfl); (case c3 => exact rfl); (case c4 => exact rfl); k_whole; intro g' L' h' FG' F' N' B' X' T'; (simp only [List.reverse_cons, List.reverse_nil, List.nil_append, List.cons_append] at F'); (try dsimp only); (try k_lift B'); (try k_fold))
    k_steps)
  all_goals (
    refine' gf_end hret ?e1 ?e2 ?e3 ?_
    (case e3 => with_reducible assumption)
    (case e1 => k_asm)
    (case e2 => walk_at "news")
    clear B F X N T hk hd hu hret
    omega)
theorem c_tog {w loose mean mg mb} (y m d : Int) (ty tm td : Tok) (b : Bool) (hb : decide (glZ y) = b) (hy : 1 ≤ y ∧ y ≤ 2000000) (hm : 1 ≤ m ∧ m ≤ 12) (hd1 : 1 ≤ d) (hd2 : d ≤ glen y m) :
    CB w loose mean mg mb 64 5 [.int y ty, .int m tm, .int d td] [] (GF (6885702 + 4 * (gy y + gm y m + d - 1))) := by
  unfold CB Pg
  k_fill
  k_with_none
  k_with "call ref" => (k_dflt (refine' cb_use (c_isleap _ _ _ ?sb) ?k1 ?k2 ?k3 ?k4 ?k5 ?k6 ?k7 ?k8 ?_; (case sb => with_reducible assumption); (case k1 => k_asm); (case k2 => k_asm); (case k3 => k_asm); (case k4 => k_asm); (case k5 => k_asm); (case k6 => first | exact rfl | assumption); (case k7 => ktr_room); (case k8 => walk_at "units"); intro _ _ _ _ _; (try dsimp only)))
  k_with "call ref" => (k_dflt (refine' cb_use (c_legal _ _ _ _ _ _ _ ?sb ?sm ?sd) ?k1 ?k2 ?k3 ?k4 ?k5 ?k6 ?k7 ?k8 ?_; (case sb => with_reducible assumption); (case sm => walk_at "om"); (case sd => exact ⟨by walk_at "om", by first | with_reducible assumption | omega⟩); (case k1 => k_asm); (case k2 => k_asm); (case k3 => k_asm); (case k4 => k_asm); (case k5 => k_asm); (case k6 => first | exact rfl | assumption); (case k7 => ktr_room); (case k8 => walk_at "units"); intro _ _ _ _ _; (try dsimp only)))
  have h31 : d ≤ 31 := Int.le_trans hd2 (glen_le y m hm.1 hm.2).2
  cases b
  all_goals (
    intro dp un gd cn cs a ccd cl outer A₀ base h₀ L m' news s Q E B F X N T hk hd hu hret
    refine wpAny_call ?_
    k_dflt (refine' code_def (binds := [(Str.ofString "year", .int y ty), (Str.ofString "month", .int m tm), (Str.ofString "day", .int d td)]) ?k1 ?k2 ?k3 ?k4 ?k5 ?kA ?kF ?kK ?k6 ?k7 ?k8 ?k9 ?kB ?_ ?c2 ?c3 ?c4 ?c5; (case kA => exact rfl); (case kF => exact rfl); (case kK => assumption); (case k1 => k_asm); (case k2 => k_asm); (case k3 => k_asm); (case k4 => k_asm); (case k5 => k_asm); (case k6 => k_is); (case k7 => k_is); (case k8 => ktr_room); (case k9 => first | exact BindsTo.of_eq rfl | exact binds_K (by k_in) rfl (by k_is) rfl rfl rfl); (case c5 => decide); (case kB => exact locs rfl); (case c2 => exact rfl); (case c3 => exact rfl); (case c4 => exact rfl); k_whole; intro g' L' h' FG' F' N' B' X' T'; (simp only [List.reverse_cons, List.reverse_nil, List.nil_append, List.cons_append] at F'); (try dsimp only); (try k_lift B'); (try k_fold))
    k_steps)
  all_goals (
    refine' gf_end hret ?e1 ?e2 ?e3 ?_
    (case e3 => with_reducible assumption)
    (case e1 => k_asm)
    (case e2 => walk_at "news")
    clear B F X N T hk hd hu hret
    clear hd2
    have hgl := hb
    first | (replace hgl := of_decide_eq_true hgl) | (replace hgl := of_decide_eq_false hgl)
    simp only [gy, gm, hgl, ↓reduceIte]
    row_timed "OM" ((repeat' split) <;> first | omega | trace_state))
theorem sub_1 {k n : Int} (h : 4 * k = 6885702 + 4 * n - 2) (hn : 0 ≤ n ∧ n ≤ 1000000000) : (4 * k + 2 - 6885702).natAbs < 2 ^ 53 ∧ 0 ≤ 4 * k + 2 ∧ 4 * n = 4 * k + 2 - 6885702 := by omega
theorem sub_2 {k n y m d κ : Int} {R : Prop} (h : 4 * k = 6885702 + 4 * n - 2) (hn : 0 ≤ n ∧ n ≤ 1000000000) (c6 : n = gy y + gm y m + d - 1) (hκ : gm y m + d - 1 = κ) (hg1 : gm y 1 = 0) (hr : 0 ≤ κ ∧ κ ≤ 365 ∧ R) :
    (4 * k + 2 - (6885702 + 4 * (gy y + gm y 1 + 1 - 1))).natAbs < 2 ^ 53 ∧ 0 ≤ 4 * k + 2 ∧ 4 * κ = 4 * k + 2 - (6885702 + 4 * (gy y + gm y 1 + 1 - 1)) := by
  obtain ⟨r1, r2, _⟩ := hr; omega
theorem sub_3 {k n y m d : Int} (h : 4 * k = 6885702 + 4 * n - 2) (hn : 0 ≤ n ∧ n ≤ 1000000000) (c6 : n = gy y + gm y m + d - 1) (c4 : 1 ≤ d) (c5 : d ≤ glen y m) (hg : 28 ≤ glen y m ∧ glen y m ≤ 31) :
    (4 * k + 2 - (6885702 + 4 * (gy y + gm y m + 1 - 1))).natAbs < 2 ^ 53 ∧ 0 ≤ 4 * k + 2 ∧ 4 * (d - 1) = 4 * k + 2 - (6885702 + 4 * (gy y + gm y m + 1 - 1)) := by omega
theorem c_fromg {w loose mean mg mb} (n y m d : Int) (x : UInt64) (tx : Tok) (hc : IsCiv n y m d) (hn : 0 ≤ n ∧ n ≤ 1000000000) (hy2 : y ≤ 2000000) (hx : IsF x (6885702 + 4 * n)) :
    CB w loose mean mg mb 71 8 [.float x tx] [] (GT y m d) := by
  unfold CB Pg
  k_fill
  k_with_none
  k_with "call ref" => (k_dflt (refine' cb_use (c_isleap _ _ _ ?sb) ?k1 ?k2 ?k3 ?k4 ?k5 ?k6 ?k7 ?k8 ?_; (case sb => with_reducible assumption); (case k1 => k_asm); (case k2 => k_asm); (case k3 => k_asm); (case k4 => k_asm); (case k5 => k_asm); (case k6 => first | exact rfl | assumption); (case k7 => ktr_room); (case k8 => walk_at "units"); intro _ _ _ _ _; (try dsimp only)))
  k_with "call ref" => (k_dflt (refine' cb_use (c_tog _ _ _ _ _ _ _ ?sb ?sy ?sm ?sd ?se) ?k1 ?k2 ?k3 ?k4 ?k5 ?k6 ?k7 ?k8 ?_; (case sb => with_reducible assumption); (case sy => walk_at "om"); (case sm => walk_at "om"); (case sd => walk_at "om"); (case se => walk_at "om"); (case k1 => k_asm); (case k2 => k_asm); (case k3 => k_asm); (case k4 => k_asm); (case k5 => k_asm); (case k6 => first | exact rfl | assumption); (case k7 => ktr_room); (case k8 => walk_at "units"); intro _ _ _ _ _ _ _; (try dsimp only)))
  k_with "mine sub" => first | ((with_reducible refine' w_sub_ffK hint1 ?k1 ?k2 ?k3 ?_); (case k1 => walk_at "isf"); (case k2 => walk_at "isf"); (case k3 => ((with_reducible refine' sub_1 ?_ hn); with_reducible assumption)); intro _ _; try dsimp only) | ((with_reducible refine' w_sub_ffK hint2 ?k1 ?k2 ?k3 ?_); (case k1 => walk_at "isf"); (case k2 => walk_at "isf"); (case k3 => ((with_reducible refine' sub_2 ?_ hn c6 hκ hg1 hroom); with_reducible assumption)); intro _ _; try dsimp only) | ((with_reducible refine' w_sub_ffK hint3 ?k1 ?k2 ?k3 ?_); (case k1 => walk_at "isf"); (case k2 => walk_at "isf"); (case k3 => ((with_reducible refine' sub_3 ?_ hn c6 c4 c5 hglm); with_reducible assumption)); intro _ _; try dsimp only)
  k_with "mine dv" => first | exact hA (by omega) | exact hB (by omega)
  obtain ⟨qa, r1, D1, h1⟩ := dv_ex n 146097 (by decide)
  obtain ⟨qb, r2, D2, h2⟩ := dv_ex r1 36524 (by decide)
  obtain ⟨qc, r3, D3, h3⟩ := dv_ex r2 1461 (by decide)
  obtain ⟨qe, r4, D4, h4⟩ := dv_ex r3 365 (by decide)
  have hY := civ_parts hc h1 h2 h3 h4
  obtain ⟨c1, c2, c3, c4, c5, c6⟩ := hc
  have hg1 := gm_1 y
  have hgl1 := glen_le y 1 (by decide) (by decide)
  have hglm := glen_le y m c2 c3
  have hroom := gm_room c2 c3 c4 c5
  have hmon := month_of c2 c3 c4 c5
  have hy12 : 1 ≤ y ∧ y ≤ 2000000 := ⟨c1, hy2⟩
  clear c1 hy2
  generalize hκ : gm y m + d - 1 = κ at hroom hmon
  have hb : decide (glZ y) = decide (glZ y) := rfl
  generalize hbv : decide (glZ y) = bb at hb
  clear hb
  have hm367 : (bb = true → (κ < 59 → Dv ((κ + 0) * 12 + 373) 367 m (((κ + 0) * 12 + 373) % 367)) ∧ (59 ≤ κ → Dv ((κ + 1) * 12 + 373) 367 m (((κ + 1) * 12 + 373) % 367))) ∧
      (bb = false → (κ < 58 → Dv ((κ + 0) * 12 + 373) 367 m (((κ + 0) * 12 + 373) % 367)) ∧ (58 ≤ κ → Dv ((κ + 2) * 12 + 373) 367 m (((κ + 2) * 12 + 373) % 367))) :=
    ⟨fun e => ⟨fun h => ⟨(hmon.1 (of_decide_eq_true (hbv.trans e))).1 h, rfl⟩, fun h => ⟨(hmon.1 (of_decide_eq_true (hbv.trans e))).2 h, rfl⟩⟩,
     fun e => ⟨fun h => ⟨(hmon.2 (of_decide_eq_false (hbv.trans e))).1 h, rfl⟩, fun h => ⟨(hmon.2 (of_decide_eq_false (hbv.trans e))).2 h, rfl⟩⟩⟩
  clear hmon
  have hint1 : Hint n := trivial
  have hint2 : Hint κ := trivial
  have hint3 : Hint (d - 1) := trivial
  rcases hY with ⟨hbe, hY⟩ | ⟨hb4, he4, hY⟩
  all_goals (
    subst hY
    cases bb)
  all_goals (
    first
    | (obtain ⟨hA, hB⟩ := hm367.1 rfl; clear hm367)
    | (obtain ⟨hA, hB⟩ := hm367.2 rfl; clear hm367))
  all_goals (
    intro dp un gd cn cs a ccd cl outer A₀ base h₀ L m' news s Q E B F X N T hk hd hu hret
    refine wpAny_call ?_
    k_dflt (refine' code_def (binds := [(Str.ofString "jd", .float x tx)]) ?k1 ?k2 ?k3 ?k4 ?k5 ?kA ?kF ?kK ?k6 ?k7 ?k8 ?k9 ?kB ?_ ?c2 ?c3 ?c4 ?c5; (case kA => exact rfl); (case kF => exact rfl); (case kK => assumption); (case k1 => k_asm); (case k2 => k_asm); (case k3 => k_asm); (case k4 => k_asm); (case k5 => k_asm); (case k6 => k_is); (case k7 => k_is); (case k8 => ktr_room); (case k9 => first | exact BindsTo.of_eq rfl | exact binds_K (by k_in) rfl (by k_is) rfl rfl rfl); (case c5 => decide); (case kB => exact locs rfl); (case c2 => exact rfl); (case c3 => exact rfl); (case c4 => exact rfl); k_whole; intro g' L' h' FG' F' N' B' X' T'; (simp only [List.reverse_cons, List.reverse_nil, List.nil_append, List.cons_append] at F'); (try dsimp only); (try k_lift B'); (try k_fold))
    k_steps)
  all_goals first
    | (exfalso; omega)
    | (refine' gt_end hret ?e1 ?e2 ?e3 ?e4 ⟨rfl, rfl, ?e5⟩
       (case e1 => k_asm)
       (case e2 => with_reducible assumption)
       (case e3 => k_mem)
       (case e4 => walk_at "sub")
       (case e5 => omega))
/-- the day behind a date -/
noncomputable def onY (kind y m d : Int) : Int := if m < 13 then y else if d < (if leapZ kind y then 6 else 5) then y else y + 1
noncomputable def onM (kind y m d : Int) : Int := if m < 13 then (if d < 30 then m else m + 1) else if d < (if leapZ kind y then 6 else 5) then m else 1
noncomputable def onD (kind y m d : Int) : Int := if m < 13 then (if d < 30 then d + 1 else 1) else if d < (if leapZ kind y then 6 else 5) then d + 1 else 1
theorem c_onward {w loose mean mg mb} (kind y m d : Int) (bw : Addr) (tk t1 t2 t3 : Tok) (nw : Nat) (b : Bool) (hk3 : kind = 0 ∨ kind = 1 ∨ kind = 2) (hy : 1 ≤ y) (hb : decide (leapZ kind y) = b) :
    CB w loose mean mg mb 158 3 [.int kind tk, .ref bw] [] (GTm bw (tup3 y m d t1 t2 t3 nw) (onY kind y m d) (onM kind y m d) (onD kind y m d)) := by
  unfold CB Pg
  k_fill
  k_with_none
  k_with "call ref" => (k_dflt (refine' cb_use (c_sixth _ _ _ _ _ ?s3 ?sy ?sb) ?k1 ?k2 ?k3 ?k4 ?k5 ?k6 ?k7 ?k8 ?_; (case s3 => with_reducible assumption); (case sy => walk_at "om"); (case sb => with_reducible assumption); (case k1 => k_asm); (case k2 => k_asm); (case k3 => k_asm); (case k4 => k_asm); (case k5 => k_asm); (case k6 => first | exact rfl | assumption); (case k7 => ktr_room); (case k8 => walk_at "units"); intro _ _ _ _ _; (try dsimp only)))
  cases b
  all_goals (
    have hgl := hb
    first | (replace hgl := of_decide_eq_true hgl) | (replace hgl := of_decide_eq_false hgl)
    intro dp un gd cn cs a ccd cl outer A₀ base h₀ L m' news s Q E B F X N T hk hd hu hret
    obtain ⟨hmem, hret⟩ := hret
    refine wpAny_call ?_
    k_dflt (refine' code_def (binds := [(Str.ofString "kind", .int kind tk), (Str.ofString "when", .ref bw)]) ?k1 ?k2 ?k3 ?k4 ?k5 ?kA ?kF ?kK ?k6 ?k7 ?k8 ?k9 ?kB ?_ ?c2 ?c3 ?c4 ?c5; (case kA => exact rfl); (case kF => exact rfl); (case kK => assumption); (case k1 => k_asm); (case k2 => k_asm); (case k3 => k_asm); (case k4 => k_asm); (case k5 => k_asm); (case k6 => k_is); (case k7 => k_is); (case k8 => ktr_room); (case k9 => first | exact BindsTo.of_eq rfl | exact binds_K (by k_in) rfl (by k_is) rfl rfl rfl); (case c5 => decide); (case kB => exact locs rfl); (case c2 => exact rfl); (case c3 => exact rfl); (case c4 => exact rfl); k_whole; intro g' L' h' FG' F' N' B' X' T'; (simp only [List.reverse_cons, List.reverse_nil, List.nil_append, List.cons_append] at F'); (try dsimp only); (try k_lift B'); (try k_fold))
    k_steps)
  all_goals (
    refine' gt_end hret ?e1 ?e2 ?e3 ?e4 ?e5
    (case e1 => k_asm)
    (case e2 => with_reducible assumption)
    (case e3 => k_mem)
    (case e4 => walk_at "sub")
    (case e5 => (clear B F X N T hk hd hu hret; simp only [onY, onM, onD, hgl, ↓reduceIte]; refine ⟨?_, ?_, ?_⟩ <;> (first | omega | ((repeat' split) <;> omega)))))
theorem c_length {w loose mean mg mb} (y m : Int) (ty tm : Tok) (hm : 1 ≤ m ∧ m ≤ 12) : CB w loose mean mg mb 165 1 [.int y ty, .int m tm] [] (GV fun t => .int (glen y m) t) := by
  unfold CB Pg
  k_fill
  k_with_none
  (
    intro dp un gd cn cs a ccd cl outer A₀ base h₀ L m' news s Q E B F X N T hk hd hu hret
    refine wpAny_call ?_
    k_dflt (refine' code_def (binds := [(Str.ofString "year", .int y ty), (Str.ofString "month", .int m tm)]) ?k1 ?k2 ?k3 ?k4 ?k5 ?kA ?kF ?kK ?k6 ?k7 ?k8 ?k9 ?kB ?_ ?c2 ?c3 ?c4 ?c5; (case kA => exact rfl); (case kF => exact rfl); (case kK => assumption); (case k1 => k_asm); (case k2 => k_asm); (case k3 => k_asm); (case k4 => k_asm); (case k5 => k_asm); (case k6 => k_is); (case k7 => k_is); (case k8 => ktr_room); (case k9 => first | exact BindsTo.of_eq rfl | exact binds_K (by k_in) rfl (by k_is) rfl rfl rfl); (case c5 => decide); (case kB => exact locs rfl); (case c2 => exact rfl); (case c3 => exact rfl); (case c4 => exact rfl); k_whole; intro g' L' h' FG' F' N' B' X' T'; (simp only [List.reverse_cons, List.reverse_nil, List.nil_append, List.cons_append] at F'); (try dsimp only); (try k_lift B'); (try k_fold))
    k_steps)
  all_goals (
    refine' gv_end hret ?e1 ?e2 (int_end ?_)
    (case e1 => k_asm)
    (case e2 => walk_at "news")
    clear B F X N T hk hd hu hret
    simp only [glen, glZ, szAt]
    row_timed "OM" ((repeat' split) <;> first | omega | trace_state))
theorem civ_next {N y m d : Int} (h : IsCiv N y m d) : (d < glen y m ∧ IsCiv (N + 1) y m (d + 1)) ∨ (¬ d < glen y m ∧ m < 12 ∧ IsCiv (N + 1) y (m + 1) 1) ∨ (¬ d < glen y m ∧ ¬ m < 12 ∧ IsCiv (N + 1) (y + 1) 1 1) := by
  obtain ⟨c1, c2, c3, c4, c5, c6⟩ := h
  by_cases h1 : d < glen y m
  · exact .inl ⟨h1, c1, c2, c3, by omega, by omega, by omega⟩
  · by_cases h2 : m < 12
    · have e := gm_step y m c2 (by omega)
      have l := glen_le y (m + 1) (by omega) (by omega)
      exact .inr (.inl ⟨h1, h2, c1, by omega, by omega, by omega, by omega, by omega⟩)
    · have e12 : m = 12 := by omega
      subst e12
      have e := gm_end y
      have st := gy_step y
      have g1 := gm_1 (y + 1)
      have l := glen_le (y + 1) 1 (by omega) (by omega)
      have k : gy (y + 1) = gy y + (gm y 12 + glen y 12) := by
        rcases e with ⟨e1, e2⟩ | ⟨e1, e2⟩ <;> rcases st with ⟨f1, f2⟩ | ⟨f1, f2⟩
        · omega
        · exact absurd e1 f1
        · exact absurd f1 e1
        · omega
      exact .inr (.inr ⟨h1, h2, by omega, by omega, by omega, by omega, by omega, by omega⟩)
theorem c_morrow {w loose mean mg mb} (N y m d y' m' d' : Int) (bw : Addr) (t1 t2 t3 : Tok) (nw : Nat) (hc : IsCiv N y m d) (hc' : IsCiv (N + 1) y' m' d') :
    CB w loose mean mg mb 179 3 [.ref bw] [] (GTm bw (tup3 y m d t1 t2 t3 nw) y' m' d') := by
  unfold CB Pg
  k_fill
  k_with_none
  k_with "call ref" => (k_dflt (refine' cb_use (c_length _ _ _ _ ?sm) ?k1 ?k2 ?k3 ?k4 ?k5 ?k6 ?k7 ?k8 ?_; (case sm => walk_at "om"); (case k1 => k_asm); (case k2 => k_asm); (case k3 => k_asm); (case k4 => k_asm); (case k5 => k_asm); (case k6 => first | exact rfl | assumption); (case k7 => ktr_room); (case k8 => walk_at "units"); intro _ _ _ _ _; (try dsimp only)))
  have hm12 : 1 ≤ m ∧ m ≤ 12 := ⟨hc.2.1, hc.2.2.1⟩
  rcases civ_next hc with ⟨q1, q2⟩ | ⟨q1, q3, q2⟩ | ⟨q1, q3, q2⟩
  all_goals (
    obtain ⟨rfl, rfl, rfl⟩ := civ_unique q2 hc'
    clear hc hc' q2
    intro dp un gd cn cs a ccd cl outer A₀ base h₀ L m' news s Q E B F X N T hk hd hu hret
    obtain ⟨hmem, hret⟩ := hret
    refine wpAny_call ?_
    k_dflt (refine' code_def (binds := [(Str.ofString "civil", .ref bw)]) ?k1 ?k2 ?k3 ?k4 ?k5 ?kA ?kF ?kK ?k6 ?k7 ?k8 ?k9 ?kB ?_ ?c2 ?c3 ?c4 ?c5; (case kA => exact rfl); (case kF => exact rfl); (case kK => assumption); (case k1 => k_asm); (case k2 => k_asm); (case k3 => k_asm); (case k4 => k_asm); (case k5 => k_asm); (case k6 => k_is); (case k7 => k_is); (case k8 => ktr_room); (case k9 => first | exact BindsTo.of_eq rfl | exact binds_K (by k_in) rfl (by k_is) rfl rfl rfl); (case c5 => decide); (case kB => exact locs rfl); (case c2 => exact rfl); (case c3 => exact rfl); (case c4 => exact rfl); k_whole; intro g' L' h' FG' F' N' B' X' T'; (simp only [List.reverse_cons, List.reverse_nil, List.nil_append, List.cons_append] at F'); (try dsimp only); (try k_lift B'); (try k_fold))
    k_steps)
  all_goals (
    refine' gt_end hret ?e1 ?e2 ?e3 ?e4 ?e5
    (case e1 => k_asm)
    (case e2 => with_reducible assumption)
    (case e3 => k_mem)
    (case e4 => walk_at "sub")
    (case e5 => exact ⟨rfl, rfl, rfl⟩))
theorem c_togreg {w loose mean mg mb} (kind y m d n cy cm cd' : Int) (v : Value) (ty tm td : Tok) (b : Bool) (hv : Way kind v) (hb : decide (leapZ kind y) = b) (hy : 1 ≤ y ∧ y ≤ 2000000) (hm : 1 ≤ m ∧ m ≤ 13) (hdd : 1 ≤ d ∧ d ≤ 30) (h13 : m ≠ 13 ∨ d ≤ if b then 6 else 5)
    (hN : toQ kind y m d = 6885702 + 4 * n) (hc : IsCiv n cy cm cd') (hn : 0 ≤ n ∧ n ≤ 1000000000) (hy2 : cy ≤ 2000000) :
    CB w loose mean mg mb 125 10 [.int y ty, .int m tm, .int d td, v] [] (GT cy cm cd') := by
  unfold CB Pg
  k_fill
  k_with_none
  k_with "call ref" => (k_dflt (refine' cb_use (c_toK _ _ _ _ _ _ _ _ _ ?sw ?sb ?sy ?sm ?sd ?s13) ?k1 ?k2 ?k3 ?k4 ?k5 ?k6 ?k7 ?k8 ?_; (case sw => with_reducible assumption); (case sb => with_reducible assumption); (case sy => walk_at "om"); (case sm => walk_at "om"); (case sd => walk_at "om"); (case s13 => with_reducible assumption); (case k1 => k_asm); (case k2 => k_asm); (case k3 => k_asm); (case k4 => k_asm); (case k5 => k_asm); (case k6 => first | exact rfl | assumption); (case k7 => ktr_room); (case k8 => walk_at "units"); intro _ _ _ _ _ _ _; (try dsimp only)))
  k_with "call ref" => (k_dflt (refine' cb_use (c_fromg n _ _ _ _ _ hc hn hy2 ?sx) ?k1 ?k2 ?k3 ?k4 ?k5 ?k6 ?k7 ?k8 ?_; (case sx => (rw [← hN]; with_reducible assumption)); (case k1 => k_asm); (case k2 => k_asm); (case k3 => k_asm); (case k4 => k_asm); (case k5 => k_asm); (case k6 => first | exact rfl | assumption); (case k7 => ktr_room); (case k8 => walk_at "units"); intro _ _ _ _ _ _ _ _ _; (try dsimp only)))
  (
    intro dp un gd cn cs a ccd cl outer A₀ base h₀ L m' news s Q E B F X N T hk hd hu hret
    refine wpAny_call ?_
    k_dflt (refine' code_def (binds := [(Str.ofString "an", .int y ty), (Str.ofString "mois", .int m tm), (Str.ofString "jour", .int d td), (Str.ofString "method", v)]) ?k1 ?k2 ?k3 ?k4 ?k5 ?kA ?kF ?kK ?k6 ?k7 ?k8 ?k9 ?kB ?_ ?c2 ?c3 ?c4 ?c5; (case kA => exact rfl); (case kF => exact rfl); (case kK => assumption); (case k1 => k_asm); (case k2 => k_asm); (case k3 => k_asm); (case k4 => k_asm); (case k5 => k_asm); (case k6 => k_is); (case k7 => k_is); (case k8 => ktr_room); (case k9 => first | exact BindsTo.of_eq rfl | exact binds_K (by k_in) rfl (by k_is) rfl rfl rfl); (case c5 => decide); (case kB => exact locs rfl); (case c2 => exact rfl); (case c3 => exact rfl); (case c4 => exact rfl); k_whole; intro g' L' h' FG' F' N' B' X' T'; (simp only [List.reverse_cons, List.reverse_nil, List.nil_append, List.cons_append] at F'); (try dsimp only); (try k_lift B'); (try k_fold))
    k_steps)
  all_goals (
    refine' gt_end hret ?e1 ?e2 ?e3 ?e4 ⟨rfl, rfl, rfl⟩
    (case e1 => k_asm)
    (case e2 => with_reducible assumption)
    (case e3 => k_mem)
    (case e4 => walk_at "sub"))
theorem c_fromgreg {w loose mean mg mb} (kind y m d n : Int) (v : Value) (ty tm td : Tok) (hv : Way kind v) (hc : IsCiv (654414 + n) y m d) (hn : 0 ≤ n ∧ n ≤ 1000000000) (hy2 : y ≤ 2000000) :
    CB w loose mean mg mb 117 10 [.int y ty, .int m tm, .int d td, v] [] (GT (fy kind n) (fd kind n / 30 + 1) (fd kind n % 30 + 1)) := by
  unfold CB Pg
  k_fill
  k_with_none
  obtain ⟨c1, c2, c3, c4, c5, c6⟩ := hc
  k_with "call ref" => (k_dflt (refine' cb_use (c_tog _ _ _ _ _ _ _ ?sb ?sy ?sm ?sd ?se) ?k1 ?k2 ?k3 ?k4 ?k5 ?k6 ?k7 ?k8 ?_; (case sb => exact rfl); (case sy => walk_at "om"); (case sm => walk_at "om"); (case sd => walk_at "om"); (case se => with_reducible assumption); (case k1 => k_asm); (case k2 => k_asm); (case k3 => k_asm); (case k4 => k_asm); (case k5 => k_asm); (case k6 => first | exact rfl | assumption); (case k7 => ktr_room); (case k8 => walk_at "units"); intro _ _ _ _ _ _ _; (try dsimp only)))
  k_with "call ref" => (k_dflt (refine' cb_use (c_fromK _ n 0 _ _ _ ?sw ?sx hn (by decide)) ?k1 ?k2 ?k3 ?k4 ?k5 ?k6 ?k7 ?k8 ?_; (case sw => with_reducible assumption); (case sx => (rw [show 9503358 + 4 * n + 0 = 6885702 + 4 * (gy y + gm y m + d - 1) by omega]; with_reducible assumption)); (case k1 => k_asm); (case k2 => k_asm); (case k3 => k_asm); (case k4 => k_asm); (case k5 => k_asm); (case k6 => first | exact rfl | assumption); (case k7 => ktr_room); (case k8 => walk_at "units"); intro _ _ _ _ _ _ _ _ _; (try dsimp only)))
  (
    intro dp un gd cn cs a ccd cl outer A₀ base h₀ L m' news s Q E B F X N T hk hd hu hret
    refine wpAny_call ?_
    k_dflt (refine' code_def (binds := [(Str.ofString "year", .int y ty), (Str.ofString "month", .int m tm), (Str.ofString "day", .int d td), (Str.ofString "method", v)]) ?k1 ?k2 ?k3 ?k4 ?k5 ?kA ?kF ?kK ?k6 ?k7 ?k8 ?k9 ?kB ?_ ?c2 ?c3 ?c4 ?c5; (case kA => exact rfl); (case kF => exact rfl); (case kK => assumption); (case k1 => k_asm); (case k2 => k_asm); (case k3 => k_asm); (case k4 => k_asm); (case k5 => k_asm); (case k6 => k_is); (case k7 => k_is); (case k8 => ktr_room); (case k9 => first | exact BindsTo.of_eq rfl | exact binds_K (by k_in) rfl (by k_is) rfl rfl rfl); (case c5 => decide); (case kB => exact locs rfl); (case c2 => exact rfl); (case c3 => exact rfl); (case c4 => exact rfl); k_whole; intro g' L' h' FG' F' N' B' X' T'; (simp only [List.reverse_cons, List.reverse_nil, List.nil_append, List.cons_append] at F'); (try dsimp only); (try k_lift B'); (try k_fold))
    k_steps)
  all_goals (
    refine' gt_end hret ?e1 ?e2 ?e3 ?e4 ⟨rfl, rfl, rfl⟩
    (case e1 => k_asm)
    (case e2 => with_reducible assumption)
    (case e3 => k_mem)
    (case e4 => walk_at "sub"))
theorem c_whole {w loose mean mg mb} (bw : Addr) (x y z : Int) (t1 t2 t3 : Tok) (nw : Nat) : CB w loose mean mg mb 191 10 [.ref bw] [] (GVm bw (tup3 x y z t1 t2 t3 nw) (fun _ => .bool true)) := by
  unfold CB Pg
  k_fill
  k_with_none
  k_with "mine comp" => (k_dflt (refine' comp_tup (by with_unfolding_all rfl) (by decide) (by rfl) (by decide) (by rfl) ?h1 ?F ?N ?m ?z ?hy ?h; (case h1 => exact rfl); (case F => k_asm); (case N => k_asm); (case m => k_mem); (case z => exact Nat.le_of_ble_eq_true rfl); (case hy => (intro Q9 hq9; walk1; exact hq9)); intro g'; lct_lit))
  (
    intro dp un gd cn cs a ccd cl outer A₀ base h₀ L m' news s Q E B F X N T hk hd hu hret
    obtain ⟨hmem, hret⟩ := hret
    refine wpAny_call ?_
    k_dflt (refine' code_def (binds := [(Str.ofString "numbers", .ref bw)]) ?k1 ?k2 ?k3 ?k4 ?k5 ?kA ?kF ?kK ?k6 ?k7 ?k8 ?k9 ?kB ?_ ?c2 ?c3 ?c4 ?c5; (case kA => exact rfl); (case kF => exact rfl); (case kK => assumption); (case k1 => k_asm); (case k2 => k_asm); (case k3 => k_asm); (case k4 => k_asm); (case k5 => k_asm); (case k6 => k_is); (case k7 => k_is); (case k8 => ktr_room); (case k9 => first | exact BindsTo.of_eq rfl | exact binds_K (by k_in) rfl (by k_is) rfl rfl rfl); (case c5 => decide); (case kB => exact locs rfl); (case c2 => exact rfl); (case c3 => exact rfl); (case c4 => exact rfl); k_whole; intro g' L' h' FG' F' N' B' X' T'; (simp only [List.reverse_cons, List.reverse_nil, List.nil_append, List.cons_append] at F'); (try dsimp only); (try k_lift B'); (try k_fold))
    k_steps)
  all_goals (
    refine' gv_end (t := 0) hret ?e1 ?e2 rfl
    (case e1 => k_asm)
    (case e2 => walk_at "news"))
theorem glen2 (y : Int) : (glen y 2 = 29 ∧ y % 4 = 0 ∧ (y % 100 ≠ 0 ∨ y % 400 = 0)) ∨ (glen y 2 = 28 ∧ ¬ (y % 4 = 0 ∧ (y % 100 ≠ 0 ∨ y % 400 = 0))) := by
  unfold glen
  rcases glZ_iff y with ⟨h1, h2⟩ | ⟨h1, h2⟩ <;> simp only [h1, ↓reduceIte] <;> simp only [true_and, false_or, or_false] <;> omega
/-- the year where the law's own walk comes to rest -/
theorem civ_at {n y m d c1 y1 z1 c2 y2 z2 c3 y3 z3 w r : Int} (hc : IsCiv n y m d) (hw : n = 146097 * w + r ∧ 0 ≤ r ∧ r < 146097 ∧ n / 146097 = w ∧ n % 146097 = r)
    (h1 : z1 = n.fdiv 146097 ∧ (y1 - 400 * (n / 146097) - 1) % 100 = 0 ∧ 0 ≤ y1 - 400 * (n / 146097) - 1 ∧ y1 - 400 * (n / 146097) - 1 ≤ 300 ∧ 100 * c1 = 100 * (n % 146097) - 36524 * (y1 - 400 * (n / 146097) - 1) ∧ 0 ≤ c1)
    (h2 : z2 = n.fdiv 146097 ∧ (y2 - y1) % 4 = 0 ∧ 0 ≤ y2 - y1 ∧ y2 - y1 ≤ 96 ∧ 4 * c2 = 4 * c1 - 1461 * (y2 - y1) ∧ 0 ≤ c2)
    (h3 : z3 = n.fdiv 146097 ∧ 0 ≤ y3 - y2 ∧ y3 - y2 ≤ 3 ∧ c3 = c2 - 365 * (y3 - y2) ∧ 0 ≤ c3)
    (e1 : c1 < 36525 ∧ (y1 % 400 = 301 ∨ c1 < 36524)) (e2 : c2 < 1461) (e3 : c3 < 337 + glen y3 2) : y = y3 ∧ c3 = n - gy y3 := by
  obtain ⟨w0, w1, w2, w3, w4⟩ := hw
  rw [w3] at h1
  rw [w4] at h1
  obtain ⟨i, hi⟩ : ∃ i, y1 - 400 * w - 1 = 100 * i := ⟨(y1 - 400 * w - 1) / 100, by omega⟩
  obtain ⟨j, hj⟩ : ∃ j, y2 - y1 = 4 * j := ⟨(y2 - y1) / 4, by omega⟩
  obtain ⟨k, hk⟩ : ∃ k, y3 - y2 = k := ⟨_, rfl⟩
  have g := gy_at' (Y := y3) (a := w) (b := i) (c := j) (e := k) (by omega) (by omega) (by omega) (by omega)
  have st := gy_step y3
  have g2 := glen2 y3
  refine ⟨civ_year hc (by omega) ?_, by omega⟩
  rcases st with ⟨s1, s2⟩ | ⟨s1, s2⟩
  · rcases glZ_iff y3 with ⟨t1, t2⟩ | ⟨t1, t2⟩
    · omega
    · exact absurd s1 t1
  · rcases glZ_iff y3 with ⟨t1, t2⟩ | ⟨t1, t2⟩
    · exact absurd t1 s1
    · omega
theorem mon_at {n y m d M : Int} (hc : IsCiv n y m d) (h1 : 1 ≤ M) (h2 : M ≤ 12) : (M ≤ 11 ∧ gm y (M + 1) = gm y M + glen y M) ∨ (M = 12 ∧ n - gy y < gm y M + glen y M) := by
  by_cases h : M ≤ 11
  · exact .inl ⟨h, gm_step y M h1 h⟩
  · have e : M = 12 := by omega
    subst e
    refine .inr ⟨rfl, ?_⟩
    obtain ⟨c1, c2, c3, c4, c5, c6⟩ := hc
    have r := gm_room c2 c3 c4 c5
    rcases gm_end y with ⟨e1, e2⟩ | ⟨e1, e2⟩ <;> rcases gy_step y with ⟨f1, f2⟩ | ⟨f1, f2⟩
    · omega
    · exact absurd e1 f1
    · exact absurd f1 e1
    · omega
theorem c_civil {w0 loose mean mg mb} (n y m d : Int) (tn : Tok) (hc : IsCiv n y m d) (hn : 0 ≤ n ∧ n ≤ 2000000000) : CB w0 loose mean mg mb 172 3 [.int n tn] [] (GT y m d) := by
  unfold CB Pg
  k_fill
  k_with_none
  obtain ⟨w, r, hw⟩ : ∃ w r, n = 146097 * w + r ∧ 0 ≤ r ∧ r < 146097 ∧ n / 146097 = w ∧ n % 146097 = r := ⟨n / 146097, n % 146097, by omega, by omega, by omega, rfl, rfl⟩
  have hf1 : n.fdiv 146097 = n / 146097 := Int.fdiv_eq_ediv_of_nonneg _ (by decide)
  have hf2 : n.fmod 146097 = n % 146097 := Int.fmod_eq_emod_of_nonneg _ (by decide)
  have hg1 := gm_1 y
  have hl1 : glen y 1 = 31 := by unfold glen; simp
  have hbnd : gy y ≤ n := by
    obtain ⟨c1, c2, c3, c4, c5, c6⟩ := hc
    have := gm_room c2 c3 c4 c5
    omega
  k_with "call ref" => (k_dflt (refine' cb_use (c_length _ _ _ _ ?sm) ?k1 ?k2 ?k3 ?k4 ?k5 ?k6 ?k7 ?k8 ?_; (case sm => walk_at "om"); (case k1 => k_asm); (case k2 => k_asm); (case k3 => k_asm); (case k4 => k_asm); (case k5 => k_asm); (case k6 => first | exact rfl | assumption); (case k7 => ktr_room); (case k8 => walk_at "units"); intro _ _ _ _ _; (try dsimp only)))
  k_with "mine while" => (k_dflt first
    | ((obtain ⟨hy3, hc3⟩ := civ_at hc hw hI1 hI2 hI3 (by omega) (by omega) (by omega)); subst hy3; ((refine' while3 (Str.ofString "count") (Str.ofString "month") (Str.ofString "size") (fun c M z => 1 ≤ M ∧ M ≤ 12 ∧ z = glen y M ∧ c = n - gy y - gm y M ∧ 0 ≤ c) (fun _ M _ => (12 - M).toNat) ?Fw4 ?Nw4 ?hAw4 ?hBw4 ?hCw4 ?hIw4 ?_ ?hEw4); (case Fw4 => k_asm); (case Nw4 => k_asm); (case hAw4 => ((try dsimp only); walk_at "look")); (case hBw4 => ((try dsimp only); walk_at "look")); (case hCw4 => ((try dsimp only); walk_at "look")); (case hIw4 => ((try dsimp only); walk_at "om")); (case hEw4 => passes_own); intro c4 M4 z4 _ _ _ _ _ hI4 _ _; (try dsimp only at hI4); (try dsimp only); (have hs4 := mon_at hc hI4.1 hI4.2.1)))
    | (((refine' while3 (Str.ofString "count") (Str.ofString "year") (Str.ofString "whole") (fun c y z => z = n.fdiv 146097 ∧ 0 ≤ y - y2 ∧ y - y2 ≤ 3 ∧ c = c2 - 365 * (y - y2) ∧ 0 ≤ c) (fun c _ _ => c.toNat) ?Fw3 ?Nw3 ?hAw3 ?hBw3 ?hCw3 ?hIw3 ?_ ?hEw3); (case Fw3 => k_asm); (case Nw3 => k_asm); (case hAw3 => ((try dsimp only); walk_at "look")); (case hBw3 => ((try dsimp only); walk_at "look")); (case hCw3 => ((try dsimp only); walk_at "look")); (case hIw3 => ((try dsimp only); walk_at "om")); (case hEw3 => passes_own); intro c3 y3 z3 _ _ _ _ _ hI3 _ _; (try dsimp only at hI3); (try dsimp only); have hg3 := glen2 y3))
    | (((refine' while3 (Str.ofString "count") (Str.ofString "year") (Str.ofString "whole") (fun c y z => z = n.fdiv 146097 ∧ (y - y1) % 4 = 0 ∧ 0 ≤ y - y1 ∧ y - y1 ≤ 96 ∧ 4 * c = 4 * c1 - 1461 * (y - y1) ∧ 0 ≤ c) (fun c _ _ => c.toNat) ?Fw2 ?Nw2 ?hAw2 ?hBw2 ?hCw2 ?hIw2 ?_ ?hEw2); (case Fw2 => k_asm); (case Nw2 => k_asm); (case hAw2 => ((try dsimp only); walk_at "look")); (case hBw2 => ((try dsimp only); walk_at "look")); (case hCw2 => ((try dsimp only); walk_at "look")); (case hIw2 => ((try dsimp only); walk_at "om")); (case hEw2 => passes_own); intro c2 y2 z2 _ _ _ _ _ hI2 _ _; (try dsimp only at hI2); (try dsimp only); skip))
    | (((refine' while3 (Str.ofString "count") (Str.ofString "year") (Str.ofString "whole") (fun c y z => z = n.fdiv 146097 ∧ (y - 400 * (n / 146097) - 1) % 100 = 0 ∧ 0 ≤ y - 400 * (n / 146097) - 1 ∧ y - 400 * (n / 146097) - 1 ≤ 300 ∧ 100 * c = 100 * (n % 146097) - 36524 * (y - 400 * (n / 146097) - 1) ∧ 0 ≤ c) (fun c _ _ => c.toNat) ?Fw1 ?Nw1 ?hAw1 ?hBw1 ?hCw1 ?hIw1 ?_ ?hEw1); (case Fw1 => k_asm); (case Nw1 => k_asm); (case hAw1 => ((try dsimp only); walk_at "look")); (case hBw1 => ((try dsimp only); walk_at "look")); (case hCw1 => ((try dsimp only); walk_at "look")); (case hIw1 => ((try dsimp only); walk_at "om")); (case hEw1 => passes_own); intro c1 y1 z1 _ _ _ _ _ hI1 _ _; (try dsimp only at hI1); (try dsimp only); skip)))
  (
    intro dp un gd cn cs a ccd cl outer A₀ base h₀ L m' news s Q E B F X N T hk hd hu hret
    refine wpAny_call ?_
    k_dflt (refine' code_def (binds := [(Str.ofString "count", .int n tn)]) ?k1 ?k2 ?k3 ?k4 ?k5 ?kA ?kF ?kK ?k6 ?k7 ?k8 ?k9 ?kB ?_ ?c2 ?c3 ?c4 ?c5; (case kA => exact rfl); (case kF => exact rfl); (case kK => assumption); (case k1 => k_asm); (case k2 => k_asm); (case k3 => k_asm); (case k4 => k_asm); (case k5 => k_asm); (case k6 => k_is); (case k7 => k_is); (case k8 => ktr_room); (case k9 => first | exact BindsTo.of_eq rfl | exact binds_K (by k_in) rfl (by k_is) rfl rfl rfl); (case c5 => decide); (case kB => exact locs rfl); (case c2 => exact rfl); (case c3 => exact rfl); (case c4 => exact rfl); k_whole; intro g' L' h' FG' F' N' B' X' T'; (simp only [List.reverse_cons, List.reverse_nil, List.nil_append, List.cons_append] at F'); (try dsimp only); (try k_lift B'); (try k_fold))
    k_steps)
  all_goals first
    | (refine' w3_end ?F ?N ?h1 ?h2 ?h3 ?h4 ?hI ?hμ
       (case F => k_asm)
       (case N => walk_at "news")
       (case h1 => ((try dsimp only); walk_at "look"))
       (case h2 => ((try dsimp only); walk_at "look"))
       (case h3 => ((try dsimp only); walk_at "look"))
       (case h4 => (intro z9 k1 k2 k3; simp only [k1, k2, k3, ↓reduceIte]))
       (case hI => ((try dsimp only); first | omega | (rcases hs4 with ⟨q1, q2⟩ | ⟨q1, q2⟩ <;> first | (exfalso; omega) | (refine ⟨by omega, by omega, rfl, by omega, by omega⟩))))
       (case hμ => ((try dsimp only); omega)))
    | (have hcc : IsCiv n y M4 (c4 + 1) := ⟨hc.1, by omega, by omega, by omega, by omega, by omega⟩
       obtain ⟨_, rfl, rfl⟩ := civ_unique hcc hc
       refine' gt_end hret ?e1 ?e2 ?e3 ?e4 ⟨rfl, rfl, rfl⟩
       (case e1 => k_asm)
       (case e2 => with_reducible assumption)
       (case e3 => k_mem)
       (case e4 => walk_at "sub"))
    | (set_option pp.maxSteps 2000 in trace_state)
/-- as CB, of a def that catches: the caller's ground is another one behind it, but for the slots of the frames' dicts -/
abbrev CBS (w : World) (loose : List Str) (mean : ExcName → Option Value) (mg mb : Str → Option Value) (f : Addr) (n : Nat) (vs : List Value) (b : Bool) : Prop :=
  ∀ (dp un : Nat) (gd : Option (List Code)) (cn : Str) (cs : Scope) (a : Addr) (ccd : Value) (outer : List Env) (A₀ : Around) (base h₀ g₀ : Heap) (L : Addr) (m : Str → Option Value) (news : List (Addr × Obj)) (s : Shared) (Q E : Value → Shared → Prop),
    Below A₀ base outer h₀ → Fr h₀ L s.heap m → (hd.heap_39 w.params).In h₀ → News h₀ L s.heap news → Top hd.view_39 loose mean mg mb h₀ → (hd.heap_39 w.params).In base → Top hd.view_39 loose mean mg mb base →
    KtsDicts (outer.filterMap (·.frame)) h₀ → KtsTurn (outer.filterMap (·.frame)) g₀ h₀ → cs.kind = .function → dp + n < recursionLimit → un + 8 * n < cLine →
    (∀ (t : Tok) (h' h₀' : Heap) (tk' : Nat), KtsTurn (outer.filterMap (·.frame)) g₀ h₀' → Fr h₀' L h' m → News h₀' L h' news → Below A₀ base outer h₀' → (hd.heap_39 w.params).In h₀' → Top hd.view_39 loose mean mg mb h₀' → KtsDicts (outer.filterMap (·.frame)) h₀' → Q (.bool b) { s with heap := h', toks := tk' }) →
      wpAny (model Pg w) (ktrTop dp un gd cn cs L a ccd [] outer) (call (.ref f) vs) Q E s
theorem c_ref1 {w loose mean mg mb} (kind y m d : Int) (v : Value) (ty tm td : Tok) (hv : Way kind v) (hdd : d < 1 ∨ 30 < d) :
    CBS w loose mean mg mb 198 12 [.int y ty, .int m tm, .int d td, v] true := by
  unfold CBS Pg
  k_fill
  k_with_none
  k_with "call ref" => (k_dflt (refine wpAny_call ?_; refine' code_def (binds := [(Str.ofString "year", .int y ty), (Str.ofString "month", .int m tm), (Str.ofString "day", .int d td), (Str.ofString "method", v)]) ?k1 ?k2 ?k3 ?k4 ?k5 ?kA ?kF ?kK ?k6 ?k7 ?k8 ?k9 ?kB ?_ ?c2 ?c3 ?c4 ?c5; (case kA => exact rfl); (case kF => exact rfl); (case kK => first | exact rfl | assumption); (case k1 => k_asm); (case k2 => k_asm); (case k3 => k_asm); (case k4 => k_asm); (case k5 => k_asm); (case k6 => k_is); (case k7 => k_is); (case k8 => ktr_room); (case k9 => first | exact BindsTo.of_eq rfl | exact binds_K (by k_in) rfl (by k_is) rfl rfl rfl); (case c5 => decide); (case kB => exact locs rfl); (case c2 => exact rfl); (case c3 => exact rfl); (case c4 => exact rfl); k_whole; intro g' L' h' FG' F' N' B' X' T'; (simp only [List.reverse_cons, List.reverse_nil, List.nil_append, List.cons_append] at F'); (try dsimp only); (try k_lift B'); (try k_fold)))
  rcases hdd with hdd | hdd
  all_goals (
    intro dp un gd cn cs a ccd outer A₀ base h₀ g₀ L m' news s Q E B F X N T XB TB D T0 hk hd hu hret
    refine wpAny_call ?_
    k_dflt (refine' code_defS (binds := [(Str.ofString "year", .int y ty), (Str.ofString "month", .int m tm), (Str.ofString "day", .int d td), (Str.ofString "way", v)]) ?k1 ?k2 ?k3 ?k4 ?k5 ?XB ?TB ?D ?T0 ?kA ?k6 ?k7 ?k8 ?k9 ?kB ?_ ?cK ?c2 ?c3 ?c4 ?c5; (case kA => exact rfl); (case k2 => k_asm); (case k1 => k_asm); (case XB => assumption); (case TB => assumption); (case D => assumption); (case T0 => assumption); (case k3 => k_asm); (case k4 => k_asm); (case k5 => k_asm); (case k6 => k_is); (case k7 => k_is); (case k8 => ktr_room); (case k9 => first | exact BindsTo.of_eq rfl | exact binds_K (by k_in) rfl (by k_is) rfl rfl rfl); (case kB => exact locs rfl); (case cK => assumption); (case c2 => exact rfl); (case c3 => exact rfl); (case c4 => exact rfl); (case c5 => decide); k_whole; intro g' L' h' FG' F' N' B' X' T' D'; (simp only [List.reverse_cons, List.reverse_nil, List.nil_append, List.cons_append] at F'); (try dsimp only); (try k_lift B'); (try k_fold))
    k_steps)
  all_goals (
    refine' hret 0 _ _ _ ?z1 ?z2 ?z3 ?z4 ?z5 ?z6 ?z7
    (case z2 => k_asm)
    (case z1 => assumption)
    (case z3 => walk_at "news")
    (case z4 => assumption)
    (case z5 => assumption)
    (case z6 => assumption)
    (case z7 => assumption))
theorem c_ref2 {w loose mean mg mb} (kind y m d : Int) (v : Value) (ty tm td : Tok) (hv : Way kind v) (hdd : 1 ≤ d ∧ d ≤ 30) (hm : 13 < m) :
    CBS w loose mean mg mb 198 12 [.int y ty, .int m tm, .int d td, v] true := by
  unfold CBS Pg
  k_fill
  k_with_none
  k_with "call ref" => (k_dflt (refine wpAny_call ?_; refine' code_def (binds := [(Str.ofString "year", .int y ty), (Str.ofString "month", .int m tm), (Str.ofString "day", .int d td), (Str.ofString "method", v)]) ?k1 ?k2 ?k3 ?k4 ?k5 ?kA ?kF ?kK ?k6 ?k7 ?k8 ?k9 ?kB ?_ ?c2 ?c3 ?c4 ?c5; (case kA => exact rfl); (case kF => exact rfl); (case kK => first | exact rfl | assumption); (case k1 => k_asm); (case k2 => k_asm); (case k3 => k_asm); (case k4 => k_asm); (case k5 => k_asm); (case k6 => k_is); (case k7 => k_is); (case k8 => ktr_room); (case k9 => first | exact BindsTo.of_eq rfl | exact binds_K (by k_in) rfl (by k_is) rfl rfl rfl); (case c5 => decide); (case kB => exact locs rfl); (case c2 => exact rfl); (case c3 => exact rfl); (case c4 => exact rfl); k_whole; intro g' L' h' FG' F' N' B' X' T'; (simp only [List.reverse_cons, List.reverse_nil, List.nil_append, List.cons_append] at F'); (try dsimp only); (try k_lift B'); (try k_fold)))
  (
    intro dp un gd cn cs a ccd outer A₀ base h₀ g₀ L m' news s Q E B F X N T XB TB D T0 hk hd hu hret
    refine wpAny_call ?_
    k_dflt (refine' code_defS (binds := [(Str.ofString "year", .int y ty), (Str.ofString "month", .int m tm), (Str.ofString "day", .int d td), (Str.ofString "way", v)]) ?k1 ?k2 ?k3 ?k4 ?k5 ?XB ?TB ?D ?T0 ?kA ?k6 ?k7 ?k8 ?k9 ?kB ?_ ?cK ?c2 ?c3 ?c4 ?c5; (case kA => exact rfl); (case k2 => k_asm); (case k1 => k_asm); (case XB => assumption); (case TB => assumption); (case D => assumption); (case T0 => assumption); (case k3 => k_asm); (case k4 => k_asm); (case k5 => k_asm); (case k6 => k_is); (case k7 => k_is); (case k8 => ktr_room); (case k9 => first | exact BindsTo.of_eq rfl | exact binds_K (by k_in) rfl (by k_is) rfl rfl rfl); (case kB => exact locs rfl); (case cK => assumption); (case c2 => exact rfl); (case c3 => exact rfl); (case c4 => exact rfl); (case c5 => decide); k_whole; intro g' L' h' FG' F' N' B' X' T' D'; (simp only [List.reverse_cons, List.reverse_nil, List.nil_append, List.cons_append] at F'); (try dsimp only); (try k_lift B'); (try k_fold))
    k_steps)
  all_goals (
    refine' hret 0 _ _ _ ?z1 ?z2 ?z3 ?z4 ?z5 ?z6 ?z7
    (case z2 => k_asm)
    (case z1 => assumption)
    (case z3 => walk_at "news")
    (case z4 => assumption)
    (case z5 => assumption)
    (case z6 => assumption)
    (case z7 => assumption))
theorem c_ref3 {w loose mean mg mb} (kind y d : Int) (v : Value) (ty tm td : Tok) (b : Bool) (hv : Way kind v) (hb : decide (leapZ kind y) = b) (hdd : d = if b then 7 else 6) :
    CBS w loose mean mg mb 198 12 [.int y ty, .int 13 tm, .int d td, v] true := by
  unfold CBS Pg
  k_fill
  k_with_none
  k_with "call ref" => (k_dflt (refine wpAny_call ?_; refine' code_def (binds := [(Str.ofString "year", .int y ty), (Str.ofString "month", .int 13 tm), (Str.ofString "day", .int d td), (Str.ofString "method", v)]) ?k1 ?k2 ?k3 ?k4 ?k5 ?kA ?kF ?kK ?k6 ?k7 ?k8 ?k9 ?kB ?_ ?c2 ?c3 ?c4 ?c5; (case kA => exact rfl); (case kF => exact rfl); (case kK => first | exact rfl | assumption); (case k1 => k_asm); (case k2 => k_asm); (case k3 => k_asm); (case k4 => k_asm); (case k5 => k_asm); (case k6 => k_is); (case k7 => k_is); (case k8 => ktr_room); (case k9 => first | exact BindsTo.of_eq rfl | exact binds_K (by k_in) rfl (by k_is) rfl rfl rfl); (case c5 => decide); (case kB => exact locs rfl); (case c2 => exact rfl); (case c3 => exact rfl); (case c4 => exact rfl); k_whole; intro g' L' h' FG' F' N' B' X' T'; (simp only [List.reverse_cons, List.reverse_nil, List.nil_append, List.cons_append] at F'); (try dsimp only); (try k_lift B'); (try k_fold)))
  k_with "call ref" => (k_dflt (refine' cb_use (c_leapK _ _ _ _ _ ?sw ?sb) ?k1 ?k2 ?k3 ?k4 ?k5 ?k6 ?k7 ?k8 ?_; (case sw => with_reducible assumption); (case sb => with_reducible assumption); (case k1 => k_asm); (case k2 => k_asm); (case k3 => k_asm); (case k4 => k_asm); (case k5 => k_asm); (case k6 => first | exact rfl | assumption); (case k7 => ktr_room); (case k8 => walk_at "units"); intro _ _ _ _ _; (try dsimp only)))
  cases b
  all_goals (
    simp only [Bool.false_eq_true, ↓reduceIte] at hdd
    intro dp un gd cn cs a ccd outer A₀ base h₀ g₀ L m' news s Q E B F X N T XB TB D T0 hk hd hu hret
    refine wpAny_call ?_
    k_dflt (refine' code_defS (binds := [(Str.ofString "year", .int y ty), (Str.ofString "month", .int 13 tm), (Str.ofString "day", .int d td), (Str.ofString "way", v)]) ?k1 ?k2 ?k3 ?k4 ?k5 ?XB ?TB ?D ?T0 ?kA ?k6 ?k7 ?k8 ?k9 ?kB ?_ ?cK ?c2 ?c3 ?c4 ?c5; (case kA => exact rfl); (case k2 => k_asm); (case k1 => k_asm); (case XB => assumption); (case TB => assumption); (case D => assumption); (case T0 => assumption); (case k3 => k_asm); (case k4 => k_asm); (case k5 => k_asm); (case k6 => k_is); (case k7 => k_is); (case k8 => ktr_room); (case k9 => first | exact BindsTo.of_eq rfl | exact binds_K (by k_in) rfl (by k_is) rfl rfl rfl); (case kB => exact locs rfl); (case cK => assumption); (case c2 => exact rfl); (case c3 => exact rfl); (case c4 => exact rfl); (case c5 => decide); k_whole; intro g' L' h' FG' F' N' B' X' T' D'; (simp only [List.reverse_cons, List.reverse_nil, List.nil_append, List.cons_append] at F'); (try dsimp only); (try k_lift B'); (try k_fold))
    k_steps)
  all_goals (
    refine' hret 0 _ _ _ ?z1 ?z2 ?z3 ?z4 ?z5 ?z6 ?z7
    (case z2 => k_asm)
    (case z1 => assumption)
    (case z3 => walk_at "news")
    (case z4 => assumption)
    (case z5 => assumption)
    (case z6 => assumption)
    (case z7 => assumption))
theorem c_unb1 {w loose mean mg mb} (kind n : Int) (v : Value) (tn : Tok) (hv : Way kind v) (hn : 1 ≤ n ∧ n ≤ 2375839) :
    CBS w loose mean mg mb 205 12 [.int n tn, v] true := by
  unfold CBS Pg
  k_fill
  k_with_none
  k_with "call ref" => (k_dflt (refine wpAny_call ?_; refine' code_def ?k1 ?k2 ?k3 ?k4 ?k5 ?kA ?kF ?kK ?k6 ?k7 ?k8 ?k9 ?kB ?_ ?c2 ?c3 ?c4 ?c5; (case kA => exact rfl); (case kF => exact rfl); (case kK => first | exact rfl | assumption); (case k1 => k_asm); (case k2 => k_asm); (case k3 => k_asm); (case k4 => k_asm); (case k5 => k_asm); (case k6 => k_is); (case k7 => k_is); (case k8 => ktr_room); (case k9 => first | exact BindsTo.of_eq rfl | exact binds_K (by k_in) rfl (by k_is) rfl rfl rfl); (case c5 => decide); (case kB => exact locs rfl); (case c2 => exact rfl); (case c3 => exact rfl); (case c4 => exact rfl); k_whole; intro g' L' h' FG' F' N' B' X' T'; (try simp only [List.reverse_cons, List.reverse_nil, List.nil_append, List.cons_append] at F'); (try dsimp only); (try k_lift B'); (try k_fold)))
  k_with "call ref" => (k_dflt (refine' cb_use (c_midnight _ _ ?sn) ?k1 ?k2 ?k3 ?k4 ?k5 ?k6 ?k7 ?k8 ?_; (case sn => walk_at "om"); (case k1 => k_asm); (case k2 => k_asm); (case k3 => k_asm); (case k4 => k_asm); (case k5 => k_asm); (case k6 => first | exact rfl | assumption); (case k7 => ktr_room); (case k8 => walk_at "units"); intro _ _ _ _ _ _ _; (try dsimp only)))
  (
    intro dp un gd cn cs a ccd outer A₀ base h₀ g₀ L m' news s Q E B F X N T XB TB D T0 hk hd hu hret
    refine wpAny_call ?_
    k_dflt (refine' code_defS (binds := [(Str.ofString "number", .int n tn), (Str.ofString "way", v)]) ?k1 ?k2 ?k3 ?k4 ?k5 ?XB ?TB ?D ?T0 ?kA ?k6 ?k7 ?k8 ?k9 ?kB ?_ ?cK ?c2 ?c3 ?c4 ?c5; (case kA => exact rfl); (case k2 => k_asm); (case k1 => k_asm); (case XB => assumption); (case TB => assumption); (case D => assumption); (case T0 => assumption); (case k3 => k_asm); (case k4 => k_asm); (case k5 => k_asm); (case k6 => k_is); (case k7 => k_is); (case k8 => ktr_room); (case k9 => first | exact BindsTo.of_eq rfl | exact binds_K (by k_in) rfl (by k_is) rfl rfl rfl); (case kB => exact locs rfl); (case cK => assumption); (case c2 => exact rfl); (case c3 => exact rfl); (case c4 => exact rfl); (case c5 => decide); k_whole; intro g' L' h' FG' F' N' B' X' T' D'; (simp only [List.reverse_cons, List.reverse_nil, List.nil_append, List.cons_append] at F'); (try dsimp only); (try k_lift B'); (try k_fold))
    k_steps)
  all_goals (
    refine' hret 0 _ _ _ ?z1 ?z2 ?z3 ?z4 ?z5 ?z6 ?z7
    (case z2 => k_asm)
    (case z1 => assumption)
    (case z3 => walk_at "news")
    (case z4 => assumption)
    (case z5 => assumption)
    (case z6 => assumption)
    (case z7 => assumption))
theorem c_unb2 {w loose mean mg mb} (k n : Int) (tq tn : Tok) (hk0 : k < 0) (hn : 2375840 ≤ n ∧ n ≤ 1000000000) :
    CBS w loose mean mg mb 205 12 [.int n tn, .int k tq] true := by
  unfold CBS Pg
  k_fill
  k_with_none
  k_with "call ref" => ((with_reducible show wpAny _ _ (call (Value.ref 102) _ _) _ _ _); k_dflt (refine wpAny_call ?_; refine' code_def (binds := [(Str.ofString "jd", .float zf tf), (Str.ofString "method", .int k tq)]) ?k1 ?k2 ?k3 ?k4 ?k5 ?kA ?kF ?kK ?k6 ?k7 ?k8 ?k9 ?kB ?_ ?c2 ?c3 ?c4 ?c5; (case kA => exact rfl); (case kF => exact rfl); (case kK => first | exact rfl | assumption); (case k1 => k_asm); (case k2 => k_asm); (case k3 => k_asm); (case k4 => k_asm); (case k5 => k_asm); (case k6 => k_is); (case k7 => k_is); (case k8 => ktr_room); (case k9 => first | exact BindsTo.of_eq rfl | exact binds_K (by k_in) rfl (by k_is) rfl rfl rfl); (case c5 => decide); (case kB => exact locs rfl); (case c2 => exact rfl); (case c3 => exact rfl); (case c4 => exact rfl); k_whole; intro g' L' h' FG' F' N' B' X' T'; (simp only [List.reverse_cons, List.reverse_nil, List.nil_append, List.cons_append] at F'); (try dsimp only); (try k_lift B'); (try k_fold)))
  k_with "call ref" => ((with_reducible show wpAny _ _ (call (Value.ref 109) [_, Value.str _ _] _) _ _ _); exfalso; walk_at "om")
  k_with "call ref" => ((with_reducible show wpAny _ _ (call (Value.ref 109) [_, Value.int _ _] _) _ _ _); k_dflt (refine wpAny_call ?_; refine' code_def (binds := [(Str.ofString "jd", .float zf tf), (Str.ofString "method", .int k tq)]) ?k1 ?k2 ?k3 ?k4 ?k5 ?kA ?kF ?kK ?k6 ?k7 ?k8 ?k9 ?kB ?_ ?c2 ?c3 ?c4 ?c5; (case kA => exact rfl); (case kF => exact rfl); (case kK => first | exact rfl | assumption); (case k1 => k_asm); (case k2 => k_asm); (case k3 => k_asm); (case k4 => k_asm); (case k5 => k_asm); (case k6 => k_is); (case k7 => k_is); (case k8 => ktr_room); (case k9 => first | exact BindsTo.of_eq rfl | exact binds_K (by k_in) rfl (by k_is) rfl rfl rfl); (case c5 => decide); (case kB => exact locs rfl); (case c2 => exact rfl); (case c3 => exact rfl); (case c4 => exact rfl); k_whole; intro g' L' h' FG' F' N' B' X' T'; (simp only [List.reverse_cons, List.reverse_nil, List.nil_append, List.cons_append] at F'); (try dsimp only); (try k_lift B'); (try k_fold)))
  k_with "call ref" => (k_dflt (refine' cb_use (c_midnight _ _ ?sn) ?k1 ?k2 ?k3 ?k4 ?k5 ?k6 ?k7 ?k8 ?_; (case sn => walk_at "om"); (case k1 => k_asm); (case k2 => k_asm); (case k3 => k_asm); (case k4 => k_asm); (case k5 => k_asm); (case k6 => first | exact rfl | assumption); (case k7 => ktr_room); (case k8 => walk_at "units"); intro zf tf _ _ _ _ _; (try dsimp only)))
  (
    intro dp un gd cn cs a ccd outer A₀ base h₀ g₀ L m' news s Q E B F X N T XB TB D T0 hk hd hu hret
    refine wpAny_call ?_
    k_dflt (refine' code_defS (binds := [(Str.ofString "number", .int n tn), (Str.ofString "way", .int k tq)]) ?k1 ?k2 ?k3 ?k4 ?k5 ?XB ?TB ?D ?T0 ?kA ?k6 ?k7 ?k8 ?k9 ?kB ?_ ?cK ?c2 ?c3 ?c4 ?c5; (case kA => exact rfl); (case k2 => k_asm); (case k1 => k_asm); (case XB => assumption); (case TB => assumption); (case D => assumption); (case T0 => assumption); (case k3 => k_asm); (case k4 => k_asm); (case k5 => k_asm); (case k6 => k_is); (case k7 => k_is); (case k8 => ktr_room); (case k9 => first | exact BindsTo.of_eq rfl | exact binds_K (by k_in) rfl (by k_is) rfl rfl rfl); (case kB => exact locs rfl); (case cK => assumption); (case c2 => exact rfl); (case c3 => exact rfl); (case c4 => exact rfl); (case c5 => decide); k_whole; intro g' L' h' FG' F' N' B' X' T' D'; (simp only [List.reverse_cons, List.reverse_nil, List.nil_append, List.cons_append] at F'); (try dsimp only); (try k_lift B'); (try k_fold))
    k_steps)
  all_goals (
    refine' hret 0 _ _ _ ?z1 ?z2 ?z3 ?z4 ?z5 ?z6 ?z7
    (case z2 => k_asm)
    (case z1 => assumption)
    (case z3 => walk_at "news")
    (case z4 => assumption)
    (case z5 => assumption)
    (case z6 => assumption)
    (case z7 => assumption))
theorem c_ref4 {w loose mean mg mb} (k y m d : Int) (tq ty tm td : Tok) (hk0 : k < 0) (hy : 1 ≤ y) (hm : 1 ≤ m ∧ m ≤ 13) (hdd : 1 ≤ d ∧ d ≤ 30) :
    CBS w loose mean mg mb 198 12 [.int y ty, .int m tm, .int d td, .int k tq] true := by
  unfold CBS Pg
  k_fill
  k_with_none
  k_with "call ref" => ((fail_if_success (with_reducible show wpAny _ _ (call (Value.ref 79) _ _) _ _ _)); k_dflt (refine wpAny_call ?_; refine' code_def (binds := [(Str.ofString "year", .int y ty), (Str.ofString "month", .int m tm), (Str.ofString "day", .int d td), (Str.ofString "method", .int k tq)]) ?k1 ?k2 ?k3 ?k4 ?k5 ?kA ?kF ?kK ?k6 ?k7 ?k8 ?k9 ?kB ?_ ?c2 ?c3 ?c4 ?c5; (case kA => exact rfl); (case kF => exact rfl); (case kK => first | exact rfl | assumption); (case k1 => k_asm); (case k2 => k_asm); (case k3 => k_asm); (case k4 => k_asm); (case k5 => k_asm); (case k6 => k_is); (case k7 => k_is); (case k8 => ktr_room); (case k9 => first | exact BindsTo.of_eq rfl | exact binds_K (by k_in) rfl (by k_is) rfl rfl rfl); (case c5 => decide); (case kB => exact locs rfl); (case c2 => exact rfl); (case c3 => exact rfl); (case c4 => exact rfl); k_whole; intro g' L' h' FG' F' N' B' X' T'; (simp only [List.reverse_cons, List.reverse_nil, List.nil_append, List.cons_append] at F'); (try dsimp only); (try k_lift B'); (try k_fold)))
  k_with "call ref" => ((with_reducible show wpAny _ _ (call (Value.ref 79) _ _) _ _ _); k_dflt (refine wpAny_call ?_; refine' code_def (binds := [(Str.ofString "year", .int y ty), (Str.ofString "method", .int k tq)]) ?k1 ?k2 ?k3 ?k4 ?k5 ?kA ?kF ?kK ?k6 ?k7 ?k8 ?k9 ?kB ?_ ?c2 ?c3 ?c4 ?c5; (case kA => exact rfl); (case kF => exact rfl); (case kK => first | exact rfl | assumption); (case k1 => k_asm); (case k2 => k_asm); (case k3 => k_asm); (case k4 => k_asm); (case k5 => k_asm); (case k6 => k_is); (case k7 => k_is); (case k8 => ktr_room); (case k9 => first | exact BindsTo.of_eq rfl | exact binds_K (by k_in) rfl (by k_is) rfl rfl rfl); (case c5 => decide); (case kB => exact locs rfl); (case c2 => exact rfl); (case c3 => exact rfl); (case c4 => exact rfl); k_whole; intro g' L' h' FG' F' N' B' X' T'; (simp only [List.reverse_cons, List.reverse_nil, List.nil_append, List.cons_append] at F'); (try dsimp only); (try k_lift B'); (try k_fold)))
  (
    intro dp un gd cn cs a ccd outer A₀ base h₀ g₀ L m' news s Q E B F X N T XB TB D T0 hk hd hu hret
    refine wpAny_call ?_
    k_dflt (refine' code_defS (binds := [(Str.ofString "year", .int y ty), (Str.ofString "month", .int m tm), (Str.ofString "day", .int d td), (Str.ofString "way", .int k tq)]) ?k1 ?k2 ?k3 ?k4 ?k5 ?XB ?TB ?D ?T0 ?kA ?k6 ?k7 ?k8 ?k9 ?kB ?_ ?cK ?c2 ?c3 ?c4 ?c5; (case kA => exact rfl); (case k2 => k_asm); (case k1 => k_asm); (case XB => assumption); (case TB => assumption); (case D => assumption); (case T0 => assumption); (case k3 => k_asm); (case k4 => k_asm); (case k5 => k_asm); (case k6 => k_is); (case k7 => k_is); (case k8 => ktr_room); (case k9 => first | exact BindsTo.of_eq rfl | exact binds_K (by k_in) rfl (by k_is) rfl rfl rfl); (case kB => exact locs rfl); (case cK => assumption); (case c2 => exact rfl); (case c3 => exact rfl); (case c4 => exact rfl); (case c5 => decide); k_whole; intro g' L' h' FG' F' N' B' X' T' D'; (simp only [List.reverse_cons, List.reverse_nil, List.nil_append, List.cons_append] at F'); (try dsimp only); (try k_lift B'); (try k_fold))
    k_steps)
  all_goals (
    refine' hret 0 _ _ _ ?z1 ?z2 ?z3 ?z4 ?z5 ?z6 ?z7
    (case z2 => k_asm)
    (case z1 => assumption)
    (case z3 => walk_at "news")
    (case z4 => assumption)
    (case z5 => assumption)
    (case z6 => assumption)
    (case z7 => assumption))
def StopAt (P : Prop) : Prop := P
theorem stop_at {P : Prop} (h : StopAt P) : P := h
theorem look_missO {x x' : Str} {o r r' : Option Value} (h : (x' == x) = false) (hm : r = r') : (if x' = x then o else r) = r' := by
  have : ¬ x' = x := by intro e; rw [e] at h; simp at h
  rw [if_neg this]; exact hm
theorem look_hitO {x : Str} {o r r' : Option Value} (h : o = r') : (if x = x then o else r) = r' := by rw [if_pos rfl]; exact h
/-- a pair of the ways' table -/
def WP (kind : Int) (v : Value) : Prop := (kind = 0 ∧ v = .ref 126) ∨ (kind = 1 ∧ v = .ref 127) ∨ (kind = 2 ∧ v = .ref 128)
section
variable {prog : Program} {w : World} {A : Around} {E : Value → Shared → Prop} {s : Shared} {Q : Value → Shared → Prop} {h₀ : Heap} {L : Addr} {m : Str → Option Value} {K : Frag}
theorem w_wp1 {value slice : PySem.Expr} {l : Addr} {k : Int} {u : Tok} {n : Nat} {dd : Option Addr} {sl : Array (Option Value)} (F : Fr h₀ L s.heap m) (X : K.In h₀)
    (hl : K.lookup l = some ⟨.type "tuple", dd, .seq #[.ref 126, .ref 127, .ref 128] n, sl⟩)
    (hk : 0 ≤ k ∧ k ≤ 2) (h : ∀ v, WP k v → Q v s)
    (hs : subscripted slice false (.ref l) (.int k u) = operate [.ref l, .int k u] (getItem (.ref l) (.int k u)) := by with_unfolding_all rfl) :
    wpAny (model prog w) A (subscriptTail value slice (.ref l) (.int k u)) Q E s := by
  have hc : k = 0 ∨ k = 1 ∨ k = 2 := by omega
  have hl' : K.lookup l = some ⟨.type "tuple", dd, .seq [Value.ref 126, .ref 127, .ref 128].toArray n, sl⟩ := hl
  rcases hc with rfl | rfl | rfl
  · exact topTup_K (j := 0) F X hl' (by decide) (by decide) rfl rfl (h _ (.inl ⟨rfl, rfl⟩)) hs
  · exact topTup_K (j := 1) F X hl' (by decide) (by decide) rfl rfl (h _ (.inr (.inl ⟨rfl, rfl⟩))) hs
  · exact topTup_K (j := 2) F X hl' (by decide) (by decide) rfl rfl (h _ (.inr (.inr ⟨rfl, rfl⟩))) hs
theorem w_wp2 {value slice : PySem.Expr} {kind k : Int} {v : Value} {u t0 t1 t2 t3 t4 t5 : Tok} {n0 n1 n2 : Nat} {d0 d1 d2 : Option Addr} {s0 s1 s2 : Array (Option Value)} (F : Fr h₀ L s.heap m) (X : K.In h₀)
    (hl0 : K.lookup 126 = some ⟨.type "tuple", d0, .seq #[.int 4 t0, .str (Str.ofString "continuous") t1] n0, s0⟩)
    (hl1 : K.lookup 127 = some ⟨.type "tuple", d1, .seq #[.int 100 t2, .str (Str.ofString "romme") t3] n1, s1⟩)
    (hl2 : K.lookup 128 = some ⟨.type "tuple", d2, .seq #[.int 128 t4, .str (Str.ofString "madler") t5] n2, s2⟩)
    (hv : WP kind v) (hk : 0 ≤ k ∧ k ≤ 1) (h : ∀ v', Way kind v' → Q v' s)
    (hs : ∀ l, subscripted slice false (.ref l) (.int k u) = operate [.ref l, .int k u] (getItem (.ref l) (.int k u)) := by intro l; with_unfolding_all rfl) :
    wpAny (model prog w) A (subscriptTail value slice v (.int k u)) Q E s := by
  have hc : k = 0 ∨ k = 1 := by omega
  have hl0' : K.lookup 126 = some ⟨.type "tuple", d0, .seq [Value.int 4 t0, .str (Str.ofString "continuous") t1].toArray n0, s0⟩ := hl0
  have hl1' : K.lookup 127 = some ⟨.type "tuple", d1, .seq [Value.int 100 t2, .str (Str.ofString "romme") t3].toArray n1, s1⟩ := hl1
  have hl2' : K.lookup 128 = some ⟨.type "tuple", d2, .seq [Value.int 128 t4, .str (Str.ofString "madler") t5].toArray n2, s2⟩ := hl2
  rcases hv with ⟨rfl, rfl⟩ | ⟨rfl, rfl⟩ | ⟨rfl, rfl⟩ <;> rcases hc with rfl | rfl
  · exact topTup_K (j := 0) F X hl0' (by decide) (by decide) rfl rfl (h _ (.inl ⟨rfl, .inl ⟨_, rfl⟩⟩)) (hs _)
  · exact topTup_K (j := 1) F X hl0' (by decide) (by decide) rfl rfl (h _ (.inl ⟨rfl, .inr ⟨_, rfl⟩⟩)) (hs _)
  · exact topTup_K (j := 0) F X hl1' (by decide) (by decide) rfl rfl (h _ (.inr (.inl ⟨rfl, .inl ⟨_, rfl⟩⟩))) (hs _)
  · exact topTup_K (j := 1) F X hl1' (by decide) (by decide) rfl rfl (h _ (.inr (.inl ⟨rfl, .inr ⟨_, rfl⟩⟩))) (hs _)
  · exact topTup_K (j := 0) F X hl2' (by decide) (by decide) rfl rfl (h _ (.inr (.inr ⟨rfl, .inl ⟨_, rfl⟩⟩))) (hs _)
  · exact topTup_K (j := 1) F X hl2' (by decide) (by decide) rfl rfl (h _ (.inr (.inr ⟨rfl, .inr ⟨_, rfl⟩⟩))) (hs _)
end
abbrev CB0 (w : World) (loose : List Str) (mean : ExcName → Option Value) (mg mb : Str → Option Value) (f : Addr) (n : Nat) (vs : List Value) (b : Bool) : Prop :=
  ∀ (dp un : Nat) (gd : Option (List Code)) (cn : Str) (cs : Scope) (a : Addr) (ccd : Value) (A₀ : Around) (base h₀ : Heap) (L : Addr) (m : Str → Option Value) (news : List (Addr × Obj)) (s : Shared) (Q E : Value → Shared → Prop),
    Below A₀ base [] h₀ → Fr h₀ L s.heap m → (hd.heap_39 w.params).In h₀ → News h₀ L s.heap news → Top hd.view_39 loose mean mg mb h₀ → (hd.heap_39 w.params).In base → Top hd.view_39 loose mean mg mb base →
    cs.kind = .function → dp + n < recursionLimit → un + 8 * n < cLine →
    (∀ (h' : Heap) (tk' : Nat), Fr h₀ L h' m → News h₀ L h' news → Q (.bool b) { s with heap := h', toks := tk' }) →
      wpAny (model Pg w) (ktrTop dp un gd cn cs L a ccd [] []) (call (.ref f) vs) Q E s
/-- a def's statements from the k-th on, and its scope, as the heap holds them -/
noncomputable def bodyAt (w : World) (f : Addr) (k : Nat) : List Stmt := match (hd.heap_39 w.params).lookup f with
  | some ⟨_, _, .func fd, _⟩ => (match fd.body with | .stmts b => b.drop k | _ => [])
  | _ => []
noncomputable def scopeAt (w : World) (f : Addr) : Scope := match (hd.heap_39 w.params).lookup f with
  | some ⟨_, _, .func fd, _⟩ => fd.scope
  | _ => {kind := .function, names := [], isGenerator := false, isCoroutine := false}
/-- the rest of _law_three_days from its k-th statement on: it ends with True -/
abbrev TD (w : World) (loose : List Str) (mean : ExcName → Option Value) (mg mb : Str → Option Value) (k : Nat) (need : (Str → Option Value) → List (Addr × Obj) → Prop) : Prop :=
  ∀ (dp un : Nat) (gd : Option (List Code)) (cn : Str) (cs : Scope) (a : Addr) (ccd : Value) (L : Addr) (base g₀ g : Heap) (L' : Addr) (m : Str → Option Value) (news : List (Addr × Obj)) (s : Shared) (Q : Flow → Shared → Prop),
    Below (ktrTop dp un gd cn cs L a ccd [] []) base [envOf cn cs L a ccd] g → Fr g L' s.heap m → (hd.heap_39 w.params).In g → News g L' s.heap news → Top hd.view_39 loose mean mg mb g → (hd.heap_39 w.params).In base → Top hd.view_39 loose mean mg mb base →
    KtsDicts ([envOf cn cs L a ccd].filterMap (·.frame)) g → KtsTurn ([envOf cn cs L a ccd].filterMap (·.frame)) g₀ g → cs.kind = .function → dp + 20 < recursionLimit → un + 8 * 20 < cLine → need m news →
    (∀ (g' h' : Heap) (m' : Str → Option Value) (tk' : Nat), KtsTurn ([envOf cn cs L a ccd].filterMap (·.frame)) g₀ g' → Fr g' L' h' m' → News g' L' h' news → Q (.ret (.bool true)) { s with heap := h', toks := tk' }) →
      wpAny (model Pg w) ((ktrTop dp un gd cn cs L a ccd [] []).deeper (envOf (Str.ofString "_law_three_days") (scopeAt w 212) L' 212 (.ref 211))) (execs (bodyAt w 212 k) (envOf (Str.ofString "_law_three_days") (scopeAt w 212) L' 212 (.ref 211))) Q (fun _ _ => False) s
section
variable {M : Model} {A : Around} {E : Value → Shared → Prop} {s : Shared} {h₀ : Heap} {L a : Addr} {m : Str → Option Value} {cn : Str} {cs : Scope} {ccd : Value} {x : Str} {v : Value}
theorem q_load {Q : Value → Shared → Prop} (F : Fr h₀ L s.heap m) (hl : cs.names.lookup x = some .local) (hk : cs.kind = .function) (hv : m x = some v) (h : Q v s) :
    wpAny M A (loadName (envOf cn cs L a ccd) x) Q E s := ldn F hv h hk hl
end
theorem td_cut {w : World} {loose : List Str} {mean : ExcName → Option Value} {mg mb : Str → Option Value} {k : Nat} {need : (Str → Option Value) → List (Addr × Obj) → Prop} (C : TD w loose mean mg mb k need)
    {dp un : Nat} {gd : Option (List Code)} {cn : Str} {cs : Scope} {a : Addr} {ccd : Value} {L : Addr} {base g₀ g : Heap} {L' : Addr} {m : Str → Option Value} {news : List (Addr × Obj)} {s : Shared} {Q : Flow → Shared → Prop} {E : Value → Shared → Prop}
    (B : Below (ktrTop dp un gd cn cs L a ccd [] []) base [envOf cn cs L a ccd] g) (F : Fr g L' s.heap m) (X : (hd.heap_39 w.params).In g) (N : News g L' s.heap news) (T : Top hd.view_39 loose mean mg mb g) (XB : (hd.heap_39 w.params).In base) (TB : Top hd.view_39 loose mean mg mb base)
    (D : KtsDicts ([envOf cn cs L a ccd].filterMap (·.frame)) g) (T0 : KtsTurn ([envOf cn cs L a ccd].filterMap (·.frame)) g₀ g) (hk : cs.kind = .function) (h1 : dp + 20 < recursionLimit) (h2 : un + 8 * 20 < cLine) (hn : need m news)
    (hret : ∀ (g' h' : Heap) (m' : Str → Option Value) (tk' : Nat), KtsTurn ([envOf cn cs L a ccd].filterMap (·.frame)) g₀ g' → Fr g' L' h' m' → News g' L' h' news → Q (.ret (.bool true)) { s with heap := h', toks := tk' }) :
      wpAny (model Pg w) ((ktrTop dp un gd cn cs L a ccd [] []).deeper (envOf (Str.ofString "_law_three_days") (scopeAt w 212) L' 212 (.ref 211))) (execs (bodyAt w 212 k) (envOf (Str.ofString "_law_three_days") (scopeAt w 212) L' 212 (.ref 211))) Q E s :=
  wpAny_mono (C dp un gd cn cs a ccd L base g₀ g L' m news s Q B F X N T XB TB D T0 hk h1 h2 hn hret) (fun _ _ x => x) fun _ _ x => x.elim
section
variable {prog : Program} {w : World} {A : Around} {E : Value → Shared → Prop} {s : Shared} {env : Env} {target : PySem.Expr} {body : List Stmt} {Q : Flow → Shared → Prop}
/-- a turn of a for: the ground may be another one -/
def OEnd (G : Heap → Prop) (L : Addr) (s : Shared) (I : Addr) (o : Obj) (J : (Str → Option Value) → List (Addr × Obj) → Prop) (f : Flow) (s₂ : Shared) : Prop :=
  f = .next ∧ ∃ g h tk m nx, s₂ = { s with heap := h, toks := tk } ∧ G g ∧ Fr g L h m ∧ News g L h ((I, o) :: nx) ∧ (∀ p ∈ nx, p.1 ≠ I) ∧ J m nx
theorem oend {G : Heap → Prop} {L : Addr} {s : Shared} {I : Addr} {o : Obj} {J : (Str → Option Value) → List (Addr × Obj) → Prop} {g h : Heap} {tk : Nat} {m : Str → Option Value} {nx : List (Addr × Obj)}
    (F : Fr g L h m) (N : News g L h ((I, o) :: nx)) (hG : G g) (hI : ∀ p ∈ nx, p.1 ≠ I) (hJ : J m nx) : OEnd G L s I o J .next { s with heap := h, toks := tk } := ⟨rfl, g, h, tk, m, nx, rfl, hG, F, N, hI, hJ⟩
theorem for_own {R : Result → Shared → Prop} {I : Addr} {fp : List Addr} {n : Nat} {P : Nat → Value → Prop} {St : Nat → Heap → Prop} {m : Str → Option Value} {news : List (Addr × Obj)} {g : Heap}
    (W : Walks prog w A I fp [I] n P St) (hcl : ∀ i h, St i h → ∃ o, h.get? I = some o) (G : Heap → Prop) (J : Nat → (Str → Option Value) → List (Addr × Obj) → Prop)
    (hfp : ∀ b ∈ fp, b ≠ I → ∃ o, ∀ i m nx, J i m nx → (b, o) ∈ nx)
    (hgo : ∀ i (s' : Shared) v (Q' : Unit → Shared → Prop) (E' : Value → Shared → Prop), St i s'.heap → Q' () s' → wpAny (model prog w) A (letOwnedTupleGo target (.ref I) v) Q' E' s')
    (hst : St 0 s.heap) (hG : G g) (F : Fr g env.locals s.heap m) (N : News g env.locals s.heap news) (hgI : g.get? I = none) (hIL : I ≠ env.locals) (hoff : ∀ p ∈ news, p.1 ≠ I) (hJ : J 0 m news)
    (turn : ∀ i v g m nx h tk o, i < n → P i v → J i m nx → G g → Fr g env.locals h m → News g env.locals h ((I, o) :: nx) → (∀ p ∈ nx, p.1 ≠ I) → St (i + 1) h →
      wpAny (model prog w) A (assign target env v) (fun _ s₂ => wpAny (model prog w) A (execs body env) (OEnd G env.locals s I o (J (i + 1))) (fun _ _ => False) s₂) (fun _ _ => False) { s with heap := h, toks := tk })
    (done : ∀ g h tk m nx, G g → J n m nx → Fr g env.locals h m → News g env.locals h nx → R (.ok .next) { s with heap := h, toks := tk }) :
    codeAny (model prog w) A (.forLoop target (.ref I) body [] env) R s := by
  refine codeAny_forLoop_any
    (fun k s' => ∃ i g h tk m nx, s' = { s with heap := h, toks := tk } ∧ i ≤ n ∧ k = n - i ∧ St i h ∧ G g ∧ Fr g env.locals h m ∧ News g env.locals h nx ∧ g.get? I = none ∧ (∀ p ∈ nx, p.1 ≠ I) ∧ J i m nx) ?_ n
    ⟨0, g, s.heap, s.toks, m, news, rfl, Nat.zero_le _, rfl, hst, hG, F, N, hgI, hoff, hJ⟩
  rintro k s' ⟨i, g₁, h₁, tk₁, m₁, nx, rfl, hi, rfl, hst₁, hG₁, F₁, N₁, hgI₁, hoff₁, hJ₁⟩
  have old : ∀ b o, g₁.get? b = some o → b ∉ [I] := fun b o e hb => by
    rw [List.mem_singleton.mp hb, hgI₁] at e; cases e
  have next : ∀ h₂ : Heap, (∀ b o, b ∉ [I] → h₁.get? b = some o → h₂.get? b = some o) → Fr g₁ env.locals h₂ m₁ ∧ News g₁ env.locals h₂ nx := fun h₂ hk₂ =>
    ⟨⟨F₁.ns.at' fun o e => hk₂ _ o (fun q => hIL (List.mem_singleton.mp q).symm) e, fun b o e => hk₂ b o (old b o e) (F₁.keep b o e), F₁.above⟩, fun p hp => ⟨hk₂ _ _ (fun q => hoff₁ p hp (List.mem_singleton.mp q)) (N₁ p hp).1, (N₁ p hp).2⟩⟩
  by_cases hlt : i < n
  · refine W.item i _ _ _ hlt hst₁ fun v h₂ tk₂ hP hst₂ hk₂ => ?_
    obtain ⟨F₂, N₂⟩ := next h₂ hk₂
    obtain ⟨o, ho⟩ := hcl _ _ hst₂
    have N₃ : News g₁ env.locals h₂ ((I, o) :: nx) := fun p hp => by
      rcases List.mem_cons.mp hp with rfl | hp
      · exact ⟨ho, hIL, hgI₁⟩
      · exact N₂ p hp
    refine hgo (i + 1) _ v _ _ hst₂ ?_
    refine wpAny_mono (turn i v g₁ m₁ nx h₂ tk₂ o hlt hP hJ₁ hG₁ F₂ N₃ hoff₁ hst₂) (fun _ s₂ h₃ => wpAny_mono h₃ (fun f s₃ h₄ => ?_) fun _ _ e => e.elim) fun _ _ e => e.elim
    obtain ⟨rfl, g₄, h₄', tk₄, m₄, nx₄, rfl, hG₄, F₄, N₄, hoff₄, hJ₄⟩ := h₄
    refine ⟨n - (i + 1), by omega, i + 1, g₄, h₄', tk₄, m₄, nx₄, rfl, hlt, rfl, ?_, hG₄, F₄, fun p hp => N₄ p (List.mem_cons_of_mem _ hp), (N₄ _ (List.mem_cons_self ..)).2.2, hoff₄, hJ₄⟩
    refine W.frame _ _ _ hst₂ fun b hb o' e => ?_
    by_cases hbI : b = I
    · subst hbI
      rw [ho] at e
      cases e
      exact (N₄ _ (List.mem_cons_self ..)).1
    · obtain ⟨ob, hob⟩ := hfp b hb hbI
      have e1 := (N₂ _ (hob _ _ _ hJ₁)).1
      have e2 := (N₄ _ (List.mem_cons_of_mem _ (hob _ _ _ hJ₄))).1
      have e3 : h₂.get? b = some ob := e1
      rw [e] at e3
      cases e3
      exact e2
  · have hin : i = n := by omega
    subst hin
    refine W.done _ _ _ hst₁ fun h₂ tk₂ hk₂ => wpAny_execs_nil ?_
    obtain ⟨F₂, N₂⟩ := next h₂ hk₂
    exact done g₁ h₂ tk₂ m₁ nx hG₁ hJ₁ F₂ N₂
/-- the loop over what the iterable's term gave -/
def OAt (prog : Program) (w : World) (A : Around) (env : Env) (target : PySem.Expr) (body : List Stmt) (Q : Flow → Shared → Prop) (E : Value → Shared → Prop) (x : Value) (s : Shared) : Prop :=
  wpAny (model prog w) A (pyIter x) (fun it s₂ => codeAny (model prog w) A (.forLoop target it body [] env) (fun r s' => match r with | .ok f => Q f s' | .error e => cameBackBy (model prog w) A env E e s') s₂) E s
theorem For_own {iter : PySem.Expr} {pos : Pos} (h : wpAny (model prog w) A (eval iter env) (fun x s₁ => OAt prog w A env target body Q E x s₁) E s)
    (hs : ∀ x, foldedSetIterable iter env x = pure x) : wpAny (model prog w) A (exec (.For target iter body [] pos) env) Q E s :=
  wpAny_For (wpAny_mono h (fun _ _ h₁ => h₁) fun _ _ e => e) hs
theorem oat_tuple {t : Addr} {ot : Obj} {vs : List Value} {k : Nat} {m : Str → Option Value} {news : List (Addr × Obj)} {g : Heap} (G : Heap → Prop) (J : Nat → (Str → Option Value) → List (Addr × Obj) → Prop)
    (hh : A.handled = none) (hG : G g) (F : Fr g env.locals s.heap m) (N : News g env.locals s.heap news) (hm : (t, ot) ∈ news) (hc : ot.cls = .type "tuple") (hd : ot.data = .seq vs.toArray k)
    (hJt : ∀ i m nx, J i m nx → (t, ot) ∈ nx) (hJ : J 0 m news)
    (turn : ∀ I i v g m nx h tk o, vs[i]? = some v → J i m nx → G g → Fr g env.locals h m → News g env.locals h ((I, o) :: nx) → (∀ p ∈ nx, p.1 ≠ I) →
      wpAny (model prog w) A (assign target env v) (fun _ s₂ => wpAny (model prog w) A (execs body env) (OEnd G env.locals s I o (J (i + 1))) (fun _ _ => False) s₂) (fun _ _ => False) { s with heap := h, toks := tk })
    (done : ∀ g h tk m nx, G g → J vs.length m nx → Fr g env.locals h m → News g env.locals h nx → Q .next { s with heap := h, toks := tk }) :
    OAt prog w A env target body Q E (.ref t) s := by
  have ht : s.heap.IsTuple t vs.toArray := ⟨ot, (N _ hm).1, hc, k, hd⟩
  have hlt : t < s.heap.objs.size := Heap.lt_size (N _ hm).1
  refine wpAny_pyIter_tuple ht ?_
  have hn : vs.toArray.size = vs.length := by simp
  have W := Walks.tuple (prog := prog) (w := w) hh s.heap.objs.size t (Nat.ne_of_lt hlt) vs.toArray
  rw [hn] at W
  refine for_own (s := { s with heap := s.heap.push { cls := .type "tuple_iterator", data := .fields #[.ref t, .int 0 0] } }) W (fun i h st => ?_) G J (fun b hb hbI => ?_) (fun i s' v Q' E' st hQ' => letGo_tupleiter st.1 hQ') ⟨⟨_, Heap.get?_push_size _ rfl, rfl, rfl⟩, ht.at fun o e => Heap.get?_push_of_some _ e⟩ hG (F.push _) (fun p hp => ⟨Heap.get?_push_of_some _ (N p hp).1, (N p hp).2⟩)
    (Heap.get?_none_of_le (Nat.le_of_lt (Nat.lt_of_le_of_lt F.above F.ns.lt))) (fun q => absurd F.ns.lt (q ▸ Nat.lt_irrefl _)) (fun p hp => Nat.ne_of_lt (Heap.lt_size (N p hp).1)) hJ ?_ done
  · obtain ⟨⟨o, ho, _⟩, _⟩ := st
    exact ⟨o, ho⟩
  · rcases List.mem_cons.mp hb with e | hb
    · exact absurd e hbI
    · rw [List.mem_singleton.mp hb]
      exact ⟨ot, hJt⟩
  · intro i v g m nx h tk o hi hP hJ hG F N hoff _
    exact turn _ i v g m nx h tk o (by simpa using hP) hJ hG F N hoff
theorem oat_range {r : Addr} {a₀ b₀ : Int} {t₀ u₀ v₀ : Tok} {n : Nat} {m : Str → Option Value} {news : List (Addr × Obj)} {g : Heap} {x : Str} {px : Pos} (G : Heap → Prop) (J : Nat → (Str → Option Value) → List (Addr × Obj) → Prop)
    (hh : A.handled = none) (hr : IsRange s.heap r a₀ b₀ 1 t₀ u₀ v₀) (hsmall : Builtin.Range.small a₀ b₀ 1 = true) (hn : Builtin.Range.rangeSize a₀ b₀ 1 = (n : Int)) (hG : G g) (F : Fr g env.locals s.heap m) (N : News g env.locals s.heap news)
    (hJ : J 0 m news)
    (turn : ∀ I i t g m nx h tk o, i < n → J i m nx → G g → Fr g env.locals h m → News g env.locals h ((I, o) :: nx) → (∀ p ∈ nx, p.1 ≠ I) → o.cls = .type "range_iterator" →
      wpAny (model prog w) A (assign (.Name x px) env (.int (a₀ + i * 1) t)) (fun _ s₂ => wpAny (model prog w) A (execs body env) (OEnd G env.locals s I o (J (i + 1))) (fun _ _ => False) s₂) (fun _ _ => False) { s with heap := h, toks := tk })
    (done : ∀ g h tk m nx, G g → J n m nx → Fr g env.locals h m → News g env.locals h nx → Q .next { s with heap := h, toks := tk }) :
    OAt prog w A env (.Name x px) body Q E (.ref r) s := by
  refine wpAny_pyIter_range hr hsmall ?_
  have W : Walks prog w A s.heap.objs.size [s.heap.objs.size] [s.heap.objs.size] n _ _ := Walks.range hh _ a₀ 1 n
  refine for_own (s := { s with heap := _ }) W (fun i h st => ⟨_, st⟩) G J (fun b hb hbI => absurd (List.mem_singleton.mp hb) hbI) (fun i s' v Q' E' st hQ' => wpAny_pure hQ') ?_ hG (F.push _) (fun p hp => ⟨Heap.get?_push_of_some _ (N p hp).1, (N p hp).2⟩)
    (Heap.get?_none_of_le (Nat.le_of_lt (Nat.lt_of_le_of_lt F.above F.ns.lt))) (fun q => absurd F.ns.lt (q ▸ Nat.lt_irrefl _)) (fun p hp => Nat.ne_of_lt (Heap.lt_size (N p hp).1)) hJ ?_ done
  · show IsRangeIter _ _ _ _ _
    rw [hn]
    simpa using Heap.get?_push_size _ rfl
  · rintro i _ g m nx h tk o hi ⟨t, rfl⟩ hJ hG F N hoff hst
    have e1 := (N _ (List.mem_cons_self ..)).1
    have e2 : h.get? s.heap.objs.size = _ := hst
    rw [e1] at e2
    refine turn _ i t g m nx h tk o hi hJ hG F N hoff ?_
    have e3 : o = _ := Option.some.inj e2
    rw [e3]
/-- a statement that sets one name -/
def SetEnd (g : Heap) (L : Addr) (s : Shared) (m : Str → Option Value) (news : List (Addr × Obj)) (x : Str) (P : Option Value → Prop) (f : Flow) (s₂ : Shared) : Prop :=
  f = .next ∧ ∃ h tk m₂, s₂ = { s with heap := h, toks := tk } ∧ Fr g L h m₂ ∧ News g L h news ∧ (∀ z, z ≠ x → m₂ z = m z) ∧ P (m₂ x)
theorem set_end {g : Heap} {L : Addr} {s : Shared} {m : Str → Option Value} {news : List (Addr × Obj)} {x : Str} {P : Option Value → Prop} {h : Heap} {tk : Nat} {m₂ : Str → Option Value}
    (F : Fr g L h m₂) (N : News g L h news) (hz : ∀ z, z ≠ x → m₂ z = m z) (hP : P (m₂ x)) : SetEnd g L s m news x P .next { s with heap := h, toks := tk } := ⟨rfl, h, tk, m₂, rfl, F, N, hz, hP⟩
theorem join_set {g : Heap} {L : Addr} {M : Model} {st : Stmt} {m : Str → Option Value} {news : List (Addr × Obj)} (x : Str) (P : Option Value → Prop) (F : Fr g L s.heap m) (N : News g L s.heap news)
    (walk : wpAny M A (exec st env) (SetEnd g L s m news x P) (fun _ _ => False) s)
    (h : ∀ h' tk r, P r → Fr g L h' (fun z => if z = x then r else m z) → News g L h' news → Q .next { s with heap := h', toks := tk }) : wpAny M A (exec st env) Q E s := by
  refine wpAny_mono walk (fun f s₂ p => ?_) fun _ _ e => e.elim
  obtain ⟨rfl, h', tk, m₂, rfl, F₂, N₂, hz, hP⟩ := p
  refine h h' tk (m₂ x) hP ?_ N₂
  have e : (fun z => if z = x then m₂ x else m z) = m₂ := by
    funext z
    by_cases q : z = x
    · rw [if_pos q, q]
    · rw [if_neg q, hz z q]
  rw [e]
  exact F₂
end
theorem cbs_use {w : World} {loose : List Str} {mean : ExcName → Option Value} {mg mb : Str → Option Value} {f : Addr} {n : Nat} {vs : List Value} {b : Bool} (C : CBS w loose mean mg mb f n vs b)
    {dp un : Nat} {gd : Option (List Code)} {cn : Str} {cs : Scope} {a : Addr} {ccd : Value} {outer : List Env} {A₀ : Around} {base h₀ g₀ : Heap} {L : Addr} {m : Str → Option Value} {news : List (Addr × Obj)} {s : Shared} {Q E : Value → Shared → Prop}
    (B : Below A₀ base outer h₀) (F : Fr h₀ L s.heap m) (X : (hd.heap_39 w.params).In h₀) (N : News h₀ L s.heap news) (T : Top hd.view_39 loose mean mg mb h₀) (XB : (hd.heap_39 w.params).In base) (TB : Top hd.view_39 loose mean mg mb base)
    (D : KtsDicts (outer.filterMap (·.frame)) h₀) (T0 : KtsTurn (outer.filterMap (·.frame)) g₀ h₀) (hk : cs.kind = .function) (h1 : dp + n < recursionLimit) (h2 : un + 8 * n < cLine)
    (g : ∀ (t : Tok) (h' h₀' : Heap) (tk' : Nat), KtsTurn (outer.filterMap (·.frame)) g₀ h₀' → Fr h₀' L h' m → News h₀' L h' news → Below A₀ base outer h₀' → (hd.heap_39 w.params).In h₀' → Top hd.view_39 loose mean mg mb h₀' → KtsDicts (outer.filterMap (·.frame)) h₀' → Q (.bool b) { s with heap := h', toks := tk' }) :
    wpAny (model Pg w) (ktrTop dp un gd cn cs L a ccd [] outer) (call (.ref f) vs) Q E s :=
  C dp un gd cn cs a ccd outer A₀ base h₀ g₀ L m news s Q E B F X N T XB TB D T0 hk h1 h2 g
section
variable {prog : Program} {w : World} {A : Around} {E : Value → Shared → Prop} {s : Shared} {env : Env} {target : PySem.Expr} {body : List Stmt} {Q : Flow → Shared → Prop}
def PEnd (G : Heap → Prop) (L : Addr) (s : Shared) (I : Addr) (o : Obj) (news : List (Addr × Obj)) (m : Str → Option Value) (x1 x2 : Str) (f : Flow) (s₂ : Shared) : Prop :=
  f = .next ∧ ∃ g h tk m₂, s₂ = { s with heap := h, toks := tk } ∧ G g ∧ Fr g L h m₂ ∧ News g L h ((I, o) :: news) ∧ ∀ z, z ≠ x1 → z ≠ x2 → m₂ z = m z
theorem pend {G : Heap → Prop} {L : Addr} {s : Shared} {I : Addr} {o : Obj} {news : List (Addr × Obj)} {m : Str → Option Value} {x1 x2 : Str} {g h : Heap} {tk : Nat} {m₂ : Str → Option Value}
    (F : Fr g L h m₂) (N : News g L h ((I, o) :: news)) (hG : G g) (hz : ∀ z, z ≠ x1 → z ≠ x2 → m₂ z = m z) : PEnd G L s I o news m x1 x2 .next { s with heap := h, toks := tk } := ⟨rfl, g, h, tk, m₂, rfl, hG, F, N, hz⟩
theorem two_names {m m₁ : Str → Option Value} {x1 x2 : Str} (h : ∀ z, z ≠ x1 → z ≠ x2 → m₁ z = m z) : m₁ = fun z => if z = x1 then m₁ x1 else if z = x2 then m₁ x2 else m z := by
  funext z
  by_cases q : z = x1
  · rw [if_pos q, q]
  · by_cases q2 : z = x2
    · rw [if_neg q, if_pos q2, q2]
    · rw [if_neg q, if_neg q2, h z q q2]
theorem pairs_loop {t : Addr} {ot : Obj} {vs : List Value} {k : Nat} {m : Str → Option Value} {news : List (Addr × Obj)} {g : Heap} (x1 x2 : Str) (ok : Value → Prop) (G : Heap → Prop)
    (F : Fr g env.locals s.heap m) (N : News g env.locals s.heap news) (hh : A.handled = none) (hm : (t, ot) ∈ news) (hc : ot.cls = .type "tuple") (hd : ot.data = .seq vs.toArray k) (hG : G g) (hok : ∀ v ∈ vs, ok v)
    (turn : ∀ I v g r1 r2 h tk o, ok v → G g → Fr g env.locals h (fun z => if z = x1 then r1 else if z = x2 then r2 else m z) → News g env.locals h ((I, o) :: news) →
      wpAny (model prog w) A (assign target env v) (fun _ s₂ => wpAny (model prog w) A (execs body env) (PEnd G env.locals s I o news m x1 x2) (fun _ _ => False) s₂) (fun _ _ => False) { s with heap := h, toks := tk })
    (done : ∀ g h tk r1 r2, G g → Fr g env.locals h (fun z => if z = x1 then r1 else if z = x2 then r2 else m z) → News g env.locals h news → Q .next { s with heap := h, toks := tk }) :
    OAt prog w A env target body Q E (.ref t) s := by
  refine oat_tuple G (fun _ m₁ nx => nx = news ∧ ∀ z, z ≠ x1 → z ≠ x2 → m₁ z = m z) hh hG F N hm hc hd (fun i m₁ nx hJ => hJ.1 ▸ hm) ⟨rfl, fun _ _ _ => rfl⟩ ?_ ?_
  · rintro I i v g₁ m₁ nx h tk o hv ⟨rfl, hz⟩ hG₁ F₁ N₁ hoff
    rw [two_names hz] at F₁
    refine wpAny_mono (turn I v g₁ _ _ h tk o (hok v (List.mem_of_getElem? hv)) hG₁ F₁ N₁) (fun _ s₂ h₂ => wpAny_mono h₂ (fun f s₃ h₃ => ?_) fun _ _ e => e) fun _ _ e => e
    obtain ⟨rfl, g₂, h₂, tk₂, m₂, rfl, hG₂, F₂, N₂, hz₂⟩ := h₃
    exact ⟨rfl, g₂, h₂, tk₂, m₂, _, rfl, hG₂, F₂, N₂, hoff, rfl, hz₂⟩
  · rintro g₁ h tk m₁ nx hG₁ ⟨rfl, hz⟩ F₁ N₁
    rw [two_names hz] at F₁
    exact done g₁ h tk _ _ hG₁ F₁ N₁
end
/-- a month and a day that are no date -/
def OkMD (b : Bool) (m d : Int) : Prop := (d < 1 ∨ 30 < d) ∨ (1 ≤ d ∧ d ≤ 30 ∧ 13 < m) ∨ (m = 13 ∧ d = if b then 7 else 6)
def OkP (b : Bool) (news : List (Addr × Obj)) (v : Value) : Prop := ∃ p m d t u n, v = .ref p ∧ (p, ({ cls := .type "tuple", data := .seq #[.int m t, .int d u] n } : Obj)) ∈ news ∧ OkMD b m d
theorem c_refA {w loose mean mg mb} (kind y m d : Int) (v : Value) (ty tm td : Tok) (b : Bool) (hv : Way kind v) (hb : decide (leapZ kind y) = b) (h : OkMD b m d) :
    CBS w loose mean mg mb 198 12 [.int y ty, .int m tm, .int d td, v] true := by
  rcases h with h | ⟨h1, h2, h3⟩ | ⟨rfl, h⟩
  · exact c_ref1 kind y m d v ty tm td hv h
  · exact c_ref2 kind y m d v ty tm td hv ⟨h1, h2⟩ h3
  · exact c_ref3 kind y d v ty tm td b hv hb h
theorem pairs_go {prog : Program} {w : World} {A : Around} {E : Value → Shared → Prop} {s : Shared} {env : Env} {target : PySem.Expr} {body : List Stmt} {Q : Flow → Shared → Prop} {t : Addr} {ot : Obj} {vs : List Value} {k : Nat} {m : Str → Option Value} {news : List (Addr × Obj)} {g : Heap} (b : Bool) (G : Heap → Prop)
    (F : Fr g env.locals s.heap m) (N : News g env.locals s.heap news) (hh : A.handled = none) (hm : (t, ot) ∈ news) (hc : ot.cls = .type "tuple") (hd : ot.data = .seq vs.toArray k) (hG : G g) (hok : ∀ v ∈ vs, OkP b news v)
    (turn : ∀ I p md dd t u n nx g r1 r2 h tk o, OkMD b md dd → (p, ({ cls := .type "tuple", data := .seq #[.int md t, .int dd u] n } : Obj)) ∈ nx → IsTup h p #[.int md t, .int dd u] → G g → Fr g env.locals h (fun z => if z = Str.ofString "m" then r1 else if z = Str.ofString "d" then r2 else m z) → News g env.locals h ((I, o) :: nx) →
      wpAny (model prog w) A (assign target env (.ref p)) (fun _ s₂ => wpAny (model prog w) A (execs body env) (PEnd G env.locals s I o nx m (Str.ofString "m") (Str.ofString "d")) (fun _ _ => False) s₂) (fun _ _ => False) { s with heap := h, toks := tk })
    (done : ∀ g h tk r1 r2, G g → Fr g env.locals h (fun z => if z = Str.ofString "m" then r1 else if z = Str.ofString "d" then r2 else m z) → News g env.locals h news → Q .next { s with heap := h, toks := tk }) :
    OAt prog w A env target body Q E (.ref t) s := pairs_loop (Str.ofString "m") (Str.ofString "d") (OkP b news) G F N hh hm hc hd hG hok (by
      rintro I v g r1 r2 h tk o ⟨p, md, dd, t, u, n, rfl, hp, hmd⟩ hG₁ F₁ N₁
      exact turn I p md dd t u n news g r1 r2 h tk o hmd hp (News.isTup N₁ (List.mem_cons_of_mem _ hp)) hG₁ F₁ N₁) done
/-- the day that the law stands at -/
def DayOk (kind y M D N cy cm cd : Int) (b : Bool) : Prop :=
  1 ≤ M ∧ M ≤ 13 ∧ 1 ≤ D ∧ D ≤ 30 ∧ (M ≠ 13 ∨ D ≤ if b then 6 else 5) ∧ N = 2375840 + 365 * (y - 1) + sx kind (y - 1) + (M - 1) * 30 + D - 1 ∧ IsCiv (N - 1721426) cy cm cd
abbrev NeedD (kind y M D N cy cm cd : Int) (v v2 : Value) (bw bc : Addr) (m : Str → Option Value) (news : List (Addr × Obj)) : Prop :=
  (∃ t, m (Str.ofString "kind") = some (.int kind t)) ∧ m (Str.ofString "way") = some v ∧ m (Str.ofString "other") = some v2 ∧ m (Str.ofString "when") = some (.ref bw) ∧ m (Str.ofString "civil") = some (.ref bc) ∧ (∃ t, m (Str.ofString "number") = some (.int N t)) ∧
  (∃ t u v n, (bw, tup3 y M D t u v n) ∈ news) ∧ (∃ t u v n, (bc, tup3 cy cm cd t u v n) ∈ news)
abbrev NeedC (a b c kind y M D N cy cm cd : Int) (b6 : Bool) (v v2 : Value) (bw bc : Addr) (m : Str → Option Value) (news : List (Addr × Obj)) : Prop :=
  NeedD kind y M D N cy cm cd v v2 bw bc m news ∧ (∃ t, m (Str.ofString "a") = some (.int a t)) ∧ (∃ t, m (Str.ofString "b") = some (.int b t)) ∧ (∃ t, m (Str.ofString "c") = some (.int c t)) ∧
  (∃ t, m (Str.ofString "year") = some (.int y t)) ∧ m (Str.ofString "sixth") = some (.bool b6) ∧ (∃ t, m (Str.ofString "month") = some (.int M t)) ∧ (∃ t, m (Str.ofString "day") = some (.int D t))
abbrev NeedA (a b c kind : Int) (v v2 : Value) (m : Str → Option Value) (_ : List (Addr × Obj)) : Prop :=
  (∃ t, m (Str.ofString "a") = some (.int a t)) ∧ (∃ t, m (Str.ofString "b") = some (.int b t)) ∧ (∃ t, m (Str.ofString "c") = some (.int c t)) ∧ (∃ t, m (Str.ofString "kind") = some (.int kind t)) ∧ m (Str.ofString "way") = some v ∧ m (Str.ofString "other") = some v2
abbrev NeedA4 (a b c kind so : Int) (v v2 : Value) (m : Str → Option Value) (news : List (Addr × Obj)) : Prop := NeedA a b c kind v v2 m news ∧ (∃ t, m (Str.ofString "sort") = some (.int so t))
abbrev NeedA6 (a b c kind y : Int) (b6 : Bool) (v v2 : Value) (m : Str → Option Value) (news : List (Addr × Obj)) : Prop := NeedA a b c kind v v2 m news ∧ (∃ t, m (Str.ofString "year") = some (.int y t)) ∧ m (Str.ofString "sixth") = some (.bool b6)
/-- the statements of the turn of the law's last loop, from the k-th on -/
noncomputable def turnAt (w : World) (k : Nat) : List Stmt := match bodyAt w 212 22 with
  | (.For _ _ b _ _) :: _ => b.drop k
  | _ => []
def TEnd (g : Heap) (L : Addr) (s : Shared) (nx : List (Addr × Obj)) (fin : (Str → Option Value) → List (Addr × Obj) → Prop) (f : Flow) (s₂ : Shared) : Prop :=
  f = .next ∧ ∃ h tk m nx', s₂ = { s with heap := h, toks := tk } ∧ Fr g L h m ∧ News g L h nx' ∧ (∀ p ∈ nx, p ∈ nx') ∧ fin m nx'
theorem tend {g : Heap} {L : Addr} {s : Shared} {nx nx' : List (Addr × Obj)} {fin : (Str → Option Value) → List (Addr × Obj) → Prop} {h : Heap} {tk : Nat} {m : Str → Option Value}
    (F : Fr g L h m) (N : News g L h nx') (hs : ∀ p ∈ nx, p ∈ nx') (hf : fin m nx') : TEnd g L s nx fin .next { s with heap := h, toks := tk } := ⟨rfl, h, tk, m, nx', rfl, F, N, hs, hf⟩
theorem tend_up {g : Heap} {L : Addr} {s s' : Shared} {nx nx' : List (Addr × Obj)} {fin : (Str → Option Value) → List (Addr × Obj) → Prop} (hs : ∀ p ∈ nx, p ∈ nx') {h : Heap} {tk : Nat} (e : s' = { s with heap := h, toks := tk }) {f : Flow} {s₂ : Shared}
    (t : TEnd g L s' nx' fin f s₂) : TEnd g L s nx fin f s₂ := by
  subst e
  obtain ⟨e, h, tk, m, nx₂, rfl, F, N, hs₂, hf⟩ := t
  exact ⟨e, h, tk, m, nx₂, rfl, F, N, fun p hp => hs₂ p (hs p hp), hf⟩
/-- a turn of the law's last loop from its k-th statement on -/
abbrev TT (w : World) (loose : List Str) (mean : ExcName → Option Value) (mg mb : Str → Option Value) (k : Nat) (need fin : (Str → Option Value) → List (Addr × Obj) → Prop) : Prop :=
  ∀ (dp un : Nat) (gd : Option (List Code)) (cn : Str) (cs : Scope) (a : Addr) (ccd : Value) (L : Addr) (base g : Heap) (L' : Addr) (m : Str → Option Value) (news : List (Addr × Obj)) (s : Shared),
    Below (ktrTop dp un gd cn cs L a ccd [] []) base [envOf cn cs L a ccd] g → Fr g L' s.heap m → (hd.heap_39 w.params).In g → News g L' s.heap news → Top hd.view_39 loose mean mg mb g →
    cs.kind = .function → dp + 20 < recursionLimit → un + 8 * 20 < cLine → need m news →
      wpAny (model Pg w) ((ktrTop dp un gd cn cs L a ccd [] []).deeper (envOf (Str.ofString "_law_three_days") (scopeAt w 212) L' 212 (.ref 211))) (execs (turnAt w k) (envOf (Str.ofString "_law_three_days") (scopeAt w 212) L' 212 (.ref 211))) (TEnd g L' s news fin) (fun _ _ => False) s
theorem tt_cut {w : World} {loose : List Str} {mean : ExcName → Option Value} {mg mb : Str → Option Value} {k : Nat} {need fin : (Str → Option Value) → List (Addr × Obj) → Prop} (C : TT w loose mean mg mb k need fin)
    {dp un : Nat} {gd : Option (List Code)} {cn : Str} {cs : Scope} {a : Addr} {ccd : Value} {L : Addr} {base g : Heap} {L' : Addr} {m : Str → Option Value} {news news₀ : List (Addr × Obj)} {s s₀ : Shared} {h₁ : Heap} {tk₁ : Nat}
    (F : Fr g L' s.heap m) (B : Below (ktrTop dp un gd cn cs L a ccd [] []) base [envOf cn cs L a ccd] g) (X : (hd.heap_39 w.params).In g) (N : News g L' s.heap news) (T : Top hd.view_39 loose mean mg mb g)
    (hk : cs.kind = .function) (h1 : dp + 20 < recursionLimit) (h2 : un + 8 * 20 < cLine) (hn : need m news) (hs : ∀ p ∈ news₀, p ∈ news) (he : s = { s₀ with heap := h₁, toks := tk₁ }) :
      wpAny (model Pg w) ((ktrTop dp un gd cn cs L a ccd [] []).deeper (envOf (Str.ofString "_law_three_days") (scopeAt w 212) L' 212 (.ref 211))) (execs (turnAt w k) (envOf (Str.ofString "_law_three_days") (scopeAt w 212) L' 212 (.ref 211))) (TEnd g L' s₀ news₀ fin) (fun _ _ => False) s :=
  wpAny_mono (C dp un gd cn cs a ccd L base g L' m news s B F X N T hk h1 h2 hn) (fun _ _ t => tend_up hs he t) fun _ _ x => x
abbrev NeedI (kind y M D N cy cm cd i : Int) (v v2 : Value) (bw bc : Addr) (m : Str → Option Value) (news : List (Addr × Obj)) : Prop :=
  NeedD kind y M D N cy cm cd v v2 bw bc m news ∧ (∃ t, m (Str.ofString "i") = some (.int i t))
abbrev NeedK (kind y M D N cy cm cd i : Int) (x : UInt64) (ba bk : Bool) (v v2 : Value) (bw bc : Addr) (m : Str → Option Value) (news : List (Addr × Obj)) : Prop :=
  NeedI kind y M D N cy cm cd i v v2 bw bc m news ∧ (∃ t, m (Str.ofString "year") = some (.int y t)) ∧ (∃ t, m (Str.ofString "month") = some (.int M t)) ∧ (∃ t, m (Str.ofString "day") = some (.int D t)) ∧
  (∃ t, m (Str.ofString "told") = some (.float x t)) ∧ m (Str.ofString "agreed") = some (.bool ba) ∧ m (Str.ofString "back") = some (.bool bk)
/-- what holds ahead of the i-th turn -/
def Jd (kind : Int) (v v2 : Value) (n i : Int) (m : Str → Option Value) (news : List (Addr × Obj)) : Prop :=
  ∃ y M D cy cm cd b bw bc, 1 ≤ y ∧ y ≤ 1000000 + i ∧ decide (leapZ kind y) = b ∧ DayOk kind y M D (n + i) cy cm cd b ∧ NeedD kind y M D (n + i) cy cm cd v v2 bw bc m news
theorem c_home {w loose mean mg mb} (kind n r y m d : Int) (x : UInt64) (v : Value) (tx : Tok) (hv : Way kind v) (hx : IsF x (9503358 + 4 * n + r)) (hn : 0 ≤ n ∧ n ≤ 1000000000) (hr : 0 ≤ r ∧ r ≤ 1)
    (e : fy kind n = y ∧ fd kind n / 30 + 1 = m ∧ fd kind n % 30 + 1 = d) : CB w loose mean mg mb 102 4 [.float x tx, v] [] (GT y m d) := by
  obtain ⟨rfl, rfl, rfl⟩ := e
  exact c_from kind n r x v tx hv hx hn hr
theorem c_homeg {w loose mean mg mb} (kind y m d n y' m' d' : Int) (v : Value) (ty tm td : Tok) (hv : Way kind v) (hc : IsCiv (654414 + n) y m d) (hn : 0 ≤ n ∧ n ≤ 1000000000) (hy2 : y ≤ 2000000)
    (e : fy kind n = y' ∧ fd kind n / 30 + 1 = m' ∧ fd kind n % 30 + 1 = d') : CB w loose mean mg mb 117 10 [.int y ty, .int m tm, .int d td, v] [] (GT y' m' d') := by
  obtain ⟨rfl, rfl, rfl⟩ := e
  exact c_fromgreg kind y m d n v ty tm td hv hc hn hy2
theorem isF_to {x : UInt64} {a b : Int} (h : IsF x a) (e : a = b) : IsF x b := e ▸ h
theorem news_ne {g h : Heap} {L I b : Addr} {o o' : Obj} {nx : List (Addr × Obj)} (N : News g L h nx) (h1 : (I, o) ∈ nx) (h2 : (b, o') ∈ nx) (hc : o'.cls ≠ o.cls) : b ≠ I := by
  rintro rfl
  have e1 := (N _ h1).1
  rw [(N _ h2).1] at e1
  cases e1
  exact hc rfl
section
variable {w : World} {loose : List Str} {mean : ExcName → Option Value} {mg mb : Str → Option Value} {dp un : Nat} {gd : Option (List Code)} {cn : Str} {cs : Scope} {a : Addr} {ccd : Value} {cl : List (Str × Addr)} {outer : List Env} {A₀ : Around} {base h₀ : Heap} {L : Addr} {m : Str → Option Value} {news : List (Addr × Obj)} {s : Shared} {Q E : Value → Shared → Prop}
theorem whole_use {bw : Addr} {x y z : Int} {t1 t2 t3 : Tok} {nw : Nat} (F : Fr h₀ L s.heap m) (N : News h₀ L s.heap news) (hm : (bw, tup3 x y z t1 t2 t3 nw) ∈ news) (B : Below A₀ base outer h₀) (X : (hd.heap_39 w.params).In h₀) (T : Top hd.view_39 loose mean mg mb h₀)
    (hk : cs.kind = .function) (h1 : dp + 10 < recursionLimit) (h2 : un + 8 * 10 < cLine) (g : GV (fun _ => .bool true) h₀ L m news s Q) :
    wpAny (model Pg w) (ktrTop dp un gd cn cs L a ccd cl outer) (call (.ref 191) [.ref bw] []) Q E s := cb_use (c_whole bw x y z t1 t2 t3 nw) B F X N T hk h1 h2 ⟨hm, g⟩
theorem onward_use {kind y M d : Int} {bw : Addr} {tk t1 t2 t3 : Tok} {nw : Nat} {b : Bool} (F : Fr h₀ L s.heap m) (N : News h₀ L s.heap news) (hm : (bw, tup3 y M d t1 t2 t3 nw) ∈ news) (hk3 : kind = 0 ∨ kind = 1 ∨ kind = 2) (hy : 1 ≤ y) (hb : decide (leapZ kind y) = b)
    (B : Below A₀ base outer h₀) (X : (hd.heap_39 w.params).In h₀) (T : Top hd.view_39 loose mean mg mb h₀)
    (hk : cs.kind = .function) (h1 : dp + 3 < recursionLimit) (h2 : un + 8 * 3 < cLine) (g : GT (onY kind y M d) (onM kind y M d) (onD kind y M d) h₀ L m news s Q) :
    wpAny (model Pg w) (ktrTop dp un gd cn cs L a ccd cl outer) (call (.ref 158) [.int kind tk, .ref bw] []) Q E s := cb_use (c_onward kind y M d bw tk t1 t2 t3 nw b hk3 hy hb) B F X N T hk h1 h2 ⟨hm, g⟩
theorem morrow_use {n y M d y' M' d' : Int} {bw : Addr} {t1 t2 t3 : Tok} {nw : Nat} (F : Fr h₀ L s.heap m) (N : News h₀ L s.heap news) (hm : (bw, tup3 y M d t1 t2 t3 nw) ∈ news) (hc : IsCiv n y M d) (hc' : IsCiv (n + 1) y' M' d')
    (B : Below A₀ base outer h₀) (X : (hd.heap_39 w.params).In h₀) (T : Top hd.view_39 loose mean mg mb h₀)
    (hk : cs.kind = .function) (h1 : dp + 3 < recursionLimit) (h2 : un + 8 * 3 < cLine) (g : GT y' M' d' h₀ L m news s Q) :
    wpAny (model Pg w) (ktrTop dp un gd cn cs L a ccd cl outer) (call (.ref 179) [.ref bw] []) Q E s := cb_use (c_morrow n y M d y' M' d' bw t1 t2 t3 nw hc hc') B F X N T hk h1 h2 ⟨hm, g⟩
end
/-! ## The plain law: no program in sight -/
theorem dig1 {q : Int} (hq : 0 ≤ q) : ∃ a b c e f : Int, q = 4000 * a + 400 * b + 100 * c + 4 * e + f ∧ 0 ≤ a ∧ 0 ≤ b ∧ b ≤ 9 ∧ 0 ≤ c ∧ c ≤ 3 ∧ 0 ≤ e ∧ e ≤ 24 ∧ 0 ≤ f ∧ f ≤ 3 := by
  refine ⟨q / 4000, q % 4000 / 400, q % 4000 % 400 / 100, q % 4000 % 400 % 100 / 4, q % 4000 % 400 % 100 % 4, ?_, ?_, ?_, ?_, ?_, ?_, ?_, ?_, ?_, ?_⟩ <;> omega
theorem dig1_at {q a b c e f : Int} (h : q = 4000 * a + 400 * b + 100 * c + 4 * e + f) (h1 : 0 ≤ b ∧ b ≤ 9) (h2 : 0 ≤ c ∧ c ≤ 3) (h3 : 0 ≤ e ∧ e ≤ 24) (h4 : 0 ≤ f ∧ f ≤ 3) :
    q / 4000 = a ∧ q % 4000 / 400 = b ∧ q % 4000 % 400 / 100 = c ∧ q % 4000 % 400 % 100 / 4 = e ∧ q % 4000 % 400 % 100 % 4 = f := by
  have e1 : q / 4000 = a := by omega
  have e2 : q % 4000 = 400 * b + 100 * c + 4 * e + f := by omega
  have e3 : (400 * b + 100 * c + 4 * e + f) / 400 = b := by omega
  have e4 : (400 * b + 100 * c + 4 * e + f) % 400 = 100 * c + 4 * e + f := by omega
  have e5 : (100 * c + 4 * e + f) / 100 = c := by omega
  have e6 : (100 * c + 4 * e + f) % 100 = 4 * e + f := by omega
  rw [e1, e2, e3, e4, e5, e6]
  refine ⟨rfl, rfl, rfl, by omega, by omega⟩
theorem yj1 {y a b c e f : Int} (h : y - 13 = 4000 * a + 400 * b + 100 * c + 4 * e + f) (h0 : 0 ≤ a) (h1 : 0 ≤ b ∧ b ≤ 9) (h2 : 0 ≤ c ∧ c ≤ 3) (h3 : 0 ≤ e ∧ e ≤ 24) (h4 : 0 ≤ f ∧ f ≤ 3) :
    yj 1 y = 4383 + a * 1460969 + b * 146097 + c * 36524 + e * 1461 + f * 365 := by
  unfold yj
  by_cases hy : y < 15
  · rw [if_pos (by omega)]
    have ea : a = 0 := by omega
    have eb : b = 0 := by omega
    have ec : c = 0 := by omega
    have ee : e = 0 := by omega
    subst ea eb ec ee
    omega
  · rw [if_neg (by omega), if_pos rfl]
    obtain ⟨e1, e2, e3, e4, e5⟩ := dig1_at h h1 h2 h3 h4
    rw [e1, e2, e3, e4, e5]
theorem yj0 {kind y : Int} (h : kind = 0 ∨ (kind = 1 ∧ y < 15) ∨ (kind = 2 ∧ y < 17)) : yj kind y = y / 4 * 1461 + y % 4 * 365 - 365 := by
  unfold yj; rw [if_pos h]
theorem dig2 {q : Int} (hq : 0 ≤ q) : ∃ a e f : Int, q = 128 * a + 4 * e + f ∧ 0 ≤ a ∧ 0 ≤ e ∧ e ≤ 31 ∧ 0 ≤ f ∧ f ≤ 3 := by
  refine ⟨q / 128, q % 128 / 4, q % 128 % 4, ?_, ?_, ?_, ?_, ?_, ?_⟩ <;> omega
theorem yj2 {y a e f : Int} (h : y - 17 = 128 * a + 4 * e + f) (h0 : 0 ≤ a) (h3 : 0 ≤ e ∧ e ≤ 31) (h4 : 0 ≤ f ∧ f ≤ 3) :
    yj 2 y = 5844 + a * 46751 + e * 1461 + f * 365 := by
  unfold yj
  rw [if_neg (by omega), if_neg (by omega)]
  have e1 : (y - 17) / 128 = a := by omega
  have e2 : (y - 17) % 128 = 4 * e + f := by omega
  rw [e1, e2]
  omega
theorem sx_le {kind p : Int} (hk3 : kind = 0 ∨ kind = 1 ∨ kind = 2) (h : 0 ≤ p) : 0 ≤ sx kind p ∧ sx kind p ≤ p / 4 + 1 := by
  unfold sx
  split
  · omega
  · split <;> omega
theorem sx_step {kind y : Int} (hk3 : kind = 0 ∨ kind = 1 ∨ kind = 2) (hy : 1 ≤ y) : sx kind y = sx kind (y - 1) + if leapZ kind y then 1 else 0 := by
  rcases hk3 with rfl | rfl | rfl
  · have e : ∀ p, sx 0 p = (p + 1) / 4 := fun p => by unfold sx; rw [if_neg (by omega), if_neg (by omega)]
    rw [e, e]
    by_cases h : leapZ 0 y
    · rw [if_pos h]; unfold leapZ at h; omega
    · rw [if_neg h]; unfold leapZ at h; omega
  · have e1 : ∀ p, 14 < p → sx 1 p = p / 4 - p / 100 + p / 400 := fun p hp => by unfold sx; rw [if_pos ⟨rfl, hp⟩]
    have e2 : ∀ p, ¬ 14 < p → sx 1 p = (p + 1) / 4 := fun p hp => by unfold sx; rw [if_neg (by omega), if_neg (by omega)]
    by_cases h15 : y < 15
    · rw [e2 y (by omega), e2 (y - 1) (by omega)]
      by_cases h : leapZ 1 y
      · rw [if_pos h]; unfold leapZ at h; omega
      · rw [if_neg h]; unfold leapZ at h; omega
    · by_cases h16 : y = 15
      · subst h16; rw [if_neg (by unfold leapZ; decide)]; decide
      · rw [e1 y (by omega), e1 (y - 1) (by omega)]
        by_cases h : leapZ 1 y
        · rw [if_pos h]; unfold leapZ at h
          have h' : (y % 4 = 0 ∧ y % 100 ≠ 0) ∨ y % 400 = 0 := by omega
          clear h
          omega
        · rw [if_neg h]; unfold leapZ at h
          have h' : ¬ ((y % 4 = 0 ∧ y % 100 ≠ 0) ∨ y % 400 = 0) := by omega
          clear h
          omega
  · have e1 : ∀ p, 16 < p → sx 2 p = p / 4 - p / 128 := fun p hp => by unfold sx; rw [if_neg (by omega), if_pos ⟨rfl, hp⟩]
    have e2 : ∀ p, ¬ 16 < p → sx 2 p = (p + 1) / 4 := fun p hp => by unfold sx; rw [if_neg (by omega), if_neg (by omega)]
    by_cases h15 : y < 17
    · rw [e2 y (by omega), e2 (y - 1) (by omega)]
      by_cases h : leapZ 2 y
      · rw [if_pos h]; unfold leapZ at h; omega
      · rw [if_neg h]; unfold leapZ at h; omega
    · by_cases h16 : y = 17
      · subst h16; rw [if_neg (by unfold leapZ; decide)]; decide
      · rw [e1 y (by omega), e1 (y - 1) (by omega)]
        by_cases h : leapZ 2 y
        · rw [if_pos h]; unfold leapZ at h
          have h' : y % 4 = 0 ∧ y % 128 ≠ 0 := by omega
          clear h
          omega
        · rw [if_neg h]; unfold leapZ at h
          have h' : ¬ (y % 4 = 0 ∧ y % 128 ≠ 0) := by omega
          clear h
          omega
theorem yj_ag {kind y : Int} (hk3 : kind = 0 ∨ kind = 1 ∨ kind = 2) (hy : 1 ≤ y ∧ y ≤ 2000000) (h : agZ kind y) : yj kind y = 365 * (y - 1) + sx kind (y - 1) := by
  rcases hk3 with rfl | rfl | rfl
  · rw [yj0 (.inl rfl)]
    unfold sx; rw [if_neg (by omega), if_neg (by omega)]
    omega
  · by_cases h15 : y < 16
    · by_cases h16 : y = 15
      · subst h16; decide
      · rw [yj0 (.inr (.inl ⟨rfl, by omega⟩))]
        unfold sx; rw [if_neg (by omega), if_neg (by omega)]
        omega
    · unfold sx; rw [if_pos ⟨rfl, by omega⟩]
      unfold agZ at h
      have h' : y < 4001 ∧ (y % 400 < 100 ∨ y % 100 = 0 ∨ 12 < y % 100) := by omega
      clear h
      obtain ⟨a, b, c, e, f, hd, ha, hb1, hb2, hc1, hc2, he1, he2, hf1, hf2⟩ := dig1 (show 0 ≤ y - 13 by omega)
      rw [yj1 hd ha ⟨hb1, hb2⟩ ⟨hc1, hc2⟩ ⟨he1, he2⟩ ⟨hf1, hf2⟩]
      have ea : a = 0 := by omega
      subst ea
      have g1 : (y - 1) / 4 = 3 + 100 * b + 25 * c + e := by omega
      rw [g1]
      by_cases h88 : 4 * e + f < 88
      · have g2 : (y - 1) / 100 = 4 * b + c := by omega
        have g3 : (y - 1) / 400 = b := by omega
        rw [g2, g3]; omega
      · have g2 : (y - 1) / 100 = 4 * b + c + 1 := by omega
        have g4 : y % 100 = 4 * e + f - 87 := by omega
        have g5 : c = 3 := by omega
        subst g5
        have g3 : (y - 1) / 400 = b + 1 := by omega
        rw [g2, g3]; omega
  · by_cases h15 : y < 17
    · rw [yj0 (.inr (.inr ⟨rfl, by omega⟩))]
      unfold sx; rw [if_neg (by omega), if_neg (by omega)]
      omega
    · by_cases h17 : y = 17
      · subst h17; decide
      · unfold sx; rw [if_neg (by omega), if_pos ⟨rfl, by omega⟩]
        unfold agZ at h
        have h' : y < 129 ∨ y % 128 = 0 ∨ 16 < y % 128 := by omega
        clear h
        obtain ⟨a, e, f, hd, ha, he1, he2, hf1, hf2⟩ := dig2 (show 0 ≤ y - 17 by omega)
        rw [yj2 hd ha ⟨he1, he2⟩ ⟨hf1, hf2⟩]
        have g1 : (y - 1) / 4 = 4 + 32 * a + e := by omega
        rw [g1]
        have g2 : (y - 1) / 128 = a := by omega
        rw [g2]; omega
theorem yj_diff {kind y : Int} (hk3 : kind = 0 ∨ kind = 1 ∨ kind = 2) (hy : 1 ≤ y ∧ y ≤ 2000000) : yj kind (y + 1) - yj kind y = 365 ∨ yj kind (y + 1) - yj kind y = 366 := by
  rcases hk3 with rfl | rfl | rfl
  · rw [yj0 (.inl rfl), yj0 (.inl rfl)]; omega
  · by_cases h13 : y < 13
    · rw [yj0 (.inr (.inl ⟨rfl, by omega⟩)), yj0 (.inr (.inl ⟨rfl, by omega⟩))]; omega
    · obtain ⟨a, b, c, e, f, hd, ha, hb1, hb2, hc1, hc2, he1, he2, hf1, hf2⟩ := dig1 (show 0 ≤ y - 13 by omega)
      rw [yj1 hd ha ⟨hb1, hb2⟩ ⟨hc1, hc2⟩ ⟨he1, he2⟩ ⟨hf1, hf2⟩]
      by_cases g1 : f < 3
      · rw [yj1 (y := y + 1) (a := a) (b := b) (c := c) (e := e) (f := f + 1) (by omega) (by omega) (by omega) (by omega) (by omega) (by omega)]; omega
      · by_cases g2 : e < 24
        · rw [yj1 (y := y + 1) (a := a) (b := b) (c := c) (e := e + 1) (f := 0) (by omega) (by omega) (by omega) (by omega) (by omega) (by omega)]; omega
        · by_cases g3 : c < 3
          · rw [yj1 (y := y + 1) (a := a) (b := b) (c := c + 1) (e := 0) (f := 0) (by omega) (by omega) (by omega) (by omega) (by omega) (by omega)]; omega
          · by_cases g4 : b < 9
            · rw [yj1 (y := y + 1) (a := a) (b := b + 1) (c := 0) (e := 0) (f := 0) (by omega) (by omega) (by omega) (by omega) (by omega) (by omega)]; omega
            · rw [yj1 (y := y + 1) (a := a + 1) (b := 0) (c := 0) (e := 0) (f := 0) (by omega) (by omega) (by omega) (by omega) (by omega) (by omega)]; omega
  · by_cases h17 : y < 16
    · rw [yj0 (.inr (.inr ⟨rfl, by omega⟩)), yj0 (.inr (.inr ⟨rfl, by omega⟩))]; omega
    · by_cases h16 : y = 16
      · subst h16; decide
      · obtain ⟨a, e, f, hd, ha, he1, he2, hf1, hf2⟩ := dig2 (show 0 ≤ y - 17 by omega)
        rw [yj2 hd ha ⟨he1, he2⟩ ⟨hf1, hf2⟩]
        by_cases g1 : f < 3
        · rw [yj2 (y := y + 1) (a := a) (e := e) (f := f + 1) (by omega) (by omega) (by omega) (by omega)]; omega
        · by_cases g2 : e < 31
          · rw [yj2 (y := y + 1) (a := a) (e := e + 1) (f := 0) (by omega) (by omega) (by omega) (by omega)]; omega
          · rw [yj2 (y := y + 1) (a := a + 1) (e := 0) (f := 0) (by omega) (by omega) (by omega) (by omega)]; omega
theorem yj_room {kind y : Int} (hk3 : kind = 0 ∨ kind = 1 ∨ kind = 2) (hy : 1 ≤ y ∧ y ≤ 2000001) : 0 ≤ yj kind y ∧ yj kind y ≤ 1000000000 := by
  rcases hk3 with rfl | rfl | rfl
  · rw [yj0 (.inl rfl)]; omega
  · by_cases h13 : y < 13
    · rw [yj0 (.inr (.inl ⟨rfl, by omega⟩))]; omega
    · obtain ⟨a, b, c, e, f, hd, ha, hb1, hb2, hc1, hc2, he1, he2, hf1, hf2⟩ := dig1 (show 0 ≤ y - 13 by omega)
      rw [yj1 hd ha ⟨hb1, hb2⟩ ⟨hc1, hc2⟩ ⟨he1, he2⟩ ⟨hf1, hf2⟩]; omega
  · by_cases h17 : y < 17
    · rw [yj0 (.inr (.inr ⟨rfl, by omega⟩))]; omega
    · obtain ⟨a, e, f, hd, ha, he1, he2, hf1, hf2⟩ := dig2 (show 0 ≤ y - 17 by omega)
      rw [yj2 hd ha ⟨he1, he2⟩ ⟨hf1, hf2⟩]; omega
theorem yj_size {kind y : Int} (hk3 : kind = 0 ∨ kind = 1 ∨ kind = 2) (hy : 1 ≤ y ∧ y ≤ 2000000) : (yj kind (y + 1) - yj kind y = 365 ∨ yj kind (y + 1) - yj kind y = 366) ∧
    (agZ kind y → agZ kind (y + 1) → yj kind (y + 1) - yj kind y = if leapZ kind y then 366 else 365) ∧ 0 ≤ yj kind y ∧ yj kind (y + 1) ≤ 1000000000 := by
  refine ⟨yj_diff hk3 hy, fun h1 h2 => ?_, (yj_room hk3 (by omega)).1, (yj_room hk3 (by omega)).2⟩
  have e := yj_diff hk3 hy
  have s := sx_step hk3 hy.1
  have e1 := yj_ag hk3 hy h1
  by_cases h : leapZ kind y
  · rw [if_pos h] at s ⊢
    by_cases h3 : y + 1 ≤ 2000000
    · have e2 := yj_ag hk3 (show 1 ≤ y + 1 ∧ y + 1 ≤ 2000000 by omega) h2
      rw [show y + 1 - 1 = y by omega] at e2
      omega
    · have hy2 : y = 2000000 := by omega
      subst hy2
      have e2 : yj kind (2000000 + 1) = 365 * 2000000 + sx kind 2000000 := by
        rcases hk3 with rfl | rfl | rfl
        · decide
        · exact absurd h2 (by unfold agZ; decide)
        · exact absurd h2 (by unfold agZ; decide)
      omega
  · rw [if_neg h] at s ⊢
    by_cases h3 : y + 1 ≤ 2000000
    · have e2 := yj_ag hk3 (show 1 ≤ y + 1 ∧ y + 1 ≤ 2000000 by omega) h2
      rw [show y + 1 - 1 = y by omega] at e2
      omega
    · have hy2 : y = 2000000 := by omega
      subst hy2
      have e2 : yj kind (2000000 + 1) = 365 * 2000000 + sx kind 2000000 := by
        rcases hk3 with rfl | rfl | rfl
        · decide
        · exact absurd h2 (by unfold agZ; decide)
        · exact absurd h2 (by unfold agZ; decide)
      omega
/-- the four-year walk at a written place -/
theorem yq_at {j e f p : Int} (h : j = 1461 * e + 365 * f + p) (h1 : 0 ≤ f ∧ f ≤ 3) (h2 : 0 ≤ p) (h3 : p ≤ 364 ∨ (p = 365 ∧ f = 3)) : yq j = 4 * e + f ∧ dq j = p := by
  by_cases g : j % 1461 = 1460
  · have e1 : j / 1461 = e := by omega
    unfold yq dq; rw [if_pos g, if_pos g, e1]; omega
  · have e1 : j / 1461 = e := by omega
    have e2 : j % 1461 = 365 * f + p := by omega
    have e3 : (365 * f + p) / 365 = f := by omega
    have e4 : (365 * f + p) % 365 = p := by omega
    unfold yq dq; rw [if_neg g, if_neg g, e1, e2, e3, e4]; omega
theorem home {kind y M D : Int} (hk3 : kind = 0 ∨ kind = 1 ∨ kind = 2) (hy : 1 ≤ y ∧ y ≤ 2000000) (hM : 1 ≤ M ∧ M ≤ 13) (hD : 1 ≤ D ∧ D ≤ 30) (h13 : M ≠ 13 ∨ D ≤ if leapZ kind y then 6 else 5)
    (hb : M < 13 ∨ D < 6 ∨ (agZ kind y ∧ ¬ (kind = 1 ∧ y % 400 = 12))) : fy kind (yj kind y + (M - 1) * 30 + D - 1) = y ∧ fd kind (yj kind y + (M - 1) * 30 + D - 1) = (M - 1) * 30 + D - 1 := by
  obtain ⟨p, hp⟩ : ∃ p : Int, p = (M - 1) * 30 + D - 1 := ⟨_, rfl⟩
  have hp2 : 0 ≤ p ∧ (p ≤ 364 ∨ (p = 365 ∧ leapZ kind y ∧ agZ kind y ∧ ¬ (kind = 1 ∧ y % 400 = 12))) := by
    refine ⟨by omega, ?_⟩
    by_cases h : leapZ kind y
    · rw [if_pos h] at h13
      rcases hb with h1 | h1 | ⟨h1, h2⟩
      · exact .inl (by omega)
      · exact .inl (by omega)
      · by_cases h3 : p ≤ 364
        · exact .inl h3
        · exact .inr ⟨by omega, h, h1, h2⟩
    · rw [if_neg h] at h13
      exact .inl (by omega)
  rw [show yj kind y + (M - 1) * 30 + D - 1 = yj kind y + p by omega, ← hp]
  clear h13 hb hp
  obtain ⟨hp0, hp1⟩ := hp2
  have four : ∀ {kind y : Int}, 1 ≤ y → (kind = 0 ∨ (kind = 1 ∧ yj kind y + p ≤ 4383) ∨ (kind = 2 ∧ yj kind y + p ≤ 6209)) → yj kind y = y / 4 * 1461 + y % 4 * 365 - 365 → (p ≤ 364 ∨ (p = 365 ∧ y % 4 = 3)) → fy kind (yj kind y + p) = y ∧ fd kind (yj kind y + p) = p := by
    intro kind y h0 h1 h2 h3
    obtain ⟨e1, e2⟩ := fy0 h1
    rw [e1, e2]
    obtain ⟨g1, g2⟩ := yq_at (j := yj kind y + p + 365) (e := y / 4) (f := y % 4) (p := p) (by omega) (by omega) hp0 h3
    rw [g1, g2]; omega
  rcases hk3 with rfl | rfl | rfl
  · refine four hy.1 (.inl rfl) (yj0 (.inl rfl)) ?_
    rcases hp1 with h | ⟨h1, h2, _⟩
    · exact .inl h
    · unfold leapZ at h2; exact .inr ⟨h1, by omega⟩
  · by_cases h13 : y < 13
    · have e := yj0 (kind := 1) (y := y) (.inr (.inl ⟨rfl, by omega⟩))
      refine four hy.1 (.inr (.inl ⟨rfl, ?_⟩)) e ?_
      · have : y ≤ 12 := by omega
        by_cases h12 : y = 12
        · have : p ≤ 364 := by
            rcases hp1 with h | ⟨h1, h2, _⟩
            · exact h
            · subst h12; exact absurd h2 (by unfold leapZ; decide)
          omega
        · omega
      · rcases hp1 with h | ⟨h1, h2, _⟩
        · exact .inl h
        · unfold leapZ at h2; exact .inr ⟨h1, by omega⟩
    · obtain ⟨a, b, c, e, f, hd, ha, hb1, hb2, hc1, hc2, he1, he2, hf1, hf2⟩ := dig1 (show 0 ≤ y - 13 by omega)
      have ey := yj1 hd ha ⟨hb1, hb2⟩ ⟨hc1, hc2⟩ ⟨he1, he2⟩ ⟨hf1, hf2⟩
      have hp3 : p ≤ 364 ∨ (p = 365 ∧ f = 3 ∧ e < 24) := by
        rcases hp1 with h | ⟨h1, h2, h3, h4⟩
        · exact .inl h
        · have h5 : (y % 4 = 0 ∧ y % 100 ≠ 0) ∨ y % 400 = 0 := by unfold leapZ at h2; omega
          have h6 : y % 400 < 100 ∨ y % 100 = 0 ∨ 12 < y % 100 := by unfold agZ at h3; omega
          have h7 : y % 4 = 0 := by omega
          have h8 : f = 3 := by omega
          subst h8
          refine .inr ⟨h1, rfl, ?_⟩
          rcases Int.lt_or_le e 24 with g | g
          · exact g
          · exfalso
            have he : e = 24 := by omega
            subst he
            have h9 : y % 100 = 12 := by omega
            omega
      by_cases hn : yj 1 y + p ≤ 4383
      · have h1 : y = 13 ∧ p = 0 := by omega
        obtain ⟨rfl, rfl⟩ := h1
        exact four (by omega) (.inr (.inl ⟨rfl, hn⟩)) (yj0 (.inr (.inl ⟨rfl, by omega⟩))) (.inl (by omega))
      · obtain ⟨e1, e2⟩ := fy1 (n := yj 1 y + p) (by omega)
        have d0 : yj 1 y + p - 365 * 12 - 3 = 1460969 * a + (146097 * b + (36524 * c + (1461 * e + 365 * f + p))) := by omega
        have r0 : 0 ≤ 1461 * e + 365 * f + p ∧ 1461 * e + 365 * f + p < 36524 := by omega
        obtain ⟨r, hr⟩ : ∃ r : Int, r = 1461 * e + 365 * f + p := ⟨_, rfl⟩
        rw [← hr] at d0 r0
        have d1 : (yj 1 y + p - 365 * 12 - 3) / 1460969 = a := by omega
        have d2 : (yj 1 y + p - 365 * 12 - 3) % 1460969 = 146097 * b + (36524 * c + r) := by omega
        have d3 : (146097 * b + (36524 * c + r)) / 146097 = b := by omega
        have d4 : (146097 * b + (36524 * c + r)) % 146097 = 36524 * c + r := by omega
        have d5 : (36524 * c + r) / 36524 = c := by omega
        have d6 : (36524 * c + r) % 36524 = r := by omega
        rw [e1, e2, d1, d2, d3, d4, d5, d6]
        obtain ⟨g1, g2⟩ := yq_at hr ⟨hf1, hf2⟩ hp0 (by omega)
        rw [g1, g2]; omega
  · by_cases h17 : y < 17
    · have e := yj0 (kind := 2) (y := y) (.inr (.inr ⟨rfl, by omega⟩))
      refine four hy.1 (.inr (.inr ⟨rfl, by omega⟩)) e ?_
      rcases hp1 with h | ⟨h1, h2, _⟩
      · exact .inl h
      · unfold leapZ at h2; exact .inr ⟨h1, by omega⟩
    · obtain ⟨a, e, f, hd, ha, he1, he2, hf1, hf2⟩ := dig2 (show 0 ≤ y - 17 by omega)
      have ey := yj2 hd ha ⟨he1, he2⟩ ⟨hf1, hf2⟩
      have hp3 : p ≤ 364 ∨ (p = 365 ∧ f = 3 ∧ e < 31) := by
        rcases hp1 with h | ⟨h1, h2, h3, _⟩
        · exact .inl h
        · have h5 : y % 4 = 0 ∧ y % 128 ≠ 0 := by unfold leapZ at h2; omega
          have h6 : y < 129 ∨ y % 128 = 0 ∨ 16 < y % 128 := by unfold agZ at h3; omega
          have h8 : f = 3 := by omega
          subst h8
          refine .inr ⟨h1, rfl, ?_⟩
          rcases Int.lt_or_le e 31 with g | g
          · exact g
          · exfalso
            have he : e = 31 := by omega
            subst he
            have h9 : y % 128 = 16 := by omega
            omega
      by_cases hn : yj 2 y + p ≤ 6209
      · have hy3 : y = 17 ∨ (y = 18 ∧ p = 0) := by omega
        refine four (by omega) (.inr (.inr ⟨rfl, hn⟩)) ?_ ?_
        · rcases hy3 with rfl | ⟨rfl, _⟩ <;> decide
        · rcases hy3 with rfl | ⟨rfl, rfl⟩ <;> omega
      · obtain ⟨e1, e2⟩ := fy2 (n := yj 2 y + p) (by omega)
        obtain ⟨r, hr⟩ : ∃ r : Int, r = 1461 * e + 365 * f + p := ⟨_, rfl⟩
        have r0 : 0 ≤ r ∧ r < 46751 := by omega
        have d0 : yj 2 y + p - 365 * 16 - 4 = 46751 * a + r := by omega
        have d1 : (yj 2 y + p - 365 * 16 - 4) / 46751 = a := by omega
        have d2 : (yj 2 y + p - 365 * 16 - 4) % 46751 = r := by omega
        rw [e1, e2, d1, d2]
        obtain ⟨g1, g2⟩ := yq_at hr ⟨hf1, hf2⟩ hp0 (by omega)
        rw [g1, g2]; omega
theorem civ_le {N y m d : Int} (h : IsCiv N y m d) : y ≤ N / 365 + 1 := by
  obtain ⟨c1, c2, c3, c4, c5, c6⟩ := h
  have r := gm_room c2 c3 c4 c5
  have g : 365 * (y - 1) ≤ gy y := by unfold gy; omega
  omega
theorem civ_ex (n : Int) (h : 0 ≤ n) : ∃ y m d, IsCiv n y m d ∧ y ≤ n / 365 + 1 := by
  have all : ∀ k : Nat, ∃ y m d, IsCiv (k : Int) y m d := by
    intro k
    induction k with
    | zero => exact ⟨1, 1, 1, by decide, by decide, by decide, by decide, by decide, by decide⟩
    | succ k ih =>
      obtain ⟨y, m, d, hc⟩ := ih
      rw [show ((k + 1 : Nat) : Int) = (k : Int) + 1 by omega]
      rcases civ_next hc with ⟨_, h⟩ | ⟨_, _, h⟩ | ⟨_, _, h⟩ <;> exact ⟨_, _, _, h⟩
  obtain ⟨y, m, d, hc⟩ := all n.toNat
  rw [show ((n.toNat : Nat) : Int) = n by omega] at hc
  exact ⟨y, m, d, hc, civ_le hc⟩
theorem jd_next {kind y M D N cy cm cd i cy' cm' cd' : Int} {b : Bool} {v v2 : Value} {bw bc : Addr} {m : Str → Option Value} {nx : List (Addr × Obj)} (hi : 0 ≤ i ∧ i ≤ 2) (hy : 1 ≤ y ∧ y ≤ 1000000 + i) (hk3 : kind = 0 ∨ kind = 1 ∨ kind = 2)
    (hb : decide (leapZ kind y) = b) (hd : DayOk kind y M D N cy cm cd b) (hc : IsCiv (N - 1721426 + 1) cy' cm' cd') (hn : NeedD kind (onY kind y M D) (onM kind y M D) (onD kind y M D) (N + 1) cy' cm' cd' v v2 bw bc m nx) :
    Jd kind v v2 (N - i) (i + 1) m nx := by
  obtain ⟨d1, d2, d3, d4, d5, d6, d7⟩ := hd
  have s := sx_step hk3 hy.1
  have hlen : (leapZ kind y ∧ (M ≠ 13 ∨ D ≤ 6) ∧ sx kind y = sx kind (y - 1) + 1 ∧ (if leapZ kind y then (6 : Int) else 5) = 6) ∨ (¬ leapZ kind y ∧ (M ≠ 13 ∨ D ≤ 5) ∧ sx kind y = sx kind (y - 1) ∧ (if leapZ kind y then (6 : Int) else 5) = 5) := by
    subst hb
    by_cases h : leapZ kind y
    · rw [if_pos h] at s
      rw [decide_eq_true h, if_pos rfl] at d5
      exact .inl ⟨h, d5, s, if_pos h⟩
    · rw [if_neg h] at s
      rw [decide_eq_false h, if_neg (by decide)] at d5
      exact .inr ⟨h, d5, by omega, if_neg h⟩
  have hc2 : IsCiv (N + 1 - 1721426) cy' cm' cd' := by rw [show N + 1 - 1721426 = N - 1721426 + 1 by omega]; exact hc
  have e0 : N - i + (i + 1) = N + 1 := by omega
  have key : 1 ≤ onY kind y M D ∧ onY kind y M D ≤ y + 1 ∧ DayOk kind (onY kind y M D) (onM kind y M D) (onD kind y M D) (N + 1) cy' cm' cd' (decide (leapZ kind (onY kind y M D))) := by
    by_cases h1 : M < 13
    · by_cases h2 : D < 30
      · have e1 : onY kind y M D = y := by unfold onY; rw [if_pos h1]
        have e2 : onM kind y M D = M := by unfold onM; rw [if_pos h1, if_pos h2]
        have e3 : onD kind y M D = D + 1 := by unfold onD; rw [if_pos h1, if_pos h2]
        rw [e1, e2, e3]
        exact ⟨hy.1, by omega, d1, d2, by omega, by omega, .inl (by omega), by omega, hc2⟩
      · have e1 : onY kind y M D = y := by unfold onY; rw [if_pos h1]
        have e2 : onM kind y M D = M + 1 := by unfold onM; rw [if_pos h1, if_neg h2]
        have e3 : onD kind y M D = 1 := by unfold onD; rw [if_pos h1, if_neg h2]
        rw [e1, e2, e3]
        refine ⟨hy.1, by omega, by omega, by omega, by omega, by omega, .inr ?_, by omega, hc2⟩
        split <;> omega
    · by_cases h2 : D < (if leapZ kind y then (6 : Int) else 5)
      · have e1 : onY kind y M D = y := by unfold onY; rw [if_neg h1, if_pos h2]
        have e2 : onM kind y M D = M := by unfold onM; rw [if_neg h1, if_pos h2]
        have e3 : onD kind y M D = D + 1 := by unfold onD; rw [if_neg h1, if_pos h2]
        rw [e1, e2, e3]
        refine ⟨hy.1, by omega, d1, d2, by omega, by omega, .inr ?_, by omega, hc2⟩
        rcases hlen with ⟨g1, g2, g3, g4⟩ | ⟨g1, g2, g3, g4⟩
        · rw [g4] at h2; rw [decide_eq_true g1, if_pos rfl]; omega
        · rw [g4] at h2; rw [decide_eq_false g1, if_neg (by decide)]; omega
      · have e1 : onY kind y M D = y + 1 := by unfold onY; rw [if_neg h1, if_neg h2]
        have e2 : onM kind y M D = 1 := by unfold onM; rw [if_neg h1, if_neg h2]
        have e3 : onD kind y M D = 1 := by unfold onD; rw [if_neg h1, if_neg h2]
        rw [e1, e2, e3]
        have e4 : y + 1 - 1 = y := by omega
        refine ⟨by omega, by omega, by omega, by omega, by omega, by omega, .inl (by omega), ?_, hc2⟩
        rw [e4]
        rcases hlen with ⟨g1, g2, g3, g4⟩ | ⟨g1, g2, g3, g4⟩ <;> rw [g4] at h2 <;> omega
  exact ⟨onY kind y M D, onM kind y M D, onD kind y M D, cy', cm', cd', _, bw, bc, key.1, by omega, rfl, by rw [e0]; exact key.2.2, by rw [e0]; exact hn⟩
local macro_rules | `(tactic| walk_at "subscriptTail Name Name ref int") => `(tactic| (k_here; k_dflt (refine' w_wp1 ?k1 ?k2 ?k3 ?k4 ?_; (case k1 => k_asm); (case k2 => k_asm); (case k3 => k_is); (case k4 => walk_at "om")); intro _ _; try dsimp only))
local macro_rules | `(tactic| walk_at "subscriptTail Name BinOp") => `(tactic| (k_here; k_dflt (refine' w_wp2 ?k1 ?k2 ?k3 ?k4 ?k5 ?k6 ?k7 ?_; (case k1 => k_asm); (case k2 => k_asm); (case k3 => k_is); (case k4 => k_is); (case k5 => k_is); (case k6 => with_reducible assumption); (case k7 => walk_at "om")); intro _ _; try dsimp only))
local macro_rules | `(tactic| walk_at "look") => `(tactic| first
  | (with_reducible assumption)
  | (with_reducible exact look_hit)
  | (with_reducible exact lookl_hit)
  | ((with_reducible refine' look_hitO ?lb); with_reducible assumption)
  | ((with_reducible refine' look_missO ?la ?lb); (case la => decide +kernel); (case lb => walk_at "look"))
  | ((with_reducible refine' lookl_miss ?la ?lb); (case la => decide +kernel); (case lb => walk_at "look")))
local macro_rules | `(tactic| k_mem) => `(tactic| first | (with_reducible_and_instances assumption) | exact List.Mem.head _ | (refine' List.Mem.tail _ ?_; k_mem))
local macro_rules | `(tactic| walk_at "loadName") => `(tactic| (k_here; k_dflt (refine' q_load ?F ?l ?k ?v ?_; (case F => k_asm); (case l => decide +kernel); (case k => exact rfl); (case v => walk_at "look"); k_whole)))
local macro_rules | `(tactic| walk_at "execs cons") => `(tactic| (k_here; k_extra "mine cut"))
local macro_rules | `(tactic| walk_at "exec For Tuple Tuple cons nil") => `(tactic| (k_here; k_dflt (refine' For_own ?_ (fun _ => rfl))))
local macro_rules | `(tactic| walk_at "exec For Name Call cons nil") => `(tactic| (k_here; k_dflt (refine' For_own ?_ (fun _ => rfl))))
theorem tt_D {w loose mean mg mb} (kind y M D1 N1 cy cm cd1 i1 : Int) (b6 ba : Bool) (v v2 : Value) (bw bc : Addr) (hv : Way kind v) (hv2 : Way kind v2) (hi : 0 ≤ i1 ∧ i1 ≤ 2) (hy : 1 ≤ y ∧ y ≤ 1000000 + i1)
    (hb6 : decide (leapZ kind y) = b6) (hba : decide (agZ kind y) = ba) (hday : DayOk kind y M D1 N1 cy cm cd1 b6) :
    TT w loose mean mg mb 8 (NeedD kind y M D1 N1 cy cm cd1 v v2 bw bc) (Jd kind v v2 (N1 - i1) (i1 + 1)) := by
  unfold TT Pg
  k_fill
  k_with_none
  have hk3 := hv.kinds
  obtain ⟨d1, d2, d3, d4, d5, d6, d7⟩ := id hday
  obtain ⟨cy2, cm2, cd2, hc2⟩ : ∃ y' m' d', IsCiv (N1 - 1721426 + 1) y' m' d' := by
    rcases civ_next d7 with ⟨_, h⟩ | ⟨_, _, h⟩ | ⟨_, _, h⟩ <;> exact ⟨_, _, _, h⟩
  k_with "call ref" => (k_dflt (refine' onward_use ?kF ?kN ?km ?so ?sy ?sb ?kB ?kX ?kT ?k6 ?k7 ?k8 ?_; (case kF => k_asm); (case kN => k_asm); (case km => k_mem); (case so => with_reducible assumption); (case sy => walk_at "om"); (case sb => with_reducible assumption); (case kB => k_asm); (case kX => k_asm); (case kT => k_asm); (case k6 => first | exact rfl | assumption); (case k7 => ktr_room); (case k8 => walk_at "units"); intro _ _ _ _ _ _ _ _ _; (try dsimp only)))
  k_with "call ref" => (k_dflt (refine' morrow_use ?kF ?kN ?km ?so ?sy ?kB ?kX ?kT ?k6 ?k7 ?k8 ?_; (case kF => k_asm); (case kN => k_asm); (case km => k_mem); (case so => with_reducible assumption); (case sy => with_reducible assumption); (case kB => k_asm); (case kX => k_asm); (case kT => k_asm); (case k6 => first | exact rfl | assumption); (case k7 => ktr_room); (case k8 => walk_at "units"); intro _ _ _ _ _ _ _ _ _; (try dsimp only)))
  intro dp un gd cn cs a ccd L base g L' m news s B F X N T hk hdp hu hn
  conv in (occs := *) (scopeAt w 212) => all_goals whnf
  conv in (turnAt w 8) => whnf
  obtain ⟨⟨t1, M1⟩, M2, M3, M4, M5, ⟨t6, M6⟩, ⟨u1, u2, u3, u4, M7⟩, ⟨w1, w2, w3, w4, M8⟩⟩ := hn
  k_steps
  all_goals (
    refine' tend ?zF ?zN ?zs ?zf
    (case zF => k_asm)
    (case zN => with_reducible assumption)
    (case zs => walk_at "sub")
    (case zf => exact jd_next hi hy hk3 hb6 hday hc2 ⟨⟨_, by ((try dsimp only); walk_at "look")⟩, by ((try dsimp only); walk_at "look"), by ((try dsimp only); walk_at "look"), by ((try dsimp only); walk_at "look"), by ((try dsimp only); walk_at "look"), ⟨_, by ((try dsimp only); walk_at "look")⟩, ⟨_, _, _, _, by k_mem⟩, ⟨_, _, _, _, by k_mem⟩⟩))
theorem tt_C {w loose mean mg mb} (kind y M D1 N1 cy cm cd1 i1 : Int) (b6 ba : Bool) (v v2 : Value) (bw bc : Addr) (hv : Way kind v) (hv2 : Way kind v2) (hi : 0 ≤ i1 ∧ i1 ≤ 2) (hy : 1 ≤ y ∧ y ≤ 1000000 + i1)
    (hb6 : decide (leapZ kind y) = b6) (hba : decide (agZ kind y) = ba) (hday : DayOk kind y M D1 N1 cy cm cd1 b6) (x : UInt64) (bk : Bool) (hbk : bk = false ∨ M < 13 ∨ D1 < 6 ∨ (ba = true ∧ ¬ (kind = 1 ∧ y % 400 = 12))) :
    TT w loose mean mg mb 7 (NeedK kind y M D1 N1 cy cm cd1 i1 x ba bk v v2 bw bc) (Jd kind v v2 (N1 - i1) (i1 + 1)) := by
  unfold TT Pg
  k_fill
  k_with_none
  have hk3 := hv.kinds
  obtain ⟨d1, d2, d3, d4, d5, d6, d7⟩ := id hday
  rcases Bool.eq_false_or_eq_true ba with ha1 | ha1
  · have hsx := sx_le hk3 (show 0 ≤ y - 1 by omega)
    have hN : 2375840 ≤ N1 ∧ N1 ≤ 1000000000 := by omega
    have hag : agZ kind y := of_decide_eq_true (hba.trans ha1)
    have hyj := yj_ag hk3 (show 1 ≤ y ∧ y ≤ 2000000 by omega) hag
    have hT : toQ kind y M D1 = 6885702 + 4 * (N1 - 1721426) := by unfold toQ; omega
    have hcy := civ_le d7
    have hcy2 : cy ≤ 2000000 := by omega
    have hc2 : IsCiv (654414 + (N1 - 2375840)) cy cm cd1 := by
      rw [show 654414 + (N1 - 2375840) = N1 - 1721426 by omega]; exact d7
    rcases Bool.eq_false_or_eq_true bk with hk1 | hk1
    · have he : fy kind (N1 - 2375840) = y ∧ fd kind (N1 - 2375840) / 30 + 1 = M ∧ fd kind (N1 - 2375840) % 30 + 1 = D1 := by
        have h13 : M ≠ 13 ∨ D1 ≤ if leapZ kind y then 6 else 5 := by
          subst hb6
          by_cases e : leapZ kind y <;> simp only [e, decide_true, decide_false, Bool.false_eq_true, ↓reduceIte] at d5 ⊢ <;> exact d5
        have h9 : M < 13 ∨ D1 < 6 ∨ (agZ kind y ∧ ¬ (kind = 1 ∧ y % 400 = 12)) := by
          rcases hbk with h | h | h | ⟨h, h'⟩
          · rw [hk1] at h; cases h
          · exact .inl h
          · exact .inr (.inl h)
          · exact .inr (.inr ⟨hag, h'⟩)
        obtain ⟨e1, e2⟩ := home hk3 (show 1 ≤ y ∧ y ≤ 2000000 by omega) ⟨d1, d2⟩ ⟨d3, d4⟩ h13 h9
        rw [show yj kind y + (M - 1) * 30 + D1 - 1 = N1 - 2375840 by omega] at e1 e2
        refine ⟨e1, ?_, ?_⟩ <;> rw [e2] <;> omega
      subst hk1 ha1
      k_with "call ref" => (k_dflt (refine' cb_use (c_togreg _ _ _ _ (N1 - 1721426) cy cm cd1 _ _ _ _ _ ?sw ?sb ?sy ?sm ?sd ?s13 ?sN ?sc ?sn ?s2) ?k1 ?k2 ?k3 ?k4 ?k5 ?k6 ?k7 ?k8 ?_; (case sw => with_reducible assumption); (case sb => with_reducible assumption); (case sy => walk_at "om"); (case sm => walk_at "om"); (case sd => walk_at "om"); (case s13 => walk_at "om"); (case sN => assumption); (case sc => assumption); (case sn => walk_at "om"); (case s2 => walk_at "om"); (case k1 => k_asm); (case k2 => k_asm); (case k3 => k_asm); (case k4 => k_asm); (case k5 => k_asm); (case k6 => first | exact rfl | assumption); (case k7 => ktr_room); (case k8 => walk_at "units"); intro _ _ _ _ _ _ _ _ _; (try dsimp only)))
      k_with "call ref" => (k_dflt (refine' cb_use (c_homeg _ _ _ _ (N1 - 2375840) y M D1 _ _ _ _ ?sw ?sc ?sn ?s2 ?se) ?k1 ?k2 ?k3 ?k4 ?k5 ?k6 ?k7 ?k8 ?_; (case sw => with_reducible assumption); (case sc => assumption); (case sn => walk_at "om"); (case s2 => walk_at "om"); (case se => assumption); (case k1 => k_asm); (case k2 => k_asm); (case k3 => k_asm); (case k4 => k_asm); (case k5 => k_asm); (case k6 => first | exact rfl | assumption); (case k7 => ktr_room); (case k8 => walk_at "units"); intro _ _ _ _ _ _ _ _ _; (try dsimp only)))
      k_with "mine cut" => ((with_reducible show wpAny _ _ (execs ((Stmt.Assign [PySem.Expr.Name (Str.ofString "when") _] _ _) :: _) _) _ _ _); k_dflt (refine' tt_cut (tt_D kind y M D1 N1 cy cm cd1 i1 b6 _ v v2 bw bc hv hv2 hi hy hb6 hba hday) ?kF ?kB ?kX ?kN ?kT ?kk ?k1 ?k2 ?hn ?hs ?he; (case kF => k_asm); (case kB => k_asm); (case kX => k_asm); (case kN => k_asm); (case kT => k_asm); (case kk => assumption); (case k1 => assumption); (case k2 => assumption); (case hn => exact ⟨⟨_, by ((try dsimp only); walk_at "look")⟩, by ((try dsimp only); walk_at "look"), by ((try dsimp only); walk_at "look"), by ((try dsimp only); walk_at "look"), by ((try dsimp only); walk_at "look"), ⟨_, by ((try dsimp only); walk_at "look")⟩, ⟨_, _, _, _, by k_mem⟩, ⟨_, _, _, _, by k_mem⟩⟩); (case hs => walk_at "sub"); (case he => exact rfl)))
      intro dp un gd cn cs a ccd L base g L' m news s B F X N T hk hdp hu hn
      conv in (occs := *) (scopeAt w 212) => all_goals whnf
      conv in (turnAt w 7) => whnf
      obtain ⟨⟨⟨⟨t1, M1⟩, M2, M3, M4, M5, ⟨t6, M6⟩, ⟨u1, u2, u3, u4, M7⟩, ⟨w1, w2, w3, w4, M8⟩⟩, ⟨ti, Mi⟩⟩, ⟨ty, My⟩, ⟨tm, Mm⟩, ⟨td, Md⟩, ⟨tt, Mt⟩, Mg, Mk⟩ := hn
      k_steps
      all_goals trace_state

    · subst hk1 ha1
      k_with "call ref" => (k_dflt (refine' cb_use (c_togreg _ _ _ _ (N1 - 1721426) cy cm cd1 _ _ _ _ _ ?sw ?sb ?sy ?sm ?sd ?s13 ?sN ?sc ?sn ?s2) ?k1 ?k2 ?k3 ?k4 ?k5 ?k6 ?k7 ?k8 ?_; (case sw => with_reducible assumption); (case sb => with_reducible assumption); (case sy => walk_at "om"); (case sm => walk_at "om"); (case sd => walk_at "om"); (case s13 => walk_at "om"); (case sN => assumption); (case sc => assumption); (case sn => walk_at "om"); (case s2 => walk_at "om"); (case k1 => k_asm); (case k2 => k_asm); (case k3 => k_asm); (case k4 => k_asm); (case k5 => k_asm); (case k6 => first | exact rfl | assumption); (case k7 => ktr_room); (case k8 => walk_at "units"); intro _ _ _ _ _ _ _ _ _; (try dsimp only)))
      k_with "mine cut" => ((with_reducible show wpAny _ _ (execs ((Stmt.Assign [PySem.Expr.Name (Str.ofString "when") _] _ _) :: _) _) _ _ _); k_dflt (refine' tt_cut (tt_D kind y M D1 N1 cy cm cd1 i1 b6 _ v v2 bw bc hv hv2 hi hy hb6 hba hday) ?kF ?kB ?kX ?kN ?kT ?kk ?k1 ?k2 ?hn ?hs ?he; (case kF => k_asm); (case kB => k_asm); (case kX => k_asm); (case kN => k_asm); (case kT => k_asm); (case kk => assumption); (case k1 => assumption); (case k2 => assumption); (case hn => exact ⟨⟨_, by ((try dsimp only); walk_at "look")⟩, by ((try dsimp only); walk_at "look"), by ((try dsimp only); walk_at "look"), by ((try dsimp only); walk_at "look"), by ((try dsimp only); walk_at "look"), ⟨_, by ((try dsimp only); walk_at "look")⟩, ⟨_, _, _, _, by k_mem⟩, ⟨_, _, _, _, by k_mem⟩⟩); (case hs => walk_at "sub"); (case he => exact rfl)))
      intro dp un gd cn cs a ccd L base g L' m news s B F X N T hk hdp hu hn
      conv in (occs := *) (scopeAt w 212) => all_goals whnf
      conv in (turnAt w 7) => whnf
      obtain ⟨⟨⟨⟨t1, M1⟩, M2, M3, M4, M5, ⟨t6, M6⟩, ⟨u1, u2, u3, u4, M7⟩, ⟨w1, w2, w3, w4, M8⟩⟩, ⟨ti, Mi⟩⟩, ⟨ty, My⟩, ⟨tm, Mm⟩, ⟨td, Md⟩, ⟨tt, Mt⟩, Mg, Mk⟩ := hn
      k_steps
      all_goals trace_state

  · subst ha1
    k_with "mine cut" => ((with_reducible show wpAny _ _ (execs ((Stmt.Assign [PySem.Expr.Name (Str.ofString "when") _] _ _) :: _) _) _ _ _); k_dflt (refine' tt_cut (tt_D kind y M D1 N1 cy cm cd1 i1 b6 _ v v2 bw bc hv hv2 hi hy hb6 hba hday) ?kF ?kB ?kX ?kN ?kT ?kk ?k1 ?k2 ?hn ?hs ?he; (case kF => k_asm); (case kB => k_asm); (case kX => k_asm); (case kN => k_asm); (case kT => k_asm); (case kk => assumption); (case k1 => assumption); (case k2 => assumption); (case hn => exact ⟨⟨_, by ((try dsimp only); walk_at "look")⟩, by ((try dsimp only); walk_at "look"), by ((try dsimp only); walk_at "look"), by ((try dsimp only); walk_at "look"), by ((try dsimp only); walk_at "look"), ⟨_, by ((try dsimp only); walk_at "look")⟩, ⟨_, _, _, _, by k_mem⟩, ⟨_, _, _, _, by k_mem⟩⟩); (case hs => walk_at "sub"); (case he => exact rfl)))
    intro dp un gd cn cs a ccd L base g L' m news s B F X N T hk hdp hu hn
    conv in (occs := *) (scopeAt w 212) => all_goals whnf
    conv in (turnAt w 7) => whnf
    obtain ⟨⟨⟨⟨t1, M1⟩, M2, M3, M4, M5, ⟨t6, M6⟩, ⟨u1, u2, u3, u4, M7⟩, ⟨w1, w2, w3, w4, M8⟩⟩, ⟨ti, Mi⟩⟩, ⟨ty, My⟩, ⟨tm, Mm⟩, ⟨td, Md⟩, ⟨tt, Mt⟩, Mg, Mk⟩ := hn
    k_steps
    all_goals trace_state

theorem tt_B {w loose mean mg mb} (kind y M D1 N1 cy cm cd1 i1 : Int) (b6 ba : Bool) (v v2 : Value) (bw bc : Addr) (hv : Way kind v) (hv2 : Way kind v2) (hi : 0 ≤ i1 ∧ i1 ≤ 2) (hy : 1 ≤ y ∧ y ≤ 1000000 + i1)
    (hb6 : decide (leapZ kind y) = b6) (hba : decide (agZ kind y) = ba) (hday : DayOk kind y M D1 N1 cy cm cd1 b6) (x : UInt64) (bk : Bool) (hx : IsF x (toQ kind y M D1)) (hbk : bk = false ∨ M < 13 ∨ D1 < 6 ∨ (ba = true ∧ ¬ (kind = 1 ∧ y % 400 = 12))) :
    TT w loose mean mg mb 6 (NeedK kind y M D1 N1 cy cm cd1 i1 x ba bk v v2 bw bc) (Jd kind v v2 (N1 - i1) (i1 + 1)) := by
  unfold TT Pg
  k_fill
  k_with_none
  have hk3 := hv.kinds
  obtain ⟨d1, d2, d3, d4, d5, d6, d7⟩ := id hday
  obtain ⟨n0, hn0⟩ : ∃ n : Int, n = yj kind y + (M - 1) * 30 + D1 - 1 := ⟨_, rfl⟩
  have hyj := yj_size hk3 (show 1 ≤ y ∧ y ≤ 2000000 by omega)
  have hr0 : toQ kind y M D1 + 4 * (i1 % 2) / 4 = 9503358 + 4 * n0 + i1 % 2 := by unfold toQ; omega
  have hq2 : 0 ≤ toQ kind y M D1 ∧ toQ kind y M D1 ≤ 1000000000000 := by unfold toQ; omega
  have hn1 : 0 ≤ n0 ∧ n0 ≤ 1000000000 := by omega
  rcases Bool.eq_false_or_eq_true bk with hk1 | hk1
  · have he : fy kind n0 = y ∧ fd kind n0 / 30 + 1 = M ∧ fd kind n0 % 30 + 1 = D1 := by
      have h13 : M ≠ 13 ∨ D1 ≤ if leapZ kind y then 6 else 5 := by
        subst hb6
        by_cases e : leapZ kind y <;> simp only [e, decide_true, decide_false, Bool.false_eq_true, ↓reduceIte] at d5 ⊢ <;> exact d5
      have h9 : M < 13 ∨ D1 < 6 ∨ (agZ kind y ∧ ¬ (kind = 1 ∧ y % 400 = 12)) := by
        rcases hbk with h | h | h | ⟨h, h'⟩
        · rw [hk1] at h; cases h
        · exact .inl h
        · exact .inr (.inl h)
        · rw [h] at hba
          exact .inr (.inr ⟨of_decide_eq_true hba, h'⟩)
      obtain ⟨e1, e2⟩ := home hk3 (show 1 ≤ y ∧ y ≤ 2000000 by omega) ⟨d1, d2⟩ ⟨d3, d4⟩ h13 h9
      rw [← hn0] at e1 e2
      refine ⟨e1, ?_, ?_⟩ <;> rw [e2] <;> omega
    subst hk1
    k_with "call ref" => (k_dflt (refine' cb_use (c_home _ n0 (i1 % 2) y M D1 _ _ _ ?sw ?sx ?sn ?sr ?se) ?k1 ?k2 ?k3 ?k4 ?k5 ?k6 ?k7 ?k8 ?_; (case sw => with_reducible assumption); (case sx => exact isF_to (by with_reducible assumption) hr0); (case sn => walk_at "om"); (case sr => walk_at "om"); (case se => assumption); (case k1 => k_asm); (case k2 => k_asm); (case k3 => k_asm); (case k4 => k_asm); (case k5 => k_asm); (case k6 => first | exact rfl | assumption); (case k7 => ktr_room); (case k8 => walk_at "units"); intro _ _ _ _ _ _ _ _ _; (try dsimp only)))
    k_with "call ref" => (k_dflt (refine' whole_use ?kF ?kN ?km ?kB ?kX ?kT ?k6 ?k7 ?k8 ?_; (case kF => k_asm); (case kN => k_asm); (case km => k_mem); (case kB => k_asm); (case kX => k_asm); (case kT => k_asm); (case k6 => first | exact rfl | assumption); (case k7 => ktr_room); (case k8 => walk_at "units"); intro _ _ _ _ _; (try dsimp only)))
    k_with "mine cut" => ((with_reducible show wpAny _ _ (execs ((Stmt.If (PySem.Expr.BoolOp BoolOp.And _ _) _ _ _) :: _) _) _ _ _); k_dflt (refine' tt_cut (tt_C kind y M D1 N1 cy cm cd1 i1 b6 ba v v2 bw bc hv hv2 hi hy hb6 hba hday _ _ hbk) ?kF ?kB ?kX ?kN ?kT ?kk ?k1 ?k2 ?hn ?hs ?he; (case kF => k_asm); (case kB => k_asm); (case kX => k_asm); (case kN => k_asm); (case kT => k_asm); (case kk => assumption); (case k1 => assumption); (case k2 => assumption); (case hn => exact ⟨⟨⟨⟨_, by ((try dsimp only); walk_at "look")⟩, by ((try dsimp only); walk_at "look"), by ((try dsimp only); walk_at "look"), by ((try dsimp only); walk_at "look"), by ((try dsimp only); walk_at "look"), ⟨_, by ((try dsimp only); walk_at "look")⟩, ⟨_, _, _, _, by k_mem⟩, ⟨_, _, _, _, by k_mem⟩⟩, ⟨_, by ((try dsimp only); walk_at "look")⟩⟩, ⟨_, by ((try dsimp only); walk_at "look")⟩, ⟨_, by ((try dsimp only); walk_at "look")⟩, ⟨_, by ((try dsimp only); walk_at "look")⟩, ⟨_, by ((try dsimp only); walk_at "look")⟩, by ((try dsimp only); walk_at "look"), by ((try dsimp only); walk_at "look")⟩); (case hs => walk_at "sub"); (case he => exact rfl)))
    intro dp un gd cn cs a ccd L base g L' m news s B F X N T hk hdp hu hn
    conv in (occs := *) (scopeAt w 212) => all_goals whnf
    conv in (turnAt w 6) => whnf
    obtain ⟨⟨⟨⟨t1, M1⟩, M2, M3, M4, M5, ⟨t6, M6⟩, ⟨u1, u2, u3, u4, M7⟩, ⟨w1, w2, w3, w4, M8⟩⟩, ⟨ti, Mi⟩⟩, ⟨ty, My⟩, ⟨tm, Mm⟩, ⟨td, Md⟩, ⟨tt, Mt⟩, Mg, Mk⟩ := hn
    k_steps
    all_goals trace_state
  · subst hk1
    k_with "mine cut" => ((with_reducible show wpAny _ _ (execs ((Stmt.If (PySem.Expr.BoolOp BoolOp.And _ _) _ _ _) :: _) _) _ _ _); k_dflt (refine' tt_cut (tt_C kind y M D1 N1 cy cm cd1 i1 b6 ba v v2 bw bc hv hv2 hi hy hb6 hba hday _ _ hbk) ?kF ?kB ?kX ?kN ?kT ?kk ?k1 ?k2 ?hn ?hs ?he; (case kF => k_asm); (case kB => k_asm); (case kX => k_asm); (case kN => k_asm); (case kT => k_asm); (case kk => assumption); (case k1 => assumption); (case k2 => assumption); (case hn => exact ⟨⟨⟨⟨_, by ((try dsimp only); walk_at "look")⟩, by ((try dsimp only); walk_at "look"), by ((try dsimp only); walk_at "look"), by ((try dsimp only); walk_at "look"), by ((try dsimp only); walk_at "look"), ⟨_, by ((try dsimp only); walk_at "look")⟩, ⟨_, _, _, _, by k_mem⟩, ⟨_, _, _, _, by k_mem⟩⟩, ⟨_, by ((try dsimp only); walk_at "look")⟩⟩, ⟨_, by ((try dsimp only); walk_at "look")⟩, ⟨_, by ((try dsimp only); walk_at "look")⟩, ⟨_, by ((try dsimp only); walk_at "look")⟩, ⟨_, by ((try dsimp only); walk_at "look")⟩, by ((try dsimp only); walk_at "look"), by ((try dsimp only); walk_at "look")⟩); (case hs => walk_at "sub"); (case he => exact rfl)))
    intro dp un gd cn cs a ccd L base g L' m news s B F X N T hk hdp hu hn
    conv in (occs := *) (scopeAt w 212) => all_goals whnf
    conv in (turnAt w 6) => whnf
    obtain ⟨⟨⟨⟨t1, M1⟩, M2, M3, M4, M5, ⟨t6, M6⟩, ⟨u1, u2, u3, u4, M7⟩, ⟨w1, w2, w3, w4, M8⟩⟩, ⟨ti, Mi⟩⟩, ⟨ty, My⟩, ⟨tm, Mm⟩, ⟨td, Md⟩, ⟨tt, Mt⟩, Mg, Mk⟩ := hn
    k_steps
    all_goals trace_state
theorem tt_A {w loose mean mg mb} (kind y M D1 N1 cy cm cd1 i1 : Int) (b6 ba : Bool) (v v2 : Value) (bw bc : Addr) (hv : Way kind v) (hv2 : Way kind v2) (hi : 0 ≤ i1 ∧ i1 ≤ 2) (hy : 1 ≤ y ∧ y ≤ 1000000 + i1)
    (hb6 : decide (leapZ kind y) = b6) (hba : decide (agZ kind y) = ba) (hday : DayOk kind y M D1 N1 cy cm cd1 b6) :
    TT w loose mean mg mb 0 (NeedI kind y M D1 N1 cy cm cd1 i1 v v2 bw bc) (Jd kind v v2 (N1 - i1) (i1 + 1)) := by
  unfold TT Pg
  k_fill
  k_with_none
  have hk3 := hv.kinds
  obtain ⟨d1, d2, d3, d4, d5, d6, d7⟩ := id hday
  have hsx := sx_le hk3 (show 0 ≤ y - 1 by omega)
  have hN : 2375840 ≤ N1 ∧ N1 ≤ 1000000000 := by omega
  obtain ⟨n0, hn0⟩ : ∃ n : Int, n = yj kind y + (M - 1) * 30 + D1 - 1 := ⟨_, rfl⟩
  have hyj := yj_size hk3 (show 1 ≤ y ∧ y ≤ 2000000 by omega)
  have hq1 : toQ kind y M D1 = toQ kind y 1 1 + 4 * (30 * (M - 1) + D1 - 1) := by unfold toQ; omega
  have hq2 : 0 ≤ toQ kind y 1 1 ∧ toQ kind y 1 1 ≤ 1000000000000 := by unfold toQ; omega
  have hag : ba = false ∨ toQ kind y M D1 = 4 * N1 - 2 := by
    subst hba
    by_cases e1 : agZ kind y
    · have := yj_ag hk3 (show 1 ≤ y ∧ y ≤ 2000000 by omega) e1
      right; unfold toQ; omega
    · simp [e1]
  have hh : Hint (30 * (M - 1) + D1 - 1) := trivial
  k_with "call ref" => (k_dflt (refine' cb_use (c_agreed _ _ _ _ _ ?sk ?sb) ?k1 ?k2 ?k3 ?k4 ?k5 ?k6 ?k7 ?k8 ?_; (case sk => with_reducible assumption); (case sb => with_reducible assumption); (case k1 => k_asm); (case k2 => k_asm); (case k3 => k_asm); (case k4 => k_asm); (case k5 => k_asm); (case k6 => first | exact rfl | assumption); (case k7 => ktr_room); (case k8 => walk_at "units"); intro _ _ _ _ _; (try dsimp only)))
  k_with "call ref" => (k_dflt (refine' cb_use (c_to _ _ _ _ _ _ _ _ _ ?sw ?sb ?sy ?sm ?sd ?s13) ?k1 ?k2 ?k3 ?k4 ?k5 ?k6 ?k7 ?k8 ?_; (case sw => with_reducible assumption); (case sb => with_reducible assumption); (case sy => walk_at "om"); (case sm => walk_at "om"); (case sd => walk_at "om"); (case s13 => walk_at "om"); (case k1 => k_asm); (case k2 => k_asm); (case k3 => k_asm); (case k4 => k_asm); (case k5 => k_asm); (case k6 => first | exact rfl | assumption); (case k7 => ktr_room); (case k8 => walk_at "units"); intro _ _ _ _ _ _ _; (try dsimp only)))
  k_with "call ref" => (k_dflt (refine' cb_use (c_midnight _ _ ?sn) ?k1 ?k2 ?k3 ?k4 ?k5 ?k6 ?k7 ?k8 ?_; (case sn => walk_at "om"); (case k1 => k_asm); (case k2 => k_asm); (case k3 => k_asm); (case k4 => k_asm); (case k5 => k_asm); (case k6 => first | exact rfl | assumption); (case k7 => ktr_room); (case k8 => walk_at "units"); intro _ _ _ _ _ _ _; (try dsimp only)))
  k_with "mine cut" => ((with_reducible show wpAny _ _ (execs ((Stmt.If (PySem.Expr.Name _ _) _ _ _) :: _) _) _ _ _); k_dflt (refine' tt_cut (tt_B kind y M D1 N1 cy cm cd1 i1 b6 ba v v2 bw bc hv hv2 hi hy hb6 hba hday _ _ (by assumption) ?cb) ?kF ?kB ?kX ?kN ?kT ?kk ?k1 ?k2 ?hn ?hs ?he; (case kF => k_asm); (case kB => k_asm); (case kX => k_asm); (case kN => k_asm); (case kT => k_asm); (case kk => assumption); (case k1 => assumption); (case k2 => assumption); (case hn => exact ⟨⟨⟨⟨_, by ((try dsimp only); walk_at "look")⟩, by ((try dsimp only); walk_at "look"), by ((try dsimp only); walk_at "look"), by ((try dsimp only); walk_at "look"), by ((try dsimp only); walk_at "look"), ⟨_, by ((try dsimp only); walk_at "look")⟩, ⟨_, _, _, _, by k_mem⟩, ⟨_, _, _, _, by k_mem⟩⟩, ⟨_, by ((try dsimp only); walk_at "look")⟩⟩, ⟨_, by ((try dsimp only); walk_at "look")⟩, ⟨_, by ((try dsimp only); walk_at "look")⟩, ⟨_, by ((try dsimp only); walk_at "look")⟩, ⟨_, by ((try dsimp only); walk_at "look")⟩, by ((try dsimp only); walk_at "look"), by ((try dsimp only); walk_at "look")⟩); (case cb => (first | (with_reducible exact .inl rfl) | exact .inl (by assumption) |  exact .inr (.inl (by omega)) | exact .inr (.inr (.inl (by omega))) | exact .inr (.inr (.inr ⟨by assumption, by omega⟩)) | (by_cases h9 : y % 400 = 12; (exact .inl (by simp [h9])); (exact .inr (.inr (.inr ⟨by assumption, by omega⟩)))))); (case hs => walk_at "sub"); (case he => exact rfl)))
  intro dp un gd cn cs a ccd L base g L' m news s B F X N T hk hdp hu hn
  conv in (occs := *) (scopeAt w 212) => all_goals whnf
  conv in (turnAt w 0) => whnf
  obtain ⟨⟨⟨t1, M1⟩, M2, M3, M4, M5, ⟨t6, M6⟩, ⟨u1, u2, u3, u4, M7⟩, ⟨w1, w2, w3, w4, M8⟩⟩, ⟨ti, Mi⟩⟩ := hn
  k_steps
  all_goals first
    | (exfalso; rcases hag with h9 | h9 <;> first | exact absurd (h9.symm.trans ‹ba = true›) (by decide) | omega)
    | trace_state
theorem jd_start {kind y M D N cy cm cd : Int} {b : Bool} {v v2 : Value} {bw bc : Addr} {m : Str → Option Value} {nx : List (Addr × Obj)} (hy : 1 ≤ y ∧ y ≤ 1000000)
    (hb : decide (leapZ kind y) = b) (hd : DayOk kind y M D N cy cm cd b) (hn : NeedD kind y M D N cy cm cd v v2 bw bc m nx) : Jd kind v v2 N 0 m nx :=
  ⟨y, M, D, cy, cm, cd, b, bw, bc, hy.1, by omega, hb, by rw [Int.add_zero]; exact hd, by rw [Int.add_zero]; exact hn⟩
theorem turn_go {w : World} {loose : List Str} {mean : ExcName → Option Value} {mg mb : Str → Option Value} {kind N0 : Int} {v v2 : Value} (hv : Way kind v) (hv2 : Way kind v2) {i : Nat} (hi : i < 3)
    {dp un : Nat} {gd : Option (List Code)} {cn : Str} {cs : Scope} {a : Addr} {ccd : Value} {L : Addr} {base g : Heap} {L' : Addr} {m : Str → Option Value} {news nx : List (Addr × Obj)} {s : Shared} {I : Addr} {o : Obj} {t : Tok} {h : Heap} {tk : Nat}
    (F : Fr g L' h (fun y => if y = Str.ofString "i" then some (.int (0 + (i : Int) * 1) t) else m y)) (B : Below (ktrTop dp un gd cn cs L a ccd [] []) base [envOf cn cs L a ccd] g) (X : (hd.heap_39 w.params).In g) (N : News g L' h ((I, o) :: nx)) (T : Top hd.view_39 loose mean mg mb g)
    (hk : cs.kind = .function) (h1 : dp + 20 < recursionLimit) (h2 : un + 8 * 20 < cLine) (hoff : ∀ p ∈ nx, p.1 ≠ I) (hcl : o.cls = .type "range_iterator") (hJ : (∀ p ∈ news, p ∈ nx) ∧ Jd kind v v2 N0 i m nx) :
      wpAny (model Pg w) ((ktrTop dp un gd cn cs L a ccd [] []).deeper (envOf (Str.ofString "_law_three_days") (scopeAt w 212) L' 212 (.ref 211))) (execs (turnAt w 0) (envOf (Str.ofString "_law_three_days") (scopeAt w 212) L' 212 (.ref 211)))
        (OEnd (fun g' => g' = g) L' s I o (fun m nx => (∀ p ∈ news, p ∈ nx) ∧ Jd kind v v2 N0 ((i + 1 : Nat) : Int) m nx)) (fun _ _ => False) { s with heap := h, toks := tk } := by
  obtain ⟨hsub, y, M, D, cy, cm, cd, b, bw, bc, hy1, hy2, hb, hday, ⟨t1, M1⟩, M2, M3, M4, M5, ⟨t6, M6⟩, ⟨u1, u2, u3, u4, M7⟩, ⟨w1, w2, w3, w4, M8⟩⟩ := hJ
  have e0 : (0 + (i : Int) * 1) = i := by omega
  rw [e0] at F
  have go := tt_A (w := w) (loose := loose) (mean := mean) (mg := mg) (mb := mb) kind y M D (N0 + i) cy cm cd i b _ v v2 bw bc hv hv2 (by omega) ⟨hy1, hy2⟩ hb rfl hday
  have e1 : N0 + (i : Int) - i = N0 := by omega
  rw [e1] at go
  have ne : ∀ x : Str, (x == Str.ofString "i") = false → (if x = Str.ofString "i" then some (Value.int i t) else m x) = m x := fun x hx => look_missO hx rfl
  refine wpAny_mono (go dp un gd cn cs a ccd L base g L' _ ((I, o) :: nx) _ B F X N T hk h1 h2 ⟨⟨⟨t1, (ne _ (by decide +kernel)).trans M1⟩, (ne _ (by decide +kernel)).trans M2, (ne _ (by decide +kernel)).trans M3, (ne _ (by decide +kernel)).trans M4, (ne _ (by decide +kernel)).trans M5, ⟨t6, (ne _ (by decide +kernel)).trans M6⟩,
    ⟨u1, u2, u3, u4, List.mem_cons_of_mem _ M7⟩, ⟨w1, w2, w3, w4, List.mem_cons_of_mem _ M8⟩⟩, t, if_pos rfl⟩) (fun f s₂ q => ?_) fun _ _ x => x
  obtain ⟨rfl, h', tk', m', nx', rfl, F', N', hs', y', M', D', cy', cm', cd', b', bw', bc', hy1', hy2', hb', hday', k1, k2, k3, k4, k5, k6, ⟨p1, p2, p3, p4, k7⟩, ⟨q1, q2, q3, q4, k8⟩⟩ := q
  have hI := hs' _ (List.mem_cons_self ..)
  have c7 : (tup3 y' M' D' p1 p2 p3 p4).cls ≠ o.cls := by rw [hcl]; intro e; exact absurd (Value.type.inj e) (by decide)
  have c8 : (tup3 cy' cm' cd' q1 q2 q3 q4).cls ≠ o.cls := by rw [hcl]; intro e; exact absurd (Value.type.inj e) (by decide)
  refine ⟨rfl, g, h', tk', m', (bw', tup3 y' M' D' p1 p2 p3 p4) :: (bc', tup3 cy' cm' cd' q1 q2 q3 q4) :: nx, rfl, rfl, F', ?_, ?_, ?_⟩
  · intro p hp
    rcases List.mem_cons.mp hp with rfl | hp
    · exact N' _ hI
    · rcases List.mem_cons.mp hp with rfl | hp
      · exact N' _ k7
      · rcases List.mem_cons.mp hp with rfl | hp
        · exact N' _ k8
        · exact N' _ (hs' _ (List.mem_cons_of_mem _ hp))
  · intro p hp
    rcases List.mem_cons.mp hp with rfl | hp
    · exact news_ne N' hI k7 c7
    · rcases List.mem_cons.mp hp with rfl | hp
      · exact news_ne N' hI k8 c8
      · exact hoff p hp
  · have e2 : (((i + 1 : Nat) : Int)) = (i : Int) + 1 := by omega
    rw [e2]
    exact ⟨fun p hp => List.mem_cons_of_mem _ (List.mem_cons_of_mem _ (hsub p hp)), y', M', D', cy', cm', cd', b', bw', bc', hy1', hy2', hb', hday', k1, k2, k3, k4, k5, k6, ⟨p1, p2, p3, p4, List.mem_cons_self ..⟩, ⟨q1, q2, q3, q4, List.mem_cons_of_mem _ (List.mem_cons_self ..)⟩⟩
theorem td_D {w loose mean mg mb} (kind y M D1 N1 cy cm cd1 : Int) (b6 : Bool) (v v2 : Value) (bw bc : Addr) (hv : Way kind v) (hv2 : Way kind v2) (hy : 1 ≤ y ∧ y ≤ 1000000)
    (hb6 : decide (leapZ kind y) = b6) (hday : DayOk kind y M D1 N1 cy cm cd1 b6) : TD w loose mean mg mb 22 (NeedD kind y M D1 N1 cy cm cd1 v v2 bw bc) := by
  unfold TD Pg
  k_fill
  k_with_none
  k_with "mine cut" => ((with_reducible show wpAny _ _ (execs ((Stmt.Assign [PySem.Expr.Tuple _ _ _] _ _) :: _) _) _ _ _); k_dflt (refine' turn_go hv hv2 ?hi ?kF ?kB ?kX ?kN ?kT ?kk ?k1 ?k2 ?ho ?hc ?hJ; (case kF => k_asm); (case hi => assumption); (case kB => k_asm); (case kX => k_asm); (case kN => k_asm); (case kT => k_asm); (case kk => assumption); (case k1 => assumption); (case k2 => assumption); (case ho => assumption); (case hc => assumption); (case hJ => assumption)))
  intro dp un gd cn cs a ccd L base g₀ g L' m news s Q B F X N T XB TB D T0 hk hdp hu hn hret
  conv in (occs := *) (scopeAt w 212) => all_goals whnf
  conv in (bodyAt w 212 22) => whnf
  obtain ⟨⟨t1, M1⟩, M2, M3, M4, M5, ⟨t6, M6⟩, ⟨u1, u2, u3, u4, M7⟩, ⟨w1, w2, w3, w4, M8⟩⟩ := hn
  k_steps
  all_goals (
    (try dsimp only)
    k_dflt (refine' oat_range (fun g' => g' = g) (fun i m nx => (∀ p ∈ news, p ∈ nx) ∧ Jd kind v v2 N1 i m nx) (n := 3) ?zh ?zr ?zs ?zn rfl ?zF ?zN ?zJ ?zt ?ze)
    (case zF => k_asm)
    (case zN => k_asm)
    (case zh => k_dflt (exact rfl))
    (case zr => assumption)
    (case zs => first | decide | rfl)
    (case zn => first | decide | rfl)
    (case zJ => exact ⟨fun p hp => by first | exact hp | exact List.mem_cons_of_mem _ hp | exact List.mem_cons_of_mem _ (List.mem_cons_of_mem _ hp), jd_start hy hb6 hday ⟨⟨_, by ((try dsimp only); walk_at "look")⟩, by ((try dsimp only); walk_at "look"), by ((try dsimp only); walk_at "look"), by ((try dsimp only); walk_at "look"), by ((try dsimp only); walk_at "look"), ⟨_, by ((try dsimp only); walk_at "look")⟩, ⟨_, _, _, _, by k_mem⟩, ⟨_, _, _, _, by k_mem⟩⟩⟩)
    (case zt =>
      intro I9 i9 t9 gg m9 nx9 h9 tk9 o9 hi9 hJ9 hg9 F1 N1' ho9 hc9
      subst hg9
      change Fr gg L' h9 _ at F1
      change News gg L' h9 _ at N1'
      (try dsimp only)
      k_steps
      all_goals trace_state)
    (case ze =>
      intro gg h9 tk9 m9 nx9 hg9 hJ9 F1 N1'
      subst hg9
      change Fr gg L' h9 _ at F1
      change News gg L' h9 _ at N1'
      (try dsimp only)
      k_steps
      all_goals (
        refine' hret gg _ _ _ ?y1 ?y2 ?y3
        (case y1 => first | assumption | exact KtsTurn.refl)
        (case y2 => k_asm)
        (case y3 => exact fun p hp => N1' p (hJ9.1 p hp)))))
theorem td_C {w loose mean mg mb} (a1 b1 c1 kind y M D1 N1 cy cm cd1 : Int) (b6 : Bool) (v v2 : Value) (bw bc : Addr) (hv : Way kind v) (hv2 : Way kind v2) (hy : 1 ≤ y ∧ y ≤ 1000000)
    (hb6 : decide (leapZ kind y) = b6) (hday : DayOk kind y M D1 N1 cy cm cd1 b6) : TD w loose mean mg mb 17 (NeedC a1 b1 c1 kind y M D1 N1 cy cm cd1 b6 v v2 bw bc) := by
  unfold TD Pg
  k_fill
  k_with_none
  have hk3 := hv.kinds
  k_with "call ref" => (k_dflt (refine' cbs_use (c_refA _ _ _ _ _ _ _ _ _ ?sw ?sb ?so) ?kB ?kF ?kX ?kN ?kT ?kXB ?kTB ?kD ?kT0 ?kk ?k1 ?k2 ?_; (case sw => with_reducible assumption); (case sb => with_reducible assumption); (case so => with_reducible assumption); (case kF => k_asm); (case kB => k_asm); (case kX => k_asm); (case kN => k_asm); (case kT => k_asm); (case kXB => assumption); (case kTB => assumption); (case kD => assumption); (case kT0 => first | assumption | exact KtsTurn.refl); (case kk => first | exact rfl | assumption); (case k1 => ktr_room); (case k2 => walk_at "units"); intro _ h' g' tk' T' F' N' B' X' P' D'; (try dsimp only); (try k_lift B')))
  k_with "call ref" => (k_dflt (refine' cbs_use (c_ref4 _ _ _ _ _ _ _ _ ?s0 ?sy ?sm ?sd) ?kB ?kF ?kX ?kN ?kT ?kXB ?kTB ?kD ?kT0 ?kk ?k1 ?k2 ?_; (case s0 => walk_at "om"); (case sy => walk_at "om"); (case sm => walk_at "om"); (case sd => walk_at "om"); (case kF => k_asm); (case kB => k_asm); (case kX => k_asm); (case kN => k_asm); (case kT => k_asm); (case kXB => assumption); (case kTB => assumption); (case kD => assumption); (case kT0 => first | assumption | exact KtsTurn.refl); (case kk => first | exact rfl | assumption); (case k1 => ktr_room); (case k2 => walk_at "units"); intro _ h' g' tk' T' F' N' B' X' P' D'; (try dsimp only); (try k_lift B')))
  k_with "call ref" => (k_dflt (refine' cbs_use (c_unb1 _ _ _ _ ?sw ?sn) ?kB ?kF ?kX ?kN ?kT ?kXB ?kTB ?kD ?kT0 ?kk ?k1 ?k2 ?_; (case sw => with_reducible assumption); (case sn => walk_at "om"); (case kF => k_asm); (case kB => k_asm); (case kX => k_asm); (case kN => k_asm); (case kT => k_asm); (case kXB => assumption); (case kTB => assumption); (case kD => assumption); (case kT0 => first | assumption | exact KtsTurn.refl); (case kk => first | exact rfl | assumption); (case k1 => ktr_room); (case k2 => walk_at "units"); intro _ h' g' tk' T' F' N' B' X' P' D'; (try dsimp only); (try k_lift B')))
  k_with "call ref" => (k_dflt (refine' cbs_use (c_unb2 _ _ _ _ ?s0 ?sn) ?kB ?kF ?kX ?kN ?kT ?kXB ?kTB ?kD ?kT0 ?kk ?k1 ?k2 ?_; (case s0 => walk_at "om"); (case sn => walk_at "om"); (case kF => k_asm); (case kB => k_asm); (case kX => k_asm); (case kN => k_asm); (case kT => k_asm); (case kXB => assumption); (case kTB => assumption); (case kD => assumption); (case kT0 => first | assumption | exact KtsTurn.refl); (case kk => first | exact rfl | assumption); (case k1 => ktr_room); (case k2 => walk_at "units"); intro _ h' g' tk' T' F' N' B' X' P' D'; (try dsimp only); (try k_lift B')))
  k_with "mine cut" => ((with_reducible show wpAny _ _ (execs ((Stmt.For (PySem.Expr.Name _ _) _ _ _ _) :: _) _) _ _ _); k_dflt (refine' td_cut (td_D kind y M D1 N1 cy cm cd1 b6 v v2 bw bc hv hv2 hy hb6 hday) ?kB ?kF ?kX ?kN ?kT ?kXB ?kTB ?kD ?kT0 ?kk ?k1 ?k2 ?hn ?hret; (case kF => k_asm); (case kB => k_asm); (case kX => k_asm); (case kN => k_asm); (case kT => k_asm); (case kXB => assumption); (case kTB => assumption); (case kD => assumption); (case kT0 => first | assumption | exact KtsTurn.refl); (case kk => assumption); (case k1 => assumption); (case k2 => assumption); (case hn => exact ⟨⟨_, by ((try dsimp only); walk_at "look")⟩, by ((try dsimp only); walk_at "look"), by ((try dsimp only); walk_at "look"), by ((try dsimp only); walk_at "look"), by ((try dsimp only); walk_at "look"), ⟨_, by ((try dsimp only); walk_at "look")⟩, ⟨_, _, _, _, by k_mem⟩, ⟨_, _, _, _, by k_mem⟩⟩); (case hret => (intro g2 h2 m2 tk2 T2 F2 N2; exact hret g2 h2 m2 tk2 T2 F2 (by walk_at "news")))))
  intro dp un gd cn cs a ccd L base g₀ g L' m news s Q B F X N T XB TB D T0 hk hdp hu hn hret
  conv in (occs := *) (scopeAt w 212) => all_goals whnf
  conv in (bodyAt w 212 17) => whnf
  obtain ⟨⟨⟨t1, M1⟩, M2, M3, M4, M5, ⟨t6, M6⟩, ⟨u1, u2, u3, u4, M7⟩, ⟨w1, w2, w3, w4, M8⟩⟩, ⟨ta, Ma⟩, ⟨tb, Mb⟩, ⟨tc, Mc⟩, ⟨ty, My⟩, Ms, ⟨tm, Mm⟩, ⟨td, Md⟩⟩ := hn
  have hN : 2375840 ≤ N1 ∧ N1 ≤ 1000000000 := by
    have := sx_le hk3 (show 0 ≤ y - 1 by omega)
    obtain ⟨d1, d2, d3, d4, d5, d6, d7⟩ := hday
    omega
  obtain ⟨d1, d2, d3, d4, d5, d6, d7⟩ := id hday
  k_steps
  all_goals (
    (try dsimp only)
    k_dflt (refine' pairs_go b6 (fun g => KtsTurn ([envOf cn cs L a ccd].filterMap (·.frame)) g₀ g ∧ Below (ktrTop dp un gd cn cs L a ccd [] []) base [envOf cn cs L a ccd] g ∧ (hd.heap_39 w.params).In g ∧ Top hd.view_39 loose mean mg mb g ∧ KtsDicts ([envOf cn cs L a ccd].filterMap (·.frame)) g) ?kF ?kN ?kh ?km ?kc ?kd ?kG ?ko ?kt ?ke)
    (case kF => k_asm)
    (case kN => k_asm)
    (case kh => k_dflt (exact rfl))
    (case km => k_mem)
    (case kc => k_dflt (exact rfl))
    (case kd => k_dflt (exact rfl))
    (case kG => exact ⟨T0, B, X, T, D⟩)
    (case ko =>
      intro v9 hv9
      simp only [List.mem_cons, List.not_mem_nil, or_false] at hv9
      rcases hv9 with rfl | rfl | rfl | rfl <;> refine ⟨_, _, _, _, _, _, rfl, by k_mem, ?_⟩
      all_goals first | exact .inl (by omega) | exact .inr (.inl (by omega)) | exact .inr (.inr ⟨rfl, by simp [*]⟩))
    (case kt =>
      rintro I9 p9 md dd t9 u9 n9 nx gg r1 r2 hh tk9 o9 hmd hp hT9 ⟨T1, B1, X1, T2, D2⟩ F1 N1
      change Fr gg L' hh _ at F1
      change News gg L' hh _ at N1
      (try dsimp only at F1)
      (try dsimp only)
      k_steps
      all_goals (
        refine' pend ?zF ?zN ?zG ?zz
        (case zF => k_asm)
        (case zN => k_asm)
        (case zG => exact ⟨by assumption, by assumption, by assumption, by assumption, by assumption⟩)
        (case zz => (intro z z1 z2; simp only [z1, z2, ↓reduceIte]))))
    (case ke =>
      rintro gg hh tk9 r1 r2 ⟨T1, B1, X1, T2, D2⟩ F1 N1
      change Fr gg L' hh _ at F1
      change News gg L' hh _ at N1
      (try dsimp only at F1)
      (try dsimp only)
      k_steps
      all_goals trace_state))
theorem td_B {w loose mean mg mb} (a1 b1 c1 kind y M D1 N1 cy cm cd1 : Int) (b6 : Bool) (v v2 : Value) (bw bc : Addr) (hv : Way kind v) (hv2 : Way kind v2) (hy : 1 ≤ y ∧ y ≤ 1000000)
    (hb6 : decide (leapZ kind y) = b6) (hday : DayOk kind y M D1 N1 cy cm cd1 b6) : TD w loose mean mg mb 13 (NeedC a1 b1 c1 kind y M D1 N1 cy cm cd1 b6 v v2 bw bc) := by
  unfold TD Pg
  k_fill
  k_with_none
  have hk3 := hv.kinds
  obtain ⟨by1, hb7⟩ : ∃ x, decide (leapZ kind (y + 1)) = x := ⟨_, rfl⟩
  obtain ⟨ba, hba⟩ : ∃ x, decide (agZ kind y) = x := ⟨_, rfl⟩
  obtain ⟨bb, hbb⟩ : ∃ x, decide (agZ kind (y + 1)) = x := ⟨_, rfl⟩
  obtain ⟨z, hz, hag, hq⟩ : ∃ z : Int, (z = 365 ∨ z = 366) ∧ (ba = false ∨ bb = false ∨ (b6 = true ∧ z = 366) ∨ (b6 = false ∧ z = 365)) ∧ (0 ≤ toQ kind y 1 1 ∧ toQ kind (y + 1) 1 1 ≤ 1000000000000 ∧ 4 * z = toQ kind (y + 1) 1 1 - toQ kind y 1 1) := by
    obtain ⟨q1, q2, q3, q4⟩ := yj_size hk3 (show 1 ≤ y ∧ y ≤ 2000000 by omega)
    refine ⟨yj kind (y + 1) - yj kind y, q1, ?_, by unfold toQ; omega, by unfold toQ; omega, by unfold toQ; omega⟩
    subst hb6 hba hbb
    by_cases e1 : agZ kind y
    · by_cases e2 : agZ kind (y + 1)
      · have e3 := q2 e1 e2
        by_cases e4 : leapZ kind y
        · rw [if_pos e4] at e3; simp [e4, e3]
        · rw [if_neg e4] at e3; simp [e4, e3]
      · simp [e2]
    · simp [e1]
  have hh : Hint z := trivial
  k_with "call ref" => (k_dflt (refine' cb_use (c_leap _ _ _ _ _ ?sw ?sb) ?k1 ?k2 ?k3 ?k4 ?k5 ?k6 ?k7 ?k8 ?_; (case sw => with_reducible assumption); (case sb => with_reducible assumption); (case k1 => k_asm); (case k2 => k_asm); (case k3 => k_asm); (case k4 => k_asm); (case k5 => k_asm); (case k6 => first | exact rfl | assumption); (case k7 => ktr_room); (case k8 => walk_at "units"); intro _ _ _ _ _; (try dsimp only)))
  k_with "call ref" => (k_dflt (refine' cb_use (c_agreed _ _ _ _ _ ?sk ?sb) ?k1 ?k2 ?k3 ?k4 ?k5 ?k6 ?k7 ?k8 ?_; (case sk => with_reducible assumption); (case sb => with_reducible assumption); (case k1 => k_asm); (case k2 => k_asm); (case k3 => k_asm); (case k4 => k_asm); (case k5 => k_asm); (case k6 => first | exact rfl | assumption); (case k7 => ktr_room); (case k8 => walk_at "units"); intro _ _ _ _ _; (try dsimp only)))
  k_with "call ref" => (k_dflt (refine' cb_use (c_to _ _ _ _ _ _ _ _ _ ?sw ?sb ?sy ?sm ?sd ?s13) ?k1 ?k2 ?k3 ?k4 ?k5 ?k6 ?k7 ?k8 ?_; (case sw => with_reducible assumption); (case sb => with_reducible assumption); (case sy => walk_at "om"); (case sm => walk_at "om"); (case sd => walk_at "om"); (case s13 => walk_at "om"); (case k1 => k_asm); (case k2 => k_asm); (case k3 => k_asm); (case k4 => k_asm); (case k5 => k_asm); (case k6 => first | exact rfl | assumption); (case k7 => ktr_room); (case k8 => walk_at "units"); intro _ _ _ _ _ _ _; (try dsimp only)))
  k_with "mine cut" => ((with_reducible show wpAny _ _ (execs ((Stmt.Assign [PySem.Expr.Name (Str.ofString "far") _] _ _) :: _) _) _ _ _); k_dflt (refine' td_cut (td_C a1 b1 c1 kind y M D1 N1 cy cm cd1 b6 v v2 bw bc hv hv2 hy hb6 hday) ?kB ?kF ?kX ?kN ?kT ?kXB ?kTB ?kD ?kT0 ?kk ?k1 ?k2 ?hn ?hret; (case kF => k_asm); (case kB => k_asm); (case kX => k_asm); (case kN => k_asm); (case kT => k_asm); (case kXB => assumption); (case kTB => assumption); (case kD => assumption); (case kT0 => first | assumption | exact KtsTurn.refl); (case kk => assumption); (case k1 => assumption); (case k2 => assumption); (case hn => exact ⟨⟨⟨_, by ((try dsimp only); walk_at "look")⟩, by ((try dsimp only); walk_at "look"), by ((try dsimp only); walk_at "look"), by ((try dsimp only); walk_at "look"), by ((try dsimp only); walk_at "look"), ⟨_, by ((try dsimp only); walk_at "look")⟩, ⟨_, _, _, _, by k_mem⟩, ⟨_, _, _, _, by k_mem⟩⟩, ⟨_, by ((try dsimp only); walk_at "look")⟩, ⟨_, by ((try dsimp only); walk_at "look")⟩, ⟨_, by ((try dsimp only); walk_at "look")⟩, ⟨_, by ((try dsimp only); walk_at "look")⟩, by ((try dsimp only); walk_at "look"), ⟨_, by ((try dsimp only); walk_at "look")⟩, ⟨_, by ((try dsimp only); walk_at "look")⟩⟩); (case hret => (intro g2 h2 m2 tk2 T2 F2 N2; exact hret g2 h2 m2 tk2 T2 F2 (by walk_at "news")))))
  intro dp un gd cn cs a ccd L base g₀ g L' m news s Q B F X N T XB TB D T0 hk hdp hu hn hret
  conv in (occs := *) (scopeAt w 212) => all_goals whnf
  conv in (bodyAt w 212 13) => whnf
  obtain ⟨⟨⟨t1, M1⟩, M2, M3, M4, M5, ⟨t6, M6⟩, ⟨u1, u2, u3, u4, M7⟩, ⟨w1, w2, w3, w4, M8⟩⟩, ⟨ta, Ma⟩, ⟨tb, Mb⟩, ⟨tc, Mc⟩, ⟨ty, My⟩, Ms, ⟨tm, Mm⟩, ⟨td, Md⟩⟩ := hn
  k_steps
  all_goals exfalso
  all_goals first
    | exact absurd ‹(b6 != b6) = true› (by simp)
    | (rcases hag with h9 | h9 | ⟨h9, h8⟩ | ⟨h9, h8⟩ <;> first | exact absurd (h9.symm.trans ‹ba = true›) (by decide) | exact absurd (h9.symm.trans ‹bb = true›) (by decide) | exact absurd (h9.symm.trans ‹b6 = false›) (by decide) | exact absurd (h9.symm.trans ‹b6 = true›) (by decide) | omega)
theorem td_cut13 {w : World} {loose : List Str} {mean : ExcName → Option Value} {mg mb : Str → Option Value} {a1 b1 c1 kind y M D N1 cy cm cd : Int} {b6 : Bool} {v v2 : Value} {bw bc : Addr} {ta tb tc t1 ty tm td tn u1 u2 u3 w1 w2 w3 : Tok} {u4 w4 : Nat}
    {dp un : Nat} {gd : Option (List Code)} {cn : Str} {cs : Scope} {a : Addr} {ccd : Value} {L : Addr} {base g₀ g : Heap} {L' : Addr} {m : Str → Option Value} {news : List (Addr × Obj)} {s : Shared} {Q : Flow → Shared → Prop} {E : Value → Shared → Prop}
    (F : Fr g L' s.heap m) (Ma : m (Str.ofString "a") = some (.int a1 ta)) (Mb : m (Str.ofString "b") = some (.int b1 tb)) (Mc : m (Str.ofString "c") = some (.int c1 tc)) (Mk : m (Str.ofString "kind") = some (.int kind t1)) (Mw : m (Str.ofString "way") = some v) (Mo : m (Str.ofString "other") = some v2)
    (My : m (Str.ofString "year") = some (.int y ty)) (Ms : m (Str.ofString "sixth") = some (.bool b6)) (Mm : m (Str.ofString "month") = some (.int M tm)) (Md : m (Str.ofString "day") = some (.int D td)) (Mn : m (Str.ofString "number") = some (.int N1 tn))
    (Mh : m (Str.ofString "when") = some (.ref bw)) (Mv : m (Str.ofString "civil") = some (.ref bc)) (N : News g L' s.heap news) (M7 : (bw, tup3 y M D u1 u2 u3 u4) ∈ news) (M8 : (bc, tup3 cy cm cd w1 w2 w3 w4) ∈ news)
    (hv : Way kind v) (hv2 : Way kind v2) (hy : 1 ≤ y ∧ y ≤ 1000000) (hb6 : decide (leapZ kind y) = b6) (hday : DayOk kind y M D N1 cy cm cd b6)
    (B : Below (ktrTop dp un gd cn cs L a ccd [] []) base [envOf cn cs L a ccd] g) (X : (hd.heap_39 w.params).In g) (T : Top hd.view_39 loose mean mg mb g) (XB : (hd.heap_39 w.params).In base) (TB : Top hd.view_39 loose mean mg mb base)
    (D' : KtsDicts ([envOf cn cs L a ccd].filterMap (·.frame)) g) (T0 : KtsTurn ([envOf cn cs L a ccd].filterMap (·.frame)) g₀ g) (hk : cs.kind = .function) (h1 : dp + 20 < recursionLimit) (h2 : un + 8 * 20 < cLine)
    (hret : ∀ (g' h' : Heap) (m' : Str → Option Value) (tk' : Nat), KtsTurn ([envOf cn cs L a ccd].filterMap (·.frame)) g₀ g' → Fr g' L' h' m' → News g' L' h' news → Q (.ret (.bool true)) { s with heap := h', toks := tk' }) :
      wpAny (model Pg w) ((ktrTop dp un gd cn cs L a ccd [] []).deeper (envOf (Str.ofString "_law_three_days") (scopeAt w 212) L' 212 (.ref 211))) (execs (bodyAt w 212 13) (envOf (Str.ofString "_law_three_days") (scopeAt w 212) L' 212 (.ref 211))) Q E s :=
  td_cut (td_B a1 b1 c1 kind y M D N1 cy cm cd b6 v v2 bw bc hv hv2 hy hb6 hday) B F X N T XB TB D' T0 hk h1 h2 ⟨⟨⟨_, Mk⟩, Mw, Mo, Mh, Mv, ⟨_, Mn⟩, ⟨_, _, _, _, M7⟩, ⟨_, _, _, _, M8⟩⟩, ⟨_, Ma⟩, ⟨_, Mb⟩, ⟨_, Mc⟩, ⟨_, My⟩, Ms, ⟨_, Mm⟩, ⟨_, Md⟩⟩ hret
theorem td_A6 {w loose mean mg mb} (a1 b1 c1 kind y : Int) (b6 : Bool) (v v2 : Value) (hv : Way kind v) (hv2 : Way kind v2) (hy : 1 ≤ y ∧ y ≤ 1000000)
    (hb6 : decide (leapZ kind y) = b6) : TD w loose mean mg mb 6 (NeedA6 a1 b1 c1 kind y b6 v v2) := by
  unfold TD Pg
  k_fill
  k_with_none
  intro dp un gd cn cs a ccd L base g₀ g L' m news s Q B F X N T XB TB D T0 hk hdp hu hn hret
  conv in (occs := *) (scopeAt w 212) => all_goals whnf
  conv in (bodyAt w 212 6) => whnf
  obtain ⟨⟨⟨ta, Ma⟩, ⟨tb, Mb⟩, ⟨tc, Mc⟩, ⟨t1, M1⟩, M2, M3⟩, ⟨ty, My⟩, Ms⟩ := hn
  have hk3 := hv.kinds
  refine wpAny_execs_cons ?_
  k_dflt (refine' join_set (Str.ofString "place") (fun r => ∃ p t, r = some (.int p t) ∧ 0 ≤ p ∧ (p ≤ 364 ∨ (p = 365 ∧ b6 = true))) ?jF ?jN ?jw ?jh)
  (case jF => k_asm)
  (case jN => k_asm)
  (case jw =>
    k_steps
    all_goals (
      refine' set_end ?zF ?zN ?zz ?zp
      (case zF => k_asm)
      (case zN => k_asm)
      (case zz => (intro z z1; simp only [z1, ↓reduceIte]))
      (case zp => ((try dsimp only); refine ⟨_, _, (by walk_at "look"), ?_⟩; first | omega | (refine ⟨by omega, ?_⟩; first | exact .inl (by omega) | exact .inr ⟨by omega, by assumption⟩ | (rcases Bool.eq_false_or_eq_true b6 with h | h <;> simp_all <;> omega) | trace_state)))))
  (case jh =>
    rintro h9 tk9 r9 ⟨p1, t9, rfl, hp0, hp⟩ F9 N9
    clear F N
    have hsx := sx_le hk3 (show 0 ≤ y - 1 by omega)
    obtain ⟨N1, hN1⟩ : ∃ n : Int, n = 2375840 + 365 * (y - 1) + sx kind (y - 1) + p1 := ⟨_, rfl⟩
    obtain ⟨cy, cm, cd1, hc, hcy⟩ := civ_ex (N1 - 1721426) (by omega)
    rw [hN1] at hc hcy
    try dsimp only
    k_with "call ref" => (k_dflt (refine' cb_use (c_sixths _ _ _ _ ?so ?sy) ?k1 ?k2 ?k3 ?k4 ?k5 ?k6 ?k7 ?k8 ?_; (case so => with_reducible assumption); (case sy => walk_at "om"); (case k1 => k_asm); (case k2 => k_asm); (case k3 => k_asm); (case k4 => k_asm); (case k5 => k_asm); (case k6 => first | exact rfl | assumption); (case k7 => ktr_room); (case k8 => walk_at "units"); intro _ _ _ _ _; (try dsimp only)))
    k_with "call ref" => (k_dflt (refine' cb_use (c_civil _ _ _ _ _ ?sc ?sn) ?k1 ?k2 ?k3 ?k4 ?k5 ?k6 ?k7 ?k8 ?_; (case sc => with_reducible assumption); (case sn => walk_at "om"); (case k1 => k_asm); (case k2 => k_asm); (case k3 => k_asm); (case k4 => k_asm); (case k5 => k_asm); (case k6 => first | exact rfl | assumption); (case k7 => ktr_room); (case k8 => walk_at "units"); intro _ _ _ _ _ _ _ _ _; (try dsimp only)))
    k_with "mine while" => (k_dflt (((refine' while3 (Str.ofString "day") (Str.ofString "month") (Str.ofString "place") (fun d M z => z = p1 ∧ 1 ≤ M ∧ 1 ≤ d ∧ 30 * M + d = p1 + 31) (fun d _ _ => d.toNat) ?Fw9 ?Nw9 ?hAw9 ?hBw9 ?hCw9 ?hIw9 ?_ ?hEw9); (case Fw9 => k_asm); (case Nw9 => k_asm); (case hAw9 => ((try dsimp only); walk_at "look")); (case hBw9 => ((try dsimp only); walk_at "look")); (case hCw9 => ((try dsimp only); walk_at "look")); (case hIw9 => ((try dsimp only); walk_at "om")); (case hEw9 => passes_own); intro d9 M9 z9 _ _ _ _ _ hI9 _ _; (try dsimp only at hI9); (try dsimp only); skip)))
    k_with "mine cut" => ((with_reducible show wpAny _ _ (execs ((Stmt.If _ _ _ _) :: _) _) _ _ _); k_dflt (refine' td_cut13 ?kF ?q1 ?q2 ?q3 ?q4 ?q5 ?q6 ?q7 ?q8 ?q9 ?qa ?qb ?qc ?qd ?kN ?m7 ?m8 ?hv9 ?hw9 ?hy9 ?hb9 ?hd9 ?kB ?kX ?kT ?kXB ?kTB ?kD ?kT0 ?kk ?k1 ?k2 ?hret; (case kF => k_asm); (case q1 => ((try dsimp only); walk_at "look")); (case q2 => ((try dsimp only); walk_at "look")); (case q3 => ((try dsimp only); walk_at "look")); (case q4 => ((try dsimp only); walk_at "look")); (case q5 => ((try dsimp only); walk_at "look")); (case q6 => ((try dsimp only); walk_at "look")); (case q7 => ((try dsimp only); walk_at "look")); (case q8 => ((try dsimp only); walk_at "look")); (case q9 => ((try dsimp only); walk_at "look")); (case qa => ((try dsimp only); walk_at "look")); (case qb => ((try dsimp only); walk_at "look")); (case qc => ((try dsimp only); walk_at "look")); (case qd => ((try dsimp only); walk_at "look")); (case kN => k_asm); (case m7 => k_mem); (case m8 => k_mem); (case hv9 => exact hv); (case hw9 => exact hv2); (case hy9 => exact hy); (case hb9 => exact hb6); (case hd9 => (refine ⟨by omega, by omega, by omega, by omega, ?_, by omega, hc⟩; by_cases h13 : M9 = 13; (refine .inr ?_; cases b6 <;> simp only [Bool.false_eq_true, ↓reduceIte, and_false, or_false, and_true] at hp ⊢ <;> omega); exact .inl h13)); (case kB => k_asm); (case kX => k_asm); (case kT => k_asm); (case kXB => assumption); (case kTB => assumption); (case kD => assumption); (case kT0 => first | assumption | exact KtsTurn.refl); (case kk => assumption); (case k1 => assumption); (case k2 => assumption); (case hret => (intro g2 h2 m2 tk2 T2 F2 N2; exact hret g2 h2 m2 tk2 T2 F2 (by walk_at "news")))))
    k_steps
    all_goals first
      | (refine' w3_end ?F ?N ?h1 ?h2 ?h3 ?h4 ?hI ?hμ
         (case F => k_asm)
         (case N => walk_at "news")
         (case h1 => ((try dsimp only); walk_at "look"))
         (case h2 => ((try dsimp only); walk_at "look"))
         (case h3 => ((try dsimp only); walk_at "look"))
         (case h4 => (intro z9 k1 k2 k3; simp only [k1, k2, k3, ↓reduceIte]))
         (case hI => ((try dsimp only); omega))
         (case hμ => ((try dsimp only); omega)))
      | trace_state)
theorem td_A4 {w loose mean mg mb} (a1 b1 c1 kind so : Int) (v v2 : Value) (hv : Way kind v) (hv2 : Way kind v2) (hso : 0 ≤ so ∧ so ≤ 3) : TD w loose mean mg mb 4 (NeedA4 a1 b1 c1 kind so v v2) := by
  unfold TD Pg
  k_fill
  k_with_none
  intro dp un gd cn cs a ccd L base g₀ g L' m news s Q B F X N T XB TB D T0 hk hdp hu hn hret
  conv in (occs := *) (scopeAt w 212) => all_goals whnf
  conv in (bodyAt w 212 4) => whnf
  obtain ⟨⟨⟨ta, Ma⟩, ⟨tb, Mb⟩, ⟨tc, Mc⟩, ⟨t1, M1⟩, M2, M3⟩, ⟨ts, Ms⟩⟩ := hn
  have hk3 := hv.kinds
  refine wpAny_execs_cons ?_
  k_dflt (refine' join_set (Str.ofString "year") (fun r => ∃ y t, r = some (.int y t) ∧ 1 ≤ y ∧ y ≤ 1000000) ?jF ?jN ?jw ?jh)
  (case jF => k_asm)
  (case jN => k_asm)
  (case jw =>
    k_steps
    all_goals (
      refine' set_end ?zF ?zN ?zz ?zp
      (case zF => k_asm)
      (case zN => k_asm)
      (case zz => (intro z z1; simp only [z1, ↓reduceIte]))
      (case zp => ((try dsimp only); refine ⟨_, _, (by walk_at "look"), ?_⟩; first | omega | trace_state))))
  (case jh =>
    rintro h9 tk9 r9 ⟨y, t9, rfl, hy⟩ F9 N9
    clear F N
    obtain ⟨b6, hb6⟩ : ∃ x, decide (leapZ kind y) = x := ⟨_, rfl⟩
    try dsimp only
    k_with "call ref" => (k_dflt (refine' cb_use (c_sixth _ _ _ _ _ ?so ?sy ?sb) ?k1 ?k2 ?k3 ?k4 ?k5 ?k6 ?k7 ?k8 ?_; (case so => with_reducible assumption); (case sy => walk_at "om"); (case sb => with_reducible assumption); (case k1 => k_asm); (case k2 => k_asm); (case k3 => k_asm); (case k4 => k_asm); (case k5 => k_asm); (case k6 => first | exact rfl | assumption); (case k7 => ktr_room); (case k8 => walk_at "units"); intro _ _ _ _ _; (try dsimp only)))
    k_with "mine cut" => ((with_reducible show wpAny _ _ (execs ((Stmt.Assign [PySem.Expr.Name (Str.ofString "place") _] _ _) :: _) _) _ _ _); k_dflt (refine' td_cut (td_A6 a1 b1 c1 kind y b6 v v2 hv hv2 hy hb6) ?kB ?kF ?kX ?kN ?kT ?kXB ?kTB ?kD ?kT0 ?kk ?k1 ?k2 ?hn ?hret; (case kF => k_asm); (case kB => k_asm); (case kX => k_asm); (case kN => k_asm); (case kT => k_asm); (case kXB => assumption); (case kTB => assumption); (case kD => assumption); (case kT0 => first | assumption | exact KtsTurn.refl); (case kk => assumption); (case k1 => assumption); (case k2 => assumption); (case hn => exact ⟨⟨⟨_, by ((try dsimp only); walk_at "look")⟩, ⟨_, by ((try dsimp only); walk_at "look")⟩, ⟨_, by ((try dsimp only); walk_at "look")⟩, ⟨_, by ((try dsimp only); walk_at "look")⟩, by ((try dsimp only); walk_at "look"), by ((try dsimp only); walk_at "look")⟩, ⟨_, by ((try dsimp only); walk_at "look")⟩, by ((try dsimp only); walk_at "look")⟩); (case hret => (intro g2 h2 m2 tk2 T2 F2 N2; exact hret g2 h2 m2 tk2 T2 F2 (by walk_at "news")))))
    k_steps
    all_goals trace_state)
theorem td_cut4 {w : World} {loose : List Str} {mean : ExcName → Option Value} {mg mb : Str → Option Value} {a1 b1 c1 kind so : Int} {v v2 : Value} {ta tb tc t1 ts : Tok}
    {dp un : Nat} {gd : Option (List Code)} {cn : Str} {cs : Scope} {a : Addr} {ccd : Value} {L : Addr} {base g₀ g : Heap} {L' : Addr} {m : Str → Option Value} {news : List (Addr × Obj)} {s : Shared} {Q : Flow → Shared → Prop} {E : Value → Shared → Prop}
    (F : Fr g L' s.heap m) (Ma : m (Str.ofString "a") = some (.int a1 ta)) (Mb : m (Str.ofString "b") = some (.int b1 tb)) (Mc : m (Str.ofString "c") = some (.int c1 tc)) (Mk : m (Str.ofString "kind") = some (.int kind t1)) (Mw : m (Str.ofString "way") = some v) (Mo : m (Str.ofString "other") = some v2) (Ms : m (Str.ofString "sort") = some (.int so ts))
    (hv : Way kind v) (hv2 : Way kind v2) (hso : 0 ≤ so ∧ so ≤ 3)
    (B : Below (ktrTop dp un gd cn cs L a ccd [] []) base [envOf cn cs L a ccd] g) (X : (hd.heap_39 w.params).In g) (N : News g L' s.heap news) (T : Top hd.view_39 loose mean mg mb g) (XB : (hd.heap_39 w.params).In base) (TB : Top hd.view_39 loose mean mg mb base)
    (D : KtsDicts ([envOf cn cs L a ccd].filterMap (·.frame)) g) (T0 : KtsTurn ([envOf cn cs L a ccd].filterMap (·.frame)) g₀ g) (hk : cs.kind = .function) (h1 : dp + 20 < recursionLimit) (h2 : un + 8 * 20 < cLine)
    (hret : ∀ (g' h' : Heap) (m' : Str → Option Value) (tk' : Nat), KtsTurn ([envOf cn cs L a ccd].filterMap (·.frame)) g₀ g' → Fr g' L' h' m' → News g' L' h' news → Q (.ret (.bool true)) { s with heap := h', toks := tk' }) :
      wpAny (model Pg w) ((ktrTop dp un gd cn cs L a ccd [] []).deeper (envOf (Str.ofString "_law_three_days") (scopeAt w 212) L' 212 (.ref 211))) (execs (bodyAt w 212 4) (envOf (Str.ofString "_law_three_days") (scopeAt w 212) L' 212 (.ref 211))) Q E s :=
  td_cut (td_A4 a1 b1 c1 kind so v v2 hv hv2 hso) B F X N T XB TB D T0 hk h1 h2 ⟨⟨⟨_, Ma⟩, ⟨_, Mb⟩, ⟨_, Mc⟩, ⟨_, Mk⟩, Mw, Mo⟩, _, Ms⟩ hret
theorem c_three {w loose mean mg mb} (a1 b1 c1 : Int) (t1 t2 t3 : Tok) :
    CB0 w loose mean mg mb 212 20 [.int a1 t1, .int b1 t2, .int c1 t3] true := by
  unfold CB0 Pg
  k_fill
  k_with_none
  k_with "mine cut" => ((with_reducible show wpAny _ _ (execs ((Stmt.If _ _ _ _) :: _) _) _ _ _); k_dflt (refine' td_cut4 ?kF ?q1 ?q2 ?q3 ?q4 ?q5 ?q6 ?q7 ?hv9 ?hw9 ?hs9 ?kB ?kX ?kN ?kT ?kXB ?kTB ?kD ?kT0 ?kk ?k1 ?k2 ?hret; (case kF => k_asm); (case q1 => ((try dsimp only); walk_at "look")); (case q2 => ((try dsimp only); walk_at "look")); (case q3 => ((try dsimp only); walk_at "look")); (case q4 => ((try dsimp only); walk_at "look")); (case q5 => ((try dsimp only); walk_at "look")); (case q6 => ((try dsimp only); walk_at "look")); (case q7 => ((try dsimp only); walk_at "look")); (case hv9 => assumption); (case hw9 => assumption); (case hs9 => walk_at "om"); (case kB => k_asm); (case kX => k_asm); (case kN => k_asm); (case kT => k_asm); (case kXB => assumption); (case kTB => assumption); (case kD => assumption); (case kT0 => exact KtsTurn.refl); (case kk => assumption); (case k1 => assumption); (case k2 => assumption); (case hret => (intro g2 h2 m2 tk2 T2 F2 N2; exact leaveS0_ F2 N2 T2 (fun kF kN => hret _ _ kF kN)))))
  intro dp un gd cn cs a ccd A₀ base h₀ L m' news s Q E B F X N T XB TB hk hdp hu hret
  refine wpAny_call ?_
  k_dflt (refine' code_defS0 (binds := [(Str.ofString "a", .int a1 t1), (Str.ofString "b", .int b1 t2), (Str.ofString "c", .int c1 t3)]) ?k1 ?k2 ?k3 ?k4 ?k5 ?kA ?k6 ?k7 ?k8 ?k9 ?kB ?_ ?cK ?c2 ?c3 ?c4 ?c5; (case kA => exact rfl); (case k2 => k_asm); (case k1 => k_asm); (case k3 => k_asm); (case k4 => k_asm); (case k5 => k_asm); (case k6 => k_is); (case k7 => k_is); (case k8 => ktr_room); (case k9 => first | exact BindsTo.of_eq rfl | exact binds_K (by k_in) rfl (by k_is) rfl rfl rfl); (case kB => exact locs rfl); (case cK => assumption); (case c2 => exact rfl); (case c3 => exact rfl); (case c4 => exact rfl); (case c5 => decide); k_whole; intro g' L' h' FG' F' N' B' X' T' D'; (simp only [List.reverse_cons, List.reverse_nil, List.nil_append, List.cons_append] at F'); (try dsimp only); (try k_lift B'); (try k_fold))
  k_steps
  all_goals trace_state
theorem cb0_use {w : World} {loose : List Str} {mean : ExcName → Option Value} {mg mb : Str → Option Value} {f : Addr} {n : Nat} {vs : List Value} {b : Bool} (C : CB0 w loose mean mg mb f n vs b)
    {dp un : Nat} {gd : Option (List Code)} {cn : Str} {cs : Scope} {a : Addr} {ccd : Value} {A₀ : Around} {base h₀ : Heap} {L : Addr} {m : Str → Option Value} {news : List (Addr × Obj)} {s : Shared} {Q E : Value → Shared → Prop}
    (F : Fr h₀ L s.heap m) (N : News h₀ L s.heap news) (B : Below A₀ base [] h₀) (X : (hd.heap_39 w.params).In h₀) (T : Top hd.view_39 loose mean mg mb h₀) (XB : (hd.heap_39 w.params).In base) (TB : Top hd.view_39 loose mean mg mb base)
    (hk : cs.kind = .function) (h1 : dp + n < recursionLimit) (h2 : un + 8 * n < cLine)
    (g : ∀ (h' : Heap) (tk' : Nat), Fr h₀ L h' m → News h₀ L h' news → Q (.bool b) { s with heap := h', toks := tk' }) :
    wpAny (model Pg w) (ktrTop dp un gd cn cs L a ccd [] []) (call (.ref f) vs) Q E s := C dp un gd cn cs a ccd A₀ base h₀ L m news s Q E B F X N T XB TB hk h1 h2 g
section
variable {prog : Program} {w : World} {A : Around} {E : Value → Shared → Prop} {s : Shared} {h₀ : Heap} {L : Addr} {m : Str → Option Value} {news : List (Addr × Obj)}
theorem w_cut9 {value slice : PySem.Expr} {l : Addr} {vs : List Value} {ns : List Int} {c : Nat} {t : Tok} {Q : Value → Shared → Prop} (F : Fr h₀ L s.heap m) (N : News h₀ L s.heap news) (hm : (l, W.listOf vs.toArray c) ∈ news) (hi : IntsAre vs (ns ++ [0, 0, 0])) (hlen : ns.length ≤ 63)
    (h : ∀ D h' ws ms, Fr h₀ L h' m → News h₀ L h' ((D, W.listOf (List.toArray ws) 0) :: news) → IntsAre ws ms → 3 ≤ ms.length → ms.length ≤ 9 → Q (.ref D) { s with heap := h' })
    (hs : subscripted slice false (.ref l) (.ref s.heap.objs.size) = operate [.ref s.heap.objs.size, .ref l] (getItem (.ref l) (.ref s.heap.objs.size))) (ht : ∀ r, letTemporaryGo value (.ref l) r = pure ()) :
    wpAny (model prog w) A (subscriptTail value slice (.ref l) (.ref s.heap.objs.size)) Q E { s with heap := s.heap.push { cls := .type "slice", data := .fields #[.none, .int 9 t, .none] } } := by
  have hms := kmk_upto hi (show (0 : Int) ≤ 9 by decide)
  have hlm : ((ns ++ [0, 0, 0]).take (9 : Int).toNat).length = min 9 (ns.length + 3) := by simp
  refine kmk_slice F N (News.isList N hm) .none (.int 9 t) (fun D h' F' N' _ => h D h' (slicePick vs.toArray none (some 9) none).toList _ F' ?_ hms ?_ ?_) hs ht ?_
  · rw [Array.toArray_toList]; exact N'
  · rw [hlm]; omega
  · rw [hlm]; omega
  · rw [List.size_toArray, hi.length, List.length_append]
    show ns.length + 3 ≤ sizeLine
    unfold sizeLine
    omega
theorem w_item {value slice : PySem.Expr} {l : Addr} {ws : List Value} {ms : List Int} {c : Nat} {k : Int} {u : Tok} {Q : Value → Shared → Prop} (N : News h₀ L s.heap news) (hm : (l, W.listOf ws.toArray c) ∈ news) (hi : IntsAre ws ms) (hk : 0 ≤ k ∧ k < ms.length ∧ ms.length ≤ 9) (h : ∀ n t, Q (.int n t) s)
    (hs : subscripted slice false (.ref l) (.int k u) = operate [.ref l, .int k u] (getItem (.ref l) (.int k u)) := by with_unfolding_all rfl) (hg : ∀ r, letTemporaryGo value (.ref l) r = pure () := by intro _; with_unfolding_all rfl) :
    wpAny (model prog w) A (subscriptTail value slice (.ref l) (.int k u)) Q E s := item_list_ints (News.isList N hm) hi hk.1 hk.2.1 (by omega) (fun t => h _ t) hs hg
theorem oat_rangeC {env : Env} {body : List Stmt} {Q : Flow → Shared → Prop} {r : Addr} {a₀ b₀ c : Int} {t₀ u₀ v₀ : Tok} {g : Heap} {x : Str} {px : Pos} (G : Heap → Prop) (J : Nat → (Str → Option Value) → List (Addr × Obj) → Prop)
    (hr : IsRange s.heap r a₀ b₀ c t₀ u₀ v₀) (F : Fr g env.locals s.heap m) (N : News g env.locals s.heap news) (hh : A.handled = none) (hsmall : Builtin.Range.small a₀ b₀ c = true) {n : Nat} (hn : Builtin.Range.rangeSize a₀ b₀ c = (n : Int)) (hG : G g)
    (hJ : J 0 m news)
    (turn : ∀ I i t g m nx h tk o, i < n → J i m nx → G g → Fr g env.locals h m → News g env.locals h ((I, o) :: nx) → (∀ p ∈ nx, p.1 ≠ I) →
      wpAny (model prog w) A (assign (.Name x px) env (.int (a₀ + i * c) t)) (fun _ s₂ => wpAny (model prog w) A (execs body env) (OEnd G env.locals s I o (J (i + 1))) (fun _ _ => False) s₂) (fun _ _ => False) { s with heap := h, toks := tk })
    (done : ∀ g h tk m nx, G g → J n m nx → Fr g env.locals h m → News g env.locals h nx → Q .next { s with heap := h, toks := tk }) :
    OAt prog w A env (.Name x px) body Q E (.ref r) s := by
  refine wpAny_pyIter_range hr hsmall ?_
  have W : Walks prog w A s.heap.objs.size [s.heap.objs.size] [s.heap.objs.size] n _ _ := Walks.range hh _ a₀ c n
  refine for_own (s := { s with heap := _ }) W (fun i h st => ⟨_, st⟩) G J (fun b hb hbI => absurd (List.mem_singleton.mp hb) hbI) (fun i s' v Q' E' st hQ' => wpAny_pure hQ') ?_ hG (F.push _) (fun p hp => ⟨Heap.get?_push_of_some _ (N p hp).1, (N p hp).2⟩)
    (Heap.get?_none_of_le (Nat.le_of_lt (Nat.lt_of_le_of_lt F.above F.ns.lt))) (fun q => absurd F.ns.lt (q ▸ Nat.lt_irrefl _)) (fun p hp => Nat.ne_of_lt (Heap.lt_size (N p hp).1)) hJ ?_ done
  · show IsRangeIter _ _ _ _ _
    rw [hn]
    simpa using Heap.get?_push_size _ rfl
  · rintro i _ g m nx h tk o hi ⟨t, rfl⟩ hJ hG F N hoff _
    exact turn _ i t g m nx h tk o hi hJ hG F N hoff
theorem thirds {k : Nat} (h1 : 3 ≤ k) (h2 : k ≤ 9) : Builtin.Range.small 0 ((k : Int) - 2) 3 = true ∧ ∃ n : Nat, Builtin.Range.rangeSize 0 ((k : Int) - 2) 3 = (n : Int) ∧ ∀ i : Nat, i < n → 3 * i + 2 < k := by
  have hc : k = 3 ∨ k = 4 ∨ k = 5 ∨ k = 6 ∨ k = 7 ∨ k = 8 ∨ k = 9 := by omega
  rcases hc with rfl | rfl | rfl | rfl | rfl | rfl | rfl
  · exact ⟨by decide, 1, by decide, fun i hi => by omega⟩
  · exact ⟨by decide, 1, by decide, fun i hi => by omega⟩
  · exact ⟨by decide, 1, by decide, fun i hi => by omega⟩
  · exact ⟨by decide, 2, by decide, fun i hi => by omega⟩
  · exact ⟨by decide, 2, by decide, fun i hi => by omega⟩
  · exact ⟨by decide, 2, by decide, fun i hi => by omega⟩
  · exact ⟨by decide, 3, by decide, fun i hi => by omega⟩
end
theorem w_cut9' {prog : Program} {w : World} {A : Around} {E : Value → Shared → Prop} {s : Shared} {h₀ : Heap} {L : Addr} {m : Str → Option Value} {news : List (Addr × Obj)} {value slice : PySem.Expr} {l : Addr} {vs : List Value} {ns : List Int} {c : Nat} {t : Tok} {Q : Value → Shared → Prop} {hp : Heap} {tk : Nat}
    (F : Fr h₀ L hp m) (N : News h₀ L hp news) (hm : (l, W.listOf vs.toArray c) ∈ news) (hi : IntsAre vs (ns ++ [0, 0, 0])) (hlen : ns.length ≤ 63)
    (h : ∀ D h' ws ms, Fr h₀ L h' m → News h₀ L h' ((D, W.listOf (List.toArray ws) 0) :: news) → IntsAre ws ms → 3 ≤ ms.length → ms.length ≤ 9 → Q (.ref D) { s with heap := h', toks := tk })
    (hs : ∀ a b, subscripted slice false (.ref a) (.ref b) = operate [.ref b, .ref a] (getItem (.ref a) (.ref b))) (ht : ∀ r a, letTemporaryGo value (.ref a) r = pure ()) :
    wpAny (model prog w) A (subscriptTail value slice (.ref l) (.ref hp.objs.size)) Q E { s with heap := hp.push { cls := .type "slice", data := .fields #[.none, .int 9 t, .none] }, toks := tk } :=
  w_cut9 (s := { s with heap := hp, toks := tk }) F N hm hi hlen h (hs _ _) (fun r => ht r _)
theorem oat_rangeG {prog : Program} {w : World} {A : Around} {E : Value → Shared → Prop} {s : Shared} {m : Str → Option Value} {news : List (Addr × Obj)} {env : Env} {body : List Stmt} {Q : Flow → Shared → Prop} {r L : Addr} {a₀ b₀ c : Int} {t₀ u₀ v₀ : Tok} {g : Heap} {x : Str} {px : Pos} (J : Nat → (Str → Option Value) → List (Addr × Obj) → Prop)
    (hr : IsRange s.heap r a₀ b₀ c t₀ u₀ v₀) (F : Fr g L s.heap m) (hL : env.locals = L) (N : News g L s.heap news) (hh : A.handled = none) (hsmall : Builtin.Range.small a₀ b₀ c = true) {n : Nat} (hn : Builtin.Range.rangeSize a₀ b₀ c = (n : Int))
    (hJ : J 0 m news)
    (turn : ∀ I i t m nx h tk o, i < n → J i m nx → Fr g L h m → News g L h ((I, o) :: nx) → (∀ p ∈ nx, p.1 ≠ I) →
      wpAny (model prog w) A (assign (.Name x px) env (.int (a₀ + i * c) t)) (fun _ s₂ => wpAny (model prog w) A (execs body env) (OEnd (fun g' => g' = g) L s I o (J (i + 1))) (fun _ _ => False) s₂) (fun _ _ => False) { s with heap := h, toks := tk })
    (done : ∀ h tk m nx, J n m nx → Fr g L h m → News g L h nx → Q .next { s with heap := h, toks := tk }) :
    OAt prog w A env (.Name x px) body Q E (.ref r) s := by
  subst hL
  refine oat_rangeC (fun g' => g' = g) J hr F N hh hsmall hn rfl hJ ?_ ?_
  · rintro I i t _ m nx h tk o hi hJ rfl F N hoff
    exact turn I i t m nx h tk o hi hJ F N hoff
  · rintro _ h tk m nx rfl hJ F N
    exact done h tk m nx hJ F N
local macro_rules | `(tactic| walk_at "subscriptTail BinOp") => `(tactic| refine stop_at ?_)
local macro_rules | `(tactic| walk_at "subscriptTail Name Name ref int") => `(tactic| (k_here; k_dflt (refine' w_item ?k1 ?k2 ?k3 ?k4 ?_; (case k1 => k_asm); (case k2 => k_mem); (case k3 => with_reducible assumption); (case k4 => walk_at "om")); intro _ _; try dsimp only))
local macro_rules | `(tactic| walk_at "subscriptTail Name BinOp ref int") => `(tactic| (k_here; k_dflt (refine' w_item ?k1 ?k2 ?k3 ?k4 ?_; (case k1 => k_asm); (case k2 => k_mem); (case k3 => with_reducible assumption); (case k4 => walk_at "om")); intro _ _; try dsimp only))
theorem law_ok : PySem.Challenge.rw_ad5032_01.Holds := Mine.hd (by
  k_with_none
  k_with "call ref" => (k_dflt (refine' cb0_use (c_three _ _ _ _ _ _) ?k1 ?k2 ?k3 ?k4 ?k5 ?k4b ?k5b ?k6 ?k7 ?k8 ?_; (case k1 => k_asm); (case k2 => k_asm); (case k3 => exact below_caller _); (case k4 => k_asm); (case k5 => k_asm); (case k4b => k_asm); (case k5b => k_asm); (case k6 => exact rfl); (case k7 => ktr_room); (case k8 => walk_at "units"); intro _ _ _ _; (try dsimp only)))
  k_go0
  (all_goals try k_fold)
  k_steps
  all_goals (
    unfold StopAt
    dsimp only
    k_dflt (
      refine kba_turn (value' := PySem.Expr.Name (PySem.Str.ofString "_") ⟨0, 0, 0, 0⟩) (fun _ => rfl) ?_
      refine' w_cut9' ?F ?N ?m ?i ?l ?_ ?s ?t
      (case F => k_asm)
      (case N => k_asm)
      (case m => k_mem)
      (case i => assumption)
      (case l => omega)
      (case s => (intro _ _; with_unfolding_all rfl))
      (case t => (intro _ _; with_unfolding_all rfl))
      intro D' h' ws9 ms9 F' N' hI' h3' h9'
      try dsimp only)
    obtain ⟨hsm9, n9, hn9, hlt9⟩ := thirds h3' h9'
    k_steps
    k_dflt (
      refine' oat_rangeG (fun _ m nx => m (Str.ofString "numbers") = some (.ref D') ∧ (D', W.listOf (List.toArray ws9) 0) ∈ nx) ?zr ?zF rfl ?zN ?zh hsm9 hn9 ?zJ ?zt ?ze
      (case zr => assumption)
      (case zF => k_asm)
      (case zN => k_asm)
      (case zh => exact rfl)
      (case zJ => exact ⟨by ((try dsimp only); walk_at "look"), by k_mem⟩))
    (case zt =>
      intro I9 i9 t9 m9 nx9 hp9 tk9 o9 hi9 hJ9 F1 N1 ho9
      obtain ⟨hm9, hd9⟩ := hJ9
      have hlt8 := hlt9 i9 hi9
      (try dsimp only)
      k_steps
      all_goals (
        refine' oend ?yF ?yN rfl ho9 ⟨?yJ, hd9⟩
        (case yF => k_asm)
        (case yN => first | (with_reducible assumption) | assumption)
        (case yJ => ((try dsimp only); walk_at "look"))))
    (case ze =>
      intro hp9 tk9 m9 nx9 hJ9 F1 N1
      (try dsimp only)
      k_steps
      all_goals trace_state)))

end
end Mine

theorem PySem.Challenge.cw_ad5032_01_holds : PySem.Challenge.rw_ad5032_01.Holds :=
  Mine.law_ok
