import PyProof.Rows.All
import Wide.All
import OpenK.AllK
import Wide.FinOn
import PySem.Challenge.RW_bd6012_01
set_option Elab.async false
set_option maxRecDepth 100000
set_option maxHeartbeats 8000000
set_option exponentiation.threshold 3000
set_option linter.all false
namespace Mine
section
open PySem PySem.W PyProof.Rows
open_top hd for PySem.Challenge.rw_bd6012_01
end
section
open PySem PySem.Float64


/-- the float's exact value is n / 2 -/
def Half (x : UInt64) (n : Int) : Prop := ∃ a m e, decode x = .fin a m e ∧ val x = n * 2 ^ 1073
/-- the float's floor is f -/
def Flo (x : UInt64) (f : Int) : Prop := ∃ a m e, decode x = .fin a m e ∧ floorOf a m e = f

theorem rep {k j : Nat} (hk : k < 2 ^ 53) (hj : 52 ≤ j) (hj2 : j ≤ 1100) : ∃ t, t < infMag ∧ V t = k * 2 ^ j := by
  by_cases h0 : k = 0
  · subst h0; exact ⟨0, by decide, by rw [V_zero]; simp⟩
  · have hl : k.log2 < 53 := (Nat.log2_lt h0).mpr hk
    have h1 : 2 ^ k.log2 ≤ k := Nat.log2_self_le h0
    have h2 : k < 2 ^ (k.log2 + 1) := Nat.lt_log2_self
    generalize k.log2 = l at *
    have e1 : (2 : Nat) ^ 52 = 2 ^ l * 2 ^ (52 - l) := by rw [← Nat.pow_add]; congr 1; omega
    have e2 : (2 : Nat) ^ 53 = 2 ^ (l + 1) * 2 ^ (52 - l) := by rw [← Nat.pow_add]; congr 1; omega
    have hq1 : 2 ^ 52 ≤ k * 2 ^ (52 - l) := by rw [e1]; exact Nat.mul_le_mul_right _ h1
    have hq2 : k * 2 ^ (52 - l) < 2 ^ 53 := by rw [e2]; exact Nat.mul_lt_mul_of_pos_right h2 (Nat.two_pow_pos _)
    refine ⟨(j - (52 - l)) * 2 ^ 52 + k * 2 ^ (52 - l), ?_, ?_⟩
    · have : (j - (52 - l)) * 2 ^ 52 ≤ 1100 * 2 ^ 52 := Nat.mul_le_mul_right _ (by omega)
      have e : infMag = 2047 * 2 ^ 52 := rfl
      rw [e]; omega
    · rw [V_at (by omega) (.inl hq1), Nat.mul_assoc, ← Nat.pow_add]
      congr 2; omega

theorem big {k j : Nat} (hk : k < 2 ^ 53) (hj : j ≤ 1100) : 2 * (k * 2 ^ j) < (2 ^ 54 - 1) * 2 ^ 2045 := by
  have h1 : k * 2 ^ j ≤ 2 ^ 53 * 2 ^ 1100 := Nat.mul_le_mul (Nat.le_of_lt hk) (Nat.pow_le_pow_right (by decide) hj)
  have h2 : 2 * (2 ^ 53 * 2 ^ 1100) < (2 ^ 54 - 1) * 2 ^ 2045 := by decide +kernel
  exact Nat.lt_of_le_of_lt (Nat.mul_le_mul_left 2 h1) h2

theorem right_bounds {r : UInt64} {neg : Bool} {W D : Nat} (h : Right r neg W D) (hD : 0 < D) {lo hi j : Nat} (hhi : hi < 2 ^ 53) (hj : 52 ≤ j) (hj2 : j ≤ 1100)
    (h1 : D * (lo * 2 ^ j) ≤ W) (h2 : W ≤ D * (hi * 2 ^ j)) : ∃ m e, decode r = .fin neg m e ∧ ∃ v : Nat, val r = sgn neg v ∧ lo * 2 ^ j ≤ v ∧ v ≤ hi * 2 ^ j := by
  obtain ⟨t, rfl, ht, hinf, hmin⟩ := h
  have hb := big hhi hj2
  have hlt : t < infMag := by
    refine Nat.lt_of_le_of_ne ht fun e => ?_
    have h3 := hinf.mp e
    have h4 : D * (2 * (hi * 2 ^ j)) < D * ((2 ^ 54 - 1) * 2 ^ 2045) := Nat.mul_lt_mul_of_pos_left hb hD
    have h5 : D * (2 * (hi * 2 ^ j)) = 2 * (D * (hi * 2 ^ j)) := by (generalize (2:Nat)^1074 = K1; generalize (2:Nat)^1073 = K2; generalize (2:Nat)^1054 = K3; generalize (2:Nat)^20 = K4; ac_rfl)
    omega
  obtain ⟨m, e, hd, -⟩ := decode_pack neg hlt
  refine ⟨m, e, hd, V t, val_pack neg hlt, ?_, ?_⟩
  · have hlo : lo < 2 ^ 53 := by
      refine Nat.lt_of_not_le fun hc => ?_
      have : hi * 2 ^ j < lo * 2 ^ j := Nat.mul_lt_mul_of_pos_right (by omega) (Nat.two_pow_pos _)
      have := Nat.mul_lt_mul_of_pos_left this hD
      omega
    obtain ⟨t0, h0, e0⟩ := rep hlo hj hj2
    have hm := (hmin hlt t0).1
    rw [e0] at hm
    refine Nat.le_of_not_lt fun hc => ?_
    have h3 := Nat.mul_lt_mul_of_pos_left hc hD
    unfold dist at hm
    omega
  · obtain ⟨t0, h0, e0⟩ := rep hhi hj hj2
    have hm := (hmin hlt t0).1
    rw [e0] at hm
    refine Nat.le_of_not_lt fun hc => ?_
    have h3 := Nat.mul_lt_mul_of_pos_left hc hD
    unfold dist at hm
    omega

theorem right_exact {r : UInt64} {neg : Bool} {W D : Nat} (h : Right r neg W D) (hD : 0 < D) {k j : Nat} (hk : k < 2 ^ 53) (hj : 52 ≤ j) (hj2 : j ≤ 1100) (hW : W = D * (k * 2 ^ j)) :
    ∃ m e, decode r = .fin neg m e ∧ val r = sgn neg (k * 2 ^ j) := by
  obtain ⟨m, e, hd, v, hv, h1, h2⟩ := right_bounds h hD (lo := k) hk hj hj2 (Nat.le_of_eq hW.symm) (Nat.le_of_eq hW)
  exact ⟨m, e, hd, by rw [hv, Nat.le_antisymm h2 h1]⟩

theorem two_pos (n : Nat) : (0 : Int) < 2 ^ n := by
  have : ((2 ^ n : Nat) : Int) = (2 : Int) ^ n := by simp
  rw [← this]; exact Int.ofNat_lt.mpr (Nat.two_pow_pos _)
theorem cast_pow (n : Nat) : ((2 ^ n : Nat) : Int) = (2 : Int) ^ n := by simp

theorem sgn_lt (n : Int) (j : Nat) : sgn (decide (n < 0)) (n.natAbs * 2 ^ j) = n * 2 ^ j := by
  rw [sgn_mul, cast_pow]
  congr 1
  unfold sgn
  by_cases h : n < 0
  · simp only [h, decide_true, if_true]; omega
  · simp only [h, decide_false, if_false]; simp only [Bool.false_eq_true, if_false]; omega

theorem neg_of_val {x : UInt64} {a : Bool} {m : Nat} {e : Int} (hd : decode x = .fin a m e) {n : Int} {j : Nat} (hv : val x = n * 2 ^ j) : (n < 0 → a = true) ∧ (0 < n → a = false) := by
  rw [val_eq hd] at hv
  constructor
  · intro h
    cases a with
    | true => rfl
    | false =>
      exfalso
      unfold sgn at hv
      simp only [Bool.false_eq_true, if_false] at hv
      have h2 : n * 2 ^ j < 0 := Int.mul_neg_of_neg_of_pos h (two_pos j)
      omega
  · intro h
    cases a with
    | false => rfl
    | true =>
      exfalso
      unfold sgn at hv
      simp only [if_true] at hv
      have h2 : 0 < n * 2 ^ j := Int.mul_pos h (two_pos j)
      omega

theorem sgn_of {neg : Bool} {n : Int} {k j : Nat} (hk : k = n.natAbs) (h1 : n < 0 → neg = true) (h2 : 0 < n → neg = false) : sgn neg (k * 2 ^ j) = n * 2 ^ j := by
  rw [sgn_mul, cast_pow]
  congr 1
  unfold sgn
  subst hk
  rcases Int.lt_trichotomy n 0 with h | h | h
  · rw [h1 h]; simp only [if_true]; omega
  · subst h; cases neg <;> rfl
  · rw [h2 h]; simp only [Bool.false_eq_true, if_false]; omega

theorem natAbs_mul_pow (n : Int) (j : Nat) : (n * 2 ^ j).natAbs = n.natAbs * 2 ^ j := by
  rw [Int.natAbs_mul]; congr 1

theorem val_zero (s : Bool) : ∃ m e, decode (zero s) = .fin s m e ∧ val (zero s) = 0 := by
  unfold zero
  obtain ⟨m, e, hd, -⟩ := decode_pack s (t := 0) (by decide)
  exact ⟨m, e, hd, by rw [val_pack s (t := 0) (by decide), V_zero]; cases s <;> rfl⟩

theorem half_ofInt {i : Int} (h : i.natAbs < 2 ^ 52) : Half (ofInt i) (2 * i) := by
  obtain ⟨m, e, hd, hv⟩ := right_exact (ofInt_right i) (by decide) (k := 2 * i.natAbs) (j := 1073) (by omega) (by decide) (by decide)
    (by rw [Nat.one_mul, show (2 : Nat) ^ 1074 = 2 * 2 ^ 1073 from by rw [show 1074 = 1073 + 1 from rfl, Nat.pow_succ, Nat.mul_comm]]; (generalize (2:Nat)^1074 = K1; generalize (2:Nat)^1073 = K2; generalize (2:Nat)^1054 = K3; generalize (2:Nat)^20 = K4; ac_rfl))
  refine ⟨_, m, e, hd, ?_⟩
  rw [hv]
  exact sgn_of (by omega) (fun h => by simpa using (by omega : i < 0)) (fun h => by simpa using (by omega : 0 ≤ i))

theorem half_of_right {r : UInt64} {neg : Bool} {W D : Nat} (h : Right r neg W D) (hD : 0 < D) {n : Int} (hn : n.natAbs < 2 ^ 53) (hW : W = D * (n.natAbs * 2 ^ 1073))
    (h1 : n < 0 → neg = true) (h2 : 0 < n → neg = false) : Half r n := by
  obtain ⟨m, e, hd, hv⟩ := right_exact h hD (k := n.natAbs) (j := 1073) hn (by decide) (by decide) hW
  exact ⟨neg, m, e, hd, by rw [hv]; exact sgn_of rfl h1 h2⟩

theorem half_add {x y : UInt64} {n k : Int} (hx : Half x n) (hy : Half y k) (hb : (n + k).natAbs < 2 ^ 53) : Half (add x y) (n + k) := by
  obtain ⟨a, m, e, hd, hv⟩ := hx
  obtain ⟨b, m', e', hd', hv'⟩ := hy
  have h := add_right hd hd'
  have hs : val x + val y = (n + k) * 2 ^ 1073 := by rw [hv, hv', Int.add_mul]
  rw [hs] at h
  by_cases h0 : n + k = 0
  · rw [h.1 (by rw [h0, Int.zero_mul]), h0]
    obtain ⟨m, e, hd, hv⟩ := val_zero (a && b)
    exact ⟨_, m, e, hd, by rw [hv, Int.zero_mul]⟩
  · have hne : (n + k) * 2 ^ 1073 ≠ 0 := Int.mul_ne_zero h0 (Int.ne_of_gt (two_pos _))
    refine half_of_right (h.2 hne) (by decide) hb (by rw [natAbs_mul_pow, Nat.one_mul]) (fun hl => ?_) fun hg => ?_
    · exact decide_eq_true (Int.mul_neg_of_neg_of_pos hl (two_pos _))
    · exact decide_eq_false (Int.not_lt.mpr (Int.le_of_lt (Int.mul_pos hg (two_pos _))))

theorem half_neg {y : UInt64} {k : Int} (hy : Half y k) : Half (neg y) (-k) := by
  obtain ⟨b, m', e', hd', hv'⟩ := hy
  exact ⟨_, _, _, neg_decode hd', by rw [neg_val hd', hv', Int.neg_mul]⟩
theorem half_sub {x y : UInt64} {n k : Int} (hx : Half x n) (hy : Half y k) (hb : (n - k).natAbs < 2 ^ 53) : Half (sub x y) (n - k) :=
by
  unfold sub
  rw [Int.sub_eq_add_neg]
  exact half_add hx (half_neg hy) (by omega)

theorem half_mul {x y : UInt64} {n k : Int} (hx : Half x n) (hy : Half y (2 * k)) (hb : (n * k).natAbs < 2 ^ 53) : Half (mul x y) (n * k) := by
  obtain ⟨a, m, e, hd, hv⟩ := hx
  obtain ⟨b, m', e', hd', hv'⟩ := hy
  have h := mul_right hd hd'
  have s1 := neg_of_val hd hv
  have s2 := neg_of_val hd' hv'
  refine half_of_right h (Nat.two_pow_pos _) hb ?_ (fun hl => ?_) fun hg => ?_
  · rw [hv, hv', natAbs_mul_pow, natAbs_mul_pow, Int.natAbs_mul, Int.natAbs_mul, show (2 : Nat) ^ 1074 = 2 * 2 ^ 1073 from by rw [show 1074 = 1073 + 1 from rfl, Nat.pow_succ, Nat.mul_comm]]
    show _ = _
    rw [show (2 : Int).natAbs = 2 from rfl]
    (generalize (2:Nat)^1074 = K1; generalize (2:Nat)^1073 = K2; generalize (2:Nat)^1054 = K3; generalize (2:Nat)^20 = K4; ac_rfl)
  · rcases Int.lt_trichotomy n 0 with q | q | q
    · have : 0 < k := by
        refine Int.lt_of_not_ge fun hc => ?_
        have := Int.mul_nonneg_of_nonpos_of_nonpos (Int.le_of_lt q) hc
        omega
      rw [s1.1 q, s2.2 (by omega)]; rfl
    · subst q; simp at hl
    · have : k < 0 := by
        refine Int.lt_of_not_ge fun hc => ?_
        have := Int.mul_nonneg (Int.le_of_lt q) hc
        omega
      rw [s1.2 q, s2.1 (by omega)]; rfl
  · rcases Int.lt_trichotomy n 0 with q | q | q
    · have : k < 0 := by
        refine Int.lt_of_not_ge fun hc => ?_
        have := Int.mul_nonpos_of_nonpos_of_nonneg (Int.le_of_lt q) hc
        omega
      rw [s1.1 q, s2.1 (by omega)]; rfl
    · subst q; simp at hg
    · have : 0 < k := by
        refine Int.lt_of_not_ge fun hc => ?_
        have := Int.mul_nonpos_of_nonneg_of_nonpos (Int.le_of_lt q) hc
        omega
      rw [s1.2 q, s2.2 (by omega)]; rfl

theorem floor_val {x : UInt64} {a : Bool} {m : Nat} {e : Int} (hd : decode x = .fin a m e) : floorOf a m e = val x / 2 ^ 1074 := by
  have hge := decode_ge hd
  rw [val_eq hd, sgn_mul, cast_pow]
  unfold floorOf
  split
  · rename_i h
    have e1 : (e + 1074).toNat = e.toNat + 1074 := by omega
    rw [e1, Int.pow_add, ← Int.mul_assoc, Int.mul_ediv_cancel _ (Int.ne_of_gt (two_pos _))]
  · rename_i h
    rw [Int.fdiv_eq_ediv_of_nonneg _ (Int.le_of_lt (two_pos _))]
    have e1 : (2 : Int) ^ 1074 = 2 ^ (-e).toNat * 2 ^ (e + 1074).toNat := by rw [← Int.pow_add]; congr 1; omega
    rw [e1, Int.mul_ediv_mul_of_pos_left _ _ (two_pos _)]

theorem flo_half {x : UInt64} {n : Int} (h : Half x n) : Flo x (n / 2) := by
  obtain ⟨a, m, e, hd, hv⟩ := h
  refine ⟨a, m, e, hd, ?_⟩
  rw [floor_val hd, hv, show (2 : Int) ^ 1074 = 2 * 2 ^ 1073 from by rw [show 1074 = 1073 + 1 from rfl, Int.pow_succ, Int.mul_comm], Int.mul_ediv_mul_of_pos_left _ _ (two_pos _)]

theorem trunc_half {x : UInt64} {n : Int} (h : Half x (2 * n)) : ∃ a m e, decode x = .fin a m e ∧ truncOf a m e = n := by
  obtain ⟨a, m, e, hd, hv⟩ := h
  refine ⟨a, m, e, hd, ?_⟩
  have e2 : (2 : Int) ^ 1074 = 2 * 2 ^ 1073 := by rw [show 1074 = 1073 + 1 from rfl, Int.pow_succ, Int.mul_comm]
  have hf := floor_val hd
  rw [hv, Int.mul_comm 2 n, Int.mul_assoc, ← e2, Int.mul_ediv_cancel _ (Int.ne_of_gt (two_pos _))] at hf
  have hn := floor_val (neg_decode hd)
  rw [neg_val hd, hv, Int.mul_comm 2 n, Int.mul_assoc, ← e2, ← Int.neg_mul, Int.mul_ediv_cancel _ (Int.ne_of_gt (two_pos _))] at hn
  unfold truncOf ceilOf
  cases a with
  | true => rw [if_pos rfl, hn]; omega
  | false => simpa using hf

theorem flo_quot {r : UInt64} {neg : Bool} {W Dn q : Nat} {D : Int} (h : Right r neg W Dn) (hD : 0 < Dn) (hq : 0 < q) (hq2 : q ≤ 2 ^ 20) (hN : D.natAbs < 2 ^ 32) (hW : W * q = D.natAbs * 2 ^ 1074 * Dn)
    (h1 : D < 0 → neg = true) (h2 : 0 < D → neg = false) : Flo r (D / (q : Int)) := by
  have e0 : (2 : Nat) ^ 1074 = 2 ^ 20 * 2 ^ 1054 := by rw [← Nat.pow_add]
  by_cases hs : D < 0
  · -- a negative quotient: the ceiling of the magnitude
    have hn := h1 hs
    subst hn
    obtain ⟨c, hc⟩ : ∃ c : Nat, c = (D.natAbs + q - 1) / q := ⟨_, rfl⟩
    have hN1 : 0 < D.natAbs := by omega
    generalize hNN : D.natAbs = N at *
    have c1 : N ≤ c * q := by
      have := Nat.div_add_mod (N + q - 1) q
      have := Nat.mod_lt (N + q - 1) hq
      rw [← hc] at *
      rw [Nat.mul_comm]; omega
    have c2 : (c - 1) * q + 1 ≤ N := by
      have := Nat.div_add_mod (N + q - 1) q
      have hpos : 0 < c := by
        rw [hc]; exact Nat.div_pos (by omega) hq
      rw [← hc] at this
      have : (c - 1) * q = c * q - q := by rw [Nat.sub_mul, Nat.one_mul]
      have : q ≤ c * q := Nat.le_mul_of_pos_left q hpos
      have : q * c = c * q := Nat.mul_comm _ _
      omega
    have c3 : c ≤ N := by
      rw [hc]
      refine (Nat.div_le_iff_le_mul hq).mpr ?_
      have : N ≤ N * q := Nat.le_mul_of_pos_right N hq
      omega
    have hpos : 0 < c := by
      refine Nat.pos_of_ne_zero fun h => ?_
      subst h; simp at c1; omega
    obtain ⟨m, e, hd, v, hv, hlo, hhi⟩ := right_bounds h hD (lo := (c - 1) * 2 ^ 20 + 1) (hi := c * 2 ^ 20) (j := 1054) (by omega) (by decide) (by decide)
      (by
        refine Nat.le_of_mul_le_mul_right ?_ hq
        rw [hW, e0]
        have : ((c - 1) * 2 ^ 20 + 1) * q ≤ N * 2 ^ 20 := by
          have : ((c - 1) * 2 ^ 20 + 1) * q = ((c - 1) * q) * 2 ^ 20 + q := by rw [Nat.add_mul, Nat.one_mul]; (generalize (2:Nat)^1074 = K1; generalize (2:Nat)^1073 = K2; generalize (2:Nat)^1054 = K3; generalize (2:Nat)^20 = K4; ac_rfl)
          omega
        calc Dn * (((c - 1) * 2 ^ 20 + 1) * 2 ^ 1054) * q = (((c - 1) * 2 ^ 20 + 1) * q) * (2 ^ 1054 * Dn) := by (generalize (2:Nat)^1074 = K1; generalize (2:Nat)^1073 = K2; generalize (2:Nat)^1054 = K3; generalize (2:Nat)^20 = K4; ac_rfl)
          _ ≤ (N * 2 ^ 20) * (2 ^ 1054 * Dn) := Nat.mul_le_mul_right _ this
          _ = N * (2 ^ 20 * 2 ^ 1054) * Dn := by (generalize (2:Nat)^1074 = K1; generalize (2:Nat)^1073 = K2; generalize (2:Nat)^1054 = K3; generalize (2:Nat)^20 = K4; ac_rfl))
      (by
        refine Nat.le_of_mul_le_mul_right ?_ hq
        rw [hW, e0]
        calc N * (2 ^ 20 * 2 ^ 1054) * Dn = N * ((2 ^ 20 * 2 ^ 1054) * Dn) := by (generalize (2:Nat)^1074 = K1; generalize (2:Nat)^1073 = K2; generalize (2:Nat)^1054 = K3; generalize (2:Nat)^20 = K4; ac_rfl)
          _ ≤ (c * q) * ((2 ^ 20 * 2 ^ 1054) * Dn) := Nat.mul_le_mul_right _ c1
          _ = Dn * (c * 2 ^ 20 * 2 ^ 1054) * q := by (generalize (2:Nat)^1074 = K1; generalize (2:Nat)^1073 = K2; generalize (2:Nat)^1054 = K3; generalize (2:Nat)^20 = K4; ac_rfl))
    refine ⟨true, m, e, hd, ?_⟩
    rw [floor_val hd, hv]
    have hsg : sgn true v = -(v : Int) := rfl
    rw [hsg]
    have hv1 : (v : Int) ≤ c * 2 ^ 1074 := by
      have : v ≤ c * 2 ^ 1074 := by rw [e0, ← Nat.mul_assoc]; exact hhi
      have := Int.ofNat_le.mpr this
      rwa [Int.natCast_mul, cast_pow] at this
    have hv2 : ((c : Int) - 1) * 2 ^ 1074 < v := by
      have h3 : (c - 1) * 2 ^ 1074 < v := by
        refine Nat.lt_of_lt_of_le ?_ hlo
        rw [e0, ← Nat.mul_assoc]
        exact Nat.mul_lt_mul_of_pos_right (Nat.lt_succ_self _) (Nat.two_pow_pos _)
      have := Int.ofNat_lt.mpr h3
      rw [Int.natCast_mul, cast_pow] at this
      rwa [show ((c - 1 : Nat) : Int) = (c : Int) - 1 from by omega] at this
    have r1 : -(v : Int) / 2 ^ 1074 = -(c : Int) := by
      have hp := two_pos 1074
      generalize (2 : Int) ^ 1074 = P at *
      apply Int.le_antisymm
      · have : -(v : Int) / P < -(c : Int) + 1 := by
          apply Int.ediv_lt_of_lt_mul hp
          have e3 : (-(c : Int) + 1) * P = -(((c : Int) - 1) * P) := by rw [← Int.neg_mul]; congr 1; omega
          rw [e3]; omega
        omega
      · apply Int.le_ediv_of_mul_le hp
        rw [Int.neg_mul]; omega
    rw [r1]
    have hDN : D = -(N : Int) := by omega
    have hqp : (0 : Int) < (q : Int) := by omega
    rw [hDN]
    apply Int.le_antisymm
    · apply Int.le_ediv_of_mul_le hqp
      rw [Int.neg_mul]
      have := Int.ofNat_le.mpr c1
      rw [Int.natCast_mul] at this
      omega
    · have : -(N : Int) / (q : Int) < -(c : Int) + 1 := by
        apply Int.ediv_lt_of_lt_mul hqp
        have h3 := Int.ofNat_le.mpr c2
        rw [Int.natCast_add, Int.natCast_mul, show ((c - 1 : Nat) : Int) = (c : Int) - 1 from by omega] at h3
        have e3 : (-(c : Int) + 1) * q = -(((c : Int) - 1) * q) := by rw [← Int.neg_mul]; congr 1; omega
        rw [e3]; omega
      omega
  · generalize hNN : D.natAbs = N at *
    have hDN : D = (N : Int) := by omega
    obtain ⟨f, hf⟩ : ∃ f : Nat, f = N / q := ⟨_, rfl⟩
    have f1 : f * q ≤ N := by rw [hf]; exact Nat.div_mul_le_self N q
    have f2 : N + 1 ≤ (f + 1) * q := by
      have := Nat.div_add_mod N q
      have := Nat.mod_lt N hq
      rw [← hf] at *
      rw [Nat.add_mul, Nat.one_mul, Nat.mul_comm f q]; omega
    have f3 : f ≤ N := by rw [hf]; exact Nat.div_le_self N q
    obtain ⟨m, e, hd, v, hv, hlo, hhi⟩ := right_bounds h hD (lo := f * 2 ^ 20) (hi := (f + 1) * 2 ^ 20 - 1) (j := 1054) (by omega) (by decide) (by decide)
      (by
        refine Nat.le_of_mul_le_mul_right ?_ hq
        rw [hW, e0]
        calc Dn * (f * 2 ^ 20 * 2 ^ 1054) * q = (f * q) * ((2 ^ 20 * 2 ^ 1054) * Dn) := by (generalize (2:Nat)^1074 = K1; generalize (2:Nat)^1073 = K2; generalize (2:Nat)^1054 = K3; generalize (2:Nat)^20 = K4; ac_rfl)
          _ ≤ N * ((2 ^ 20 * 2 ^ 1054) * Dn) := Nat.mul_le_mul_right _ f1
          _ = N * (2 ^ 20 * 2 ^ 1054) * Dn := by (generalize (2:Nat)^1074 = K1; generalize (2:Nat)^1073 = K2; generalize (2:Nat)^1054 = K3; generalize (2:Nat)^20 = K4; ac_rfl))
      (by
        refine Nat.le_of_mul_le_mul_right ?_ hq
        rw [hW, e0]
        have : N * 2 ^ 20 ≤ ((f + 1) * 2 ^ 20 - 1) * q := by
          have : ((f + 1) * 2 ^ 20 - 1) * q = ((f + 1) * q) * 2 ^ 20 - q := by rw [Nat.sub_mul, Nat.one_mul]; congr 1; (generalize (2:Nat)^1074 = K1; generalize (2:Nat)^1073 = K2; generalize (2:Nat)^1054 = K3; generalize (2:Nat)^20 = K4; ac_rfl)
          omega
        calc N * (2 ^ 20 * 2 ^ 1054) * Dn = (N * 2 ^ 20) * (2 ^ 1054 * Dn) := by (generalize (2:Nat)^1074 = K1; generalize (2:Nat)^1073 = K2; generalize (2:Nat)^1054 = K3; generalize (2:Nat)^20 = K4; ac_rfl)
          _ ≤ (((f + 1) * 2 ^ 20 - 1) * q) * (2 ^ 1054 * Dn) := Nat.mul_le_mul_right _ this
          _ = Dn * (((f + 1) * 2 ^ 20 - 1) * 2 ^ 1054) * q := by (generalize (2:Nat)^1074 = K1; generalize (2:Nat)^1073 = K2; generalize (2:Nat)^1054 = K3; generalize (2:Nat)^20 = K4; ac_rfl))
    refine ⟨neg, m, e, hd, ?_⟩
    rw [floor_val hd, hv]
    by_cases hz : D = 0
    · -- nought
      have hN0 : N = 0 := by omega
      have hf0 : f = 0 := by omega
      have hW0 : W = 0 := by
        simp only [hN0, Nat.zero_mul] at hW
        rcases Nat.mul_eq_zero.mp hW with h | h
        · exact h
        · omega
      obtain ⟨m', e', hd', hv'⟩ := right_exact h hD (k := 0) (j := 1054) (by decide) (by decide) (by decide) (by rw [hW0]; simp)
      rw [hv'] at hv
      rw [← hv, hz]
      cases neg <;> simp [sgn]
    · have hneg := h2 (by omega)
      subst hneg
      have hsg : sgn false v = (v : Int) := rfl
      rw [hsg, hDN, cast_pow 1074 |>.symm, ← Int.natCast_ediv, ← Int.natCast_ediv]
      congr 1
      rw [← hf]
      apply Nat.div_eq_of_lt_le
      · rw [e0, ← Nat.mul_assoc]; exact hlo
      · refine Nat.lt_of_le_of_lt hhi ?_
        rw [e0, ← Nat.mul_assoc]
        exact Nat.mul_lt_mul_of_pos_right (by omega) (Nat.two_pow_pos _)

theorem flo_div_ii {D : Int} {q : Int} (hq : 0 < q) (hq2 : q ≤ 2 ^ 20) (hN : D.natAbs < 2 ^ 32) : Flo (ofFrac (decide (D < 0) != decide (q < 0)) D.natAbs q.natAbs) (D / q) := by
  have hqn : ((q.natAbs : Nat) : Int) = q := by omega
  have e : decide (q < 0) = false := decide_eq_false (by omega)
  rw [e]
  have h := flo_quot (D := D) (q := q.natAbs) (ofFrac_right (neg := decide (D < 0) != false) (n := D.natAbs) (d := q.natAbs) (W := D.natAbs * 2 ^ 1074) (D := q.natAbs) (by omega) rfl (by omega)) (by omega) (by omega) (by omega) hN (by rfl)
    (fun h => by simp [h]) (fun h => by simp; omega)
  rwa [hqn] at h

theorem flo_div_fi {x : UInt64} {D q : Int} (hx : Half x (2 * D)) (hq : 0 < q) (hq2 : q ≤ 2 ^ 20) (hN : D.natAbs < 2 ^ 32) : Flo (div x (ofInt q)) (D / q) := by
  have hqn : ((q.natAbs : Nat) : Int) = q := by omega
  obtain ⟨b, m', e', hd', hv'⟩ := half_ofInt (i := q) (by omega)
  obtain ⟨a, m, e, hd, hv⟩ := hx
  have hk : m' ≠ 0 := by
    intro h0
    subst h0
    rw [val_eq hd'] at hv'
    have h1 : sgn b (0 * 2 ^ (e' + 1074).toNat) = 0 := by unfold sgn; cases b <;> simp
    rw [h1] at hv'
    have : (0 : Int) < 2 * q * 2 ^ 1073 := Int.mul_pos (by omega) (two_pos _)
    omega
  have s1 := neg_of_val hd hv
  have s2 := neg_of_val hd' hv'
  have hb : b = false := s2.2 (by omega)
  subst hb
  have hr := div_right hd hd' hk
  have e1 : (val x).natAbs = D.natAbs * 2 ^ 1074 := by
    rw [hv, natAbs_mul_pow, Int.natAbs_mul, show (2 : Nat) ^ 1074 = 2 * 2 ^ 1073 from by rw [show 1074 = 1073 + 1 from rfl, Nat.pow_succ, Nat.mul_comm]]
    show 2 * D.natAbs * _ = _
    (generalize (2:Nat)^1074 = K1; generalize (2:Nat)^1073 = K2; generalize (2:Nat)^1054 = K3; generalize (2:Nat)^20 = K4; ac_rfl)
  have e2 : (val (ofInt q)).natAbs = q.natAbs * 2 ^ 1074 := by
    rw [hv', natAbs_mul_pow, Int.natAbs_mul, show (2 : Nat) ^ 1074 = 2 * 2 ^ 1073 from by rw [show 1074 = 1073 + 1 from rfl, Nat.pow_succ, Nat.mul_comm]]
    show 2 * q.natAbs * _ = _
    (generalize (2:Nat)^1074 = K1; generalize (2:Nat)^1073 = K2; generalize (2:Nat)^1054 = K3; generalize (2:Nat)^20 = K4; ac_rfl)
  have h := flo_quot (D := D) (q := q.natAbs) hr (by rw [e2]; exact Nat.mul_pos (by omega) (Nat.two_pow_pos _)) (by omega) (by omega) hN (by rw [e1, e2]; (generalize (2:Nat)^1074 = K1; generalize (2:Nat)^1073 = K2; generalize (2:Nat)^1054 = K3; generalize (2:Nat)^20 = K4; ac_rfl))
    (fun h => by rw [s1.1 (by omega)]; rfl) (fun h => by rw [s1.2 (by omega)]; rfl)
  rwa [hqn] at h

theorem half_cmp {x y : UInt64} {n k : Int} (hx : Half x n) (hy : Half y k) : cmp x y = some (compare n k) := by
  obtain ⟨a, m, e, hd, hv⟩ := hx
  obtain ⟨b, m', e', hd', hv'⟩ := hy
  rw [cmp_right hd hd', hv, hv']
  have hp := two_pos 1073
  generalize (2 : Int) ^ 1073 = P at *
  rcases Int.lt_trichotomy n k with h | h | h
  · rw [Int.compare_eq_lt.mpr h, Int.compare_eq_lt.mpr (Int.mul_lt_mul_of_pos_right h hp)]
  · subst h; simp
  · rw [Int.compare_eq_gt.mpr h, Int.compare_eq_gt.mpr (Int.mul_lt_mul_of_pos_right h hp)]
theorem half_cmpInt {x : UInt64} {n k : Int} (hx : Half x n) : cmpInt x k = some (compare n (2 * k)) := by
  obtain ⟨a, m, e, hd, hv⟩ := hx
  have hp := two_pos 1073
  have e2 : (2 : Int) ^ 1074 = 2 * 2 ^ 1073 := by rw [show 1074 = 1073 + 1 from rfl, Int.pow_succ, Int.mul_comm]
  rw [cmpInt_right hd, hv, e2, ← Int.mul_assoc, Int.mul_comm k 2]
  generalize (2 : Int) ^ 1073 = P at *
  generalize 2 * k = k' at *
  rcases Int.lt_trichotomy n k' with h | h | h
  · rw [Int.compare_eq_lt.mpr h, Int.compare_eq_lt.mpr (Int.mul_lt_mul_of_pos_right h hp)]
  · subst h; simp
  · rw [Int.compare_eq_gt.mpr h, Int.compare_eq_gt.mpr (Int.mul_lt_mul_of_pos_right h hp)]
theorem half_zero (s : Bool) : Half (zero s) 0 := by
  obtain ⟨m, e, hd, hv⟩ := val_zero s
  exact ⟨s, m, e, hd, by rw [hv, Int.zero_mul]⟩
theorem half_isZero {x : UInt64} {n : Int} (hx : Half x n) (h : isZero x = true) : n = 0 := by
  obtain ⟨a, m, e, hd, hv⟩ := hx
  unfold isZero at h
  rw [hd] at h
  have hm : m = 0 := by
    cases m with
    | zero => rfl
    | succ k => simp at h
  subst hm
  rw [val_eq hd] at hv
  have h1 : sgn a (0 * 2 ^ (e + 1074).toNat) = 0 := by unfold sgn; cases a <;> simp
  rw [h1] at hv
  rcases Int.mul_eq_zero.mp hv.symm with h | h
  · exact h
  · have := two_pos 1073; omega

theorem half_fmod {x y : UInt64} {D q : Int} (hx : Half x (2 * D)) (hy : Half y (2 * q)) (h0 : 0 ≤ D) (hq : 0 < q) (hq2 : q < 2 ^ 50) : Half (fmod x y) (2 * (D % q)) := by
  obtain ⟨a, m, e, hd, hv⟩ := hx
  obtain ⟨b, k, f, hd', hv'⟩ := hy
  have s1 := neg_of_val hd hv
  have hk : k ≠ 0 := by
    intro h0
    subst h0
    rw [val_eq hd'] at hv'
    have h1 : sgn b (0 * 2 ^ (f + 1074).toNat) = 0 := by unfold sgn; cases b <;> simp
    rw [h1] at hv'
    have : (0 : Int) < 2 * q * 2 ^ 1073 := Int.mul_pos (by omega) (two_pos _)
    omega
  have he := decode_ge hd
  have hf := decode_ge hd'
  have hm : fmod x y = ofBin a (m * 2 ^ (e - min e f).toNat % (k * 2 ^ (f - min e f).toNat)) (min e f) := by
    unfold fmod
    rw [hd, hd']
    simp only
    rw [if_neg (by simpa using hk)]
    rfl
  rw [hm]
  unfold ofBin
  have e2 : (2 : Nat) ^ 1074 = 2 * 2 ^ 1073 := by rw [show 1074 = 1073 + 1 from rfl, Nat.pow_succ, Nat.mul_comm]
  have hW : m * 2 ^ (e - min e f).toNat % (k * 2 ^ (f - min e f).toNat) * 2 ^ (min e f + 1074).toNat = (2 * (D % q)).natAbs * 2 ^ 1073 := by
    rw [← Nat.mul_mod_mul_right, Nat.mul_assoc, Nat.mul_assoc, ← Nat.pow_add, ← Nat.pow_add]
    have e1 : (e - min e f).toNat + (min e f + 1074).toNat = (e + 1074).toNat := by omega
    have e3 : (f - min e f).toNat + (min e f + 1074).toNat = (f + 1074).toNat := by omega
    rw [e1, e3, ← val_natAbs hd, ← val_natAbs hd', hv, hv', natAbs_mul_pow, natAbs_mul_pow, Nat.mul_mod_mul_right]
    congr 1
    have h1 : (2 * D).natAbs = 2 * D.natAbs := by omega
    have h2 : (2 * q).natAbs = 2 * q.natAbs := by omega
    have h3 : (2 * (D % q)).natAbs = 2 * (D % q).natAbs := by omega
    rw [h1, h2, h3, Nat.mul_mod_mul_left]
    congr 1
    obtain ⟨D', rfl⟩ := Int.eq_ofNat_of_zero_le h0
    obtain ⟨q', rfl⟩ := Int.eq_ofNat_of_zero_le (Int.le_of_lt hq)
    rfl
  have hr := Int.emod_nonneg D (Int.ne_of_gt hq)
  have hr2 := Int.emod_lt_of_pos D hq
  refine half_of_right (D := 1) (ofFrac_right (neg := a) (shift_pos _ _ _ (by decide)) (W := m * 2 ^ (e - min e f).toNat % (k * 2 ^ (f - min e f).toNat) * 2 ^ (min e f + 1074).toNat) ?_ (by decide)) (by decide) (by omega) (by rw [Nat.one_mul]; exact hW) (fun h => by omega) (fun h => s1.2 (by
    refine Int.lt_of_not_ge fun hc => ?_
    have : D = 0 := by omega
    subst this; simp at h))
  rw [Nat.mul_one]
  exact shift_one _ _ _ (by omega)

theorem half_mod {x : UInt64} {D q : Int} (hx : Half x (2 * D)) (h0 : 0 ≤ D) (hq : 0 < q) (hq2 : q < 2 ^ 50) : Half (divmod x (ofInt q)).2 (2 * (D % q)) := by
  have hy := half_ofInt (i := q) (by omega)
  have hm := half_fmod hx hy h0 hq hq2
  have hr := Int.emod_nonneg D (Int.ne_of_gt hq)
  unfold divmod
  simp only
  by_cases hz : isZero (fmod x (ofInt q)) = true
  · rw [if_pos hz]
    rw [half_isZero hm hz]
    have e : copysign (zero false) (ofInt q) = zero (signBit (ofInt q)) := by
      unfold copysign
      rw [if_neg (by decide +kernel)]
      have : (zero false).toNat % 2 ^ 63 = 0 := by decide +kernel
      rw [this]
      rfl
    show Half (copysign (zero false) (ofInt q)) 0
    rw [e]
    exact half_zero _
  · rw [if_neg hz]
    have h1 : lt (ofInt q) (zero false) = false := by
      unfold lt
      rw [half_cmp hy (half_zero false), Int.compare_eq_gt.mpr (by omega)]
      rfl
    have h2 : lt (fmod x (ofInt q)) (zero false) = false := by
      unfold lt
      rw [half_cmp hm (half_zero false)]
      rcases Int.lt_trichotomy (2 * (D % q)) 0 with h | h | h
      · omega
      · rw [h]; rfl
      · rw [Int.compare_eq_gt.mpr h]; rfl
    rw [h1, h2]
    exact hm
theorem half_mul' {x y : UInt64} {n k : Int} (hx : Half x (2 * k)) (hy : Half y n) (hb : (n * k).natAbs < 2 ^ 53) : Half (mul x y) (n * k) := by
  have e : mul x y = mul y x := by
    unfold mul
    obtain ⟨a, m, e, hd, hv⟩ := hx
    obtain ⟨b, m', e', hd', hv'⟩ := hy
    rw [hd, hd']
    simp only
    rw [Nat.mul_comm m m', Int.add_comm e e', bne_comm]
  rw [e]
  exact half_mul hy hx hb
end
section
open PySem PySem.W PyProof.Rows PySem.Spec PySem.Calls
/- the walk's float steps, told by Half and Flo -/
section
open PySem PySem.W PyProof.Rows PySem.Spec PySem.Calls PySem.Float64
variable {prog : Program} {w : World} {A : Around} {E : Value → Shared → Prop} {s : Shared} {x y : UInt64} {n k : Int} {t u : Tok} {Q : Value → Shared → Prop}

theorem half_c05 : Half 4602678819172646912 1 := ⟨false, 4503599627370496, -53, by kernel_rfl, by decide +kernel⟩
theorem half_epoch : Half 4700144277945057280 3442851 := ⟨false, 7393466225000448, -32, by kernel_rfl, by decide +kernel⟩

theorem w_add_ff (hx : Half x n) (hy : Half y k) (h1 : -9007199254740992 < n + k) (h2 : n + k < 9007199254740992) (h : ∀ z, Half z (n + k) → Q (.float z s.toks) { s with toks := s.toks + 1 }) :
    wpAny (model prog w) A (binaryOp .Add (.float x t) (.float y u)) Q E s := add_float (h _ (half_add hx hy (by omega)))
theorem w_sub_ff (hx : Half x n) (hy : Half y k) (h1 : -9007199254740992 < n - k) (h2 : n - k < 9007199254740992) (h : ∀ z, Half z (n - k) → Q (.float z s.toks) { s with toks := s.toks + 1 }) :
    wpAny (model prog w) A (binaryOp .Sub (.float x t) (.float y u)) Q E s := sub_float (h _ (half_sub hx hy (by omega)))

theorem lt1023 {b : Int} (h1 : -4503599627370496 < b) (h2 : b < 4503599627370496) : b.natAbs < 2 ^ 1023 :=
  Nat.lt_of_lt_of_le (show b.natAbs < 2 ^ 52 by omega) (Nat.pow_le_pow_right (by decide) (by decide))
theorem w_add_fi (hx : Half x n) (b1 : -4503599627370496 < k) (b2 : k < 4503599627370496) (h1 : -9007199254740992 < n + 2 * k) (h2 : n + 2 * k < 9007199254740992) (h : ∀ z, Half z (n + 2 * k) → Q (.float z s.toks) { s with toks := s.toks + 1 }) :
    wpAny (model prog w) A (binaryOp .Add (.float x t) (.int k u)) Q E s := add_fi_fits (lt1023 b1 b2) (h _ (half_add hx (half_ofInt (by omega)) (by omega)))
theorem w_add_if (hx : Half x n) (b1 : -4503599627370496 < k) (b2 : k < 4503599627370496) (h1 : -9007199254740992 < n + 2 * k) (h2 : n + 2 * k < 9007199254740992) (h : ∀ z, Half z (n + 2 * k) → Q (.float z s.toks) { s with toks := s.toks + 1 }) :
    wpAny (model prog w) A (binaryOp .Add (.int k u) (.float x t)) Q E s := add_if_fits (lt1023 b1 b2) (h _ (by rw [Int.add_comm]; exact half_add (half_ofInt (by omega)) hx (by omega)))
theorem w_iadd_if (hx : Half x n) (b1 : -4503599627370496 < k) (b2 : k < 4503599627370496) (h1 : -9007199254740992 < n + 2 * k) (h2 : n + 2 * k < 9007199254740992) (h : ∀ z, Half z (n + 2 * k) → Q (.float z s.toks) { s with toks := s.toks + 1 }) :
    wpAny (model prog w) A (inplaceOp .Add (.int k u) (.float x t)) Q E s :=
  PySem.Flt.iadd_if_1 (Float64.ofInt_fits (lt1023 b1 b2)) (by
    have q := h _ (by rw [Int.add_comm]; exact half_add (half_ofInt (i := k) (by omega)) hx (by omega))
    exact q)
theorem w_sub_fi (hx : Half x n) (b1 : -4503599627370496 < k) (b2 : k < 4503599627370496) (h1 : -9007199254740992 < n - 2 * k) (h2 : n - 2 * k < 9007199254740992) (h : ∀ z, Half z (n - 2 * k) → Q (.float z s.toks) { s with toks := s.toks + 1 }) :
    wpAny (model prog w) A (binaryOp .Sub (.float x t) (.int k u)) Q E s := sub_fi_fits (lt1023 b1 b2) (h _ (half_sub hx (half_ofInt (by omega)) (by omega)))
theorem w_mul_if (hx : Half x n) (b1 : -4503599627370496 < k) (b2 : k < 4503599627370496) (h1 : -9007199254740992 < n * k) (h2 : n * k < 9007199254740992) (h : ∀ z, Half z (n * k) → Q (.float z s.toks) { s with toks := s.toks + 1 }) :
    wpAny (model prog w) A (binaryOp .Mult (.int k u) (.float x t)) Q E s := mul_if_fits (lt1023 b1 b2) (h _ (half_mul' (half_ofInt (by omega)) hx (by omega)))
theorem w_mul_fi (hx : Half x n) (b1 : -4503599627370496 < k) (b2 : k < 4503599627370496) (h1 : -9007199254740992 < n * k) (h2 : n * k < 9007199254740992) (h : ∀ z, Half z (n * k) → Q (.float z s.toks) { s with toks := s.toks + 1 }) :
    wpAny (model prog w) A (binaryOp .Mult (.float x t) (.int k u)) Q E s := mul_fi_fits (lt1023 b1 b2) (h _ (half_mul hx (half_ofInt (by omega)) (by omega)))

theorem over_not {b : Int} (h : b.natAbs < 2 ^ 52) : ¬ PySem.Flt.Over b := fun ho => by
  have := PySem.Flt.inf_of_over ho
  obtain ⟨a, m, e, hd, -⟩ := half_ofInt h
  unfold isInf at this
  rw [hd] at this
  cases this
theorem half_to {m : Int} (hx : Half x n) (e : n = m) : Half x m := e ▸ hx
theorem w_div_fi (hx : Half x n) (he : n % 2 = 0) (b0 : 0 < k) (b1 : k ≤ 1048576) (h1 : -4294967296 < n) (h2 : n < 4294967296) (hA : A.handled = none) (h : ∀ D z, n = 2 * D → Flo z (D / k) → Q (.float z s.toks) { s with toks := s.toks + 1 }) :
    wpAny (model prog w) A (binaryOp .Div (.float x t) (.int k u)) Q E s := by
  have e : n = 2 * (n / 2) := by omega
  exact PySem.Flt.truediv_fi hA (fun ho => absurd ho (over_not (by omega))) (fun e => by omega) fun _ _ => h (n / 2) _ e (flo_div_fi (half_to hx e) b0 (by omega) (by omega))
theorem w_div_ii (b0 : 0 < k) (b1 : k ≤ 1048576) (h1 : -4294967296 < n) (h2 : n < 4294967296) (hA : A.handled = none) (h : ∀ z, Flo z (n / k) → Q (.float z s.toks) { s with toks := s.toks + 1 }) :
    wpAny (model prog w) A (binaryOp .Div (.int n t) (.int k u)) Q E s :=
  PySem.Flt.div_ii_fits hA (lt1023 (by omega) (by omega)) (fun e => by omega) fun _ _ => h _ (flo_div_ii b0 (by omega) (by omega))
theorem w_mod_fi (hx : Half x n) (he : n % 2 = 0) (b0 : 0 < k) (b1 : k ≤ 1048576) (h1 : 0 ≤ n) (hA : A.handled = none) (h : ∀ D z, n = 2 * D → Half z (2 * (D % k)) → Q (.float z s.toks) { s with toks := s.toks + 1 }) :
    wpAny (model prog w) A (binaryOp .Mod (.float x t) (.int k u)) Q E s := by
  have e : n = 2 * (n / 2) := by omega
  exact PySem.Flt.mod_fi hA (fun ho => absurd ho (over_not (by omega))) (fun e => by omega) fun _ _ => h (n / 2) _ e (half_mod (half_to hx e) (by omega) b0 (by omega))
theorem w_mod_ii (b0 : 0 < k) (h : Q (.int (n % k) s.toks) { s with toks := s.toks + 1 }) : wpAny (model prog w) A (binaryOp .Mod (.int n t) (.int k u)) Q E s :=
  mod_int' (by omega) (by rw [Int.fmod_eq_emod_of_nonneg _ (by omega)]; exact h)
theorem w_floordiv_ii (b0 : 0 < k) (b1 : k ≤ 1048576) (h1 : -1152921504606846976 < n) (h2 : n < 1152921504606846976) (h : Q (.int (n / k) s.toks) { s with toks := s.toks + 1 }) : wpAny (model prog w) A (binaryOp .FloorDiv (.int n t) (.int k u)) Q E s :=
  floordiv_int (by omega) (by rw [Int.fdiv_eq_ediv_of_nonneg _ (by omega)]; exact h) (Or.inl (PyProof.noPylong_small (by omega)))

theorem fin_cases (hx : ∃ a m e, decode x = .fin a m e) : Float64.isNaN x = false ∧ Float64.isInf x = false := by
  obtain ⟨a, m, e, hd⟩ := hx
  unfold Float64.isNaN Float64.isInf
  rw [hd]
  exact ⟨rfl, rfl⟩
theorem w_floor (hx : Flo x n) (hA : A.handled = none) (h : Q (.int n s.toks) { s with toks := s.toks + 1 }) : wpAny (model prog w) A (call (.builtin "math.floor") [.float x t]) Q E s := by
  obtain ⟨a, m, e, hd, hf⟩ := hx
  have hc := fin_cases ⟨a, m, e, hd⟩
  refine PySem.Flt.call_floor_float hA (fun h => by rw [hc.1] at h; cases h) (fun h => by rw [hc.2] at h; cases h) fun _ => ?_
  rw [PySem.Flt.toInt_fin hd, hf]
  exact h
theorem w_trunc (hx : Half x n) (he : n % 2 = 0) (hA : A.handled = none) (h : ∀ D, n = 2 * D → Q (.int D s.toks) { s with toks := s.toks + 1 }) : wpAny (model prog w) A (call (.builtin "math.trunc") [.float x t]) Q E s := by
  have e : n = 2 * (n / 2) := by omega
  obtain ⟨a, m, e', hd, hf⟩ := trunc_half (half_to hx e)
  have hc := fin_cases ⟨a, m, e', hd⟩
  refine PySem.Flt.call_trunc_float hA (fun h => by rw [hc.1] at h; cases h) (fun h => by rw [hc.2] at h; cases h) fun _ => ?_
  rw [PySem.Flt.toInt_fin hd, hf]
  exact h _ e
theorem w_int (hx : Half x n) (he : n % 2 = 0) (hA : A.handled = none) (h : ∀ D, n = 2 * D → Q (.int D s.toks) { s with toks := s.toks + 1 }) : wpAny (model prog w) A (call (.type "int") [.float x t]) Q E s := by
  have e : n = 2 * (n / 2) := by omega
  obtain ⟨a, m, e', hd, hf⟩ := trunc_half (half_to hx e)
  have hc := fin_cases ⟨a, m, e', hd⟩
  refine PySem.Flt.call_int_float3 hA (fun h => by rw [hc.1] at h; cases h) (fun h => by rw [hc.2] at h; cases h) fun _ => ?_
  rw [PySem.Flt.toInt_fin hd, hf]
  exact h _ e

theorem cmp_eq_dec (a b : Int) : (some (compare a b) == some Ordering.eq) = decide (a = b) := by
  rcases Int.lt_trichotomy a b with h | h | h
  · rw [Int.compare_eq_lt.mpr h]; exact (decide_eq_false (by omega)).symm
  · subst h; rw [Int.compare_eq_eq.mpr rfl]; exact (decide_eq_true rfl).symm
  · rw [Int.compare_eq_gt.mpr h]; exact (decide_eq_false (by omega)).symm
theorem cmp_lt_dec (a b : Int) : (some (compare a b) == some Ordering.lt) = decide (a < b) := by
  rcases Int.lt_trichotomy a b with h | h | h
  · rw [Int.compare_eq_lt.mpr h]; exact (decide_eq_true h).symm
  · subst h; rw [Int.compare_eq_eq.mpr rfl]; exact (decide_eq_false (by omega)).symm
  · rw [Int.compare_eq_gt.mpr h]; exact (decide_eq_false (by omega)).symm
theorem w_lt_fi (hx : Half x n) (h : Q (.bool (decide (n < 2 * k))) s) : wpAny (model prog w) A (compareOp .Lt (.float x t) (.int k u)) Q E s :=
  lt_fi (by rw [half_cmpInt hx, cmp_lt_dec]; exact h)
theorem w_eq_fi (hx : Half x n) (h : Q (.bool (decide (n = 2 * k))) s) : wpAny (model prog w) A (compareOp .Eq (.float x t) (.int k u)) Q E s :=
  eq_fi (by rw [half_cmpInt hx, cmp_eq_dec]; exact h)
theorem w_ne_ff (hx : Half x n) (hy : Half y k) (h : Q (.bool (!decide (n = k))) s) : wpAny (model prog w) A (compareOp .NotEq (.float x t) (.float y u)) Q E s :=
  AutoFloatOps.ne_0 (by
    have e : (Float64.cmp x y != some Ordering.eq) = !decide (n = k) := by rw [bne, half_cmp hx hy, cmp_eq_dec]
    rw [e]; exact h)
end
end
section
open PySem PySem.W PyProof.Rows PySem.Spec PySem.Calls
/- the calendar, in plain words -/
def leapB (y : Int) : Bool := decide (y % 4 = 0) && (!decide (y % 100 = 0) || decide (y % 400 = 0))
/-- the day's number of 1 January -/
def jan (y : Int) : Int := 1721426 + 365 * (y - 1) + (y - 1) / 4 - (y - 1) / 100 + (y - 1) / 400
/-- the days of a year ahead of a month -/
def cum (l : Bool) (m : Int) : Int :=
  if m = 1 then 0 else if m = 2 then 31 else (if l then 1 else 0) +
  if m = 3 then 59 else if m = 4 then 90 else if m = 5 then 120 else if m = 6 then 151 else if m = 7 then 181 else if m = 8 then 212 else if m = 9 then 243 else if m = 10 then 273 else if m = 11 then 304 else if m = 12 then 334 else 365
section
open PySem PySem.W PyProof.Rows PySem.Spec PySem.Calls PySem.Float64
variable {prog : Program} {w : World} {A : Around} {E : Value → Shared → Prop} {s : Shared} {x y : UInt64} {n k : Int} {t u : Tok} {Q : Value → Shared → Prop}
def q12 (n : Int) : UInt64 := ofFrac (decide (n < 0) != decide ((12 : Int) < 0)) n.natAbs (12 : Int).natAbs
def q12a (n a : Int) : UInt64 := add (q12 n) (ofInt a)
def q12b (n a b : Int) : UInt64 := add (q12a n a) (ofInt b)
theorem w_div_12 (h1 : -4294967296 < n) (h2 : n < 4294967296) (hA : A.handled = none) (h : Q (.float (q12 n) s.toks) { s with toks := s.toks + 1 }) :
    wpAny (model prog w) A (binaryOp .Div (.int n t) (.int 12 u)) Q E s :=
  PySem.Flt.div_ii_fits hA (lt1023 (by omega) (by omega)) (fun e => by omega) fun _ _ => h
theorem w_add_12a (b1 : -4503599627370496 < k) (b2 : k < 4503599627370496) (h : Q (.float (q12a n k) s.toks) { s with toks := s.toks + 1 }) :
    wpAny (model prog w) A (binaryOp .Add (.float (q12 n) t) (.int k u)) Q E s := add_fi_fits (lt1023 b1 b2) h
theorem w_add_12b {a : Int} (b1 : -4503599627370496 < k) (b2 : k < 4503599627370496) (h : Q (.float (q12b n a k) s.toks) { s with toks := s.toks + 1 }) :
    wpAny (model prog w) A (binaryOp .Add (.float (q12a n a) t) (.int k u)) Q E s := add_fi_fits (lt1023 b1 b2) h
def floB (x : UInt64) (f : Int) : Bool := match decode x with
  | .fin a m e => floorOf a m e == f
  | _ => false
theorem flo_of_floB {x : UInt64} {f : Int} (h : floB x f = true) : Flo x f := by
  unfold floB at h
  split at h
  · rename_i a m e hd
    exact ⟨a, m, e, hd, by simpa using h⟩
  · cases h
theorem q12_all : ∀ i : Fin 12, ∀ j : Fin 3, floB (q12b (367 * ((i.val : Int) + 1) - 362) (-(j.val : Int)) 1) ((367 * ((i.val : Int) + 1) - 362) / 12 + -(j.val : Int) + 1) = true ∧ floB (q12b (367 * ((i.val : Int) + 1) - 362) (-(j.val : Int)) 28) ((367 * ((i.val : Int) + 1) - 362) / 12 + -(j.val : Int) + 28) = true := by decide +kernel
theorem q12_floor {m a b : Int} (m1 : 1 ≤ m) (m2 : m ≤ 12) (a1 : -2 ≤ a) (a2 : a ≤ 0) (hb : b = 1 ∨ b = 28) : Flo (q12b (367 * m - 362) a b) ((367 * m - 362) / 12 + a + b) := by
  have h := q12_all ⟨(m - 1).toNat, by omega⟩ ⟨(-a).toNat, by omega⟩
  have e1 : (((m - 1).toNat : Nat) : Int) + 1 = m := by omega
  have e2 : -(((-a).toNat : Nat) : Int) = a := by omega
  simp only [e1, e2] at h
  rcases hb with rfl | rfl
  · exact flo_of_floB h.1
  · exact flo_of_floB h.2
end
end
section
open PySem PySem.W PyProof.Rows PySem.Spec PySem.Calls
/- the contracts' shape -/
section
open PySem PySem.W PyProof.Rows PySem.Spec PySem.Calls

abbrev Back (h₀ : Heap) (L : Addr) (m : Str → Option Value) (news : List (Addr × Obj)) (s : Shared) (Q : Value → Shared → Prop) (P : Value → Prop) : Prop :=
  ∀ (v : Value) (h' : Heap) (tk' : Nat), P v → Fr h₀ L h' m → News h₀ L h' news → Q v { s with heap := h', toks := tk' }

abbrev Ctr (d : Nat) (f : Addr) (vs : List Value) (P : Value → Prop) : Prop :=
  ∀ (w : World) (mean : ExcName → Option Value) (mg mb : Str → Option Value) (dp un : Nat) (gd : Option (List Code)) (cn : Str) (cs : Scope) (a : Addr) (ccd : Value) (cl : List (Str × Addr)) (outer : List Env) (A₀ : Around) (base h₀ : Heap) (L : Addr) (m : Str → Option Value) (news : List (Addr × Obj)) (s : Shared) (Q : Value → Shared → Prop) (E : Value → Shared → Prop),
    Below A₀ base outer h₀ → Fr h₀ L s.heap m → (hd.heap_39 w.params).In h₀ → News h₀ L s.heap news → Top hd.view_39 (looseW hd.view_39 [Str.ofString "to_jd_gregorian", Str.ofString "from_jd_gregorian", Str.ofString "to_jd_iso", Str.ofString "from_jd_iso"]) mean mg mb h₀ → cs.kind = .function →
    dp + d < recursionLimit → un + 8 * d < cLine → Back h₀ L m news s Q P →
      wpAny (model PySem.Challenge.rw_bd6012_01.row.prog w) (ktrTop dp un gd cn cs L a ccd cl outer) (call (.ref f) vs) Q E s

theorem Ctr.use {d : Nat} {f : Addr} {vs : List Value} {P : Value → Prop} (C : Ctr d f vs P) {w : World} {mean : ExcName → Option Value} {mg mb : Str → Option Value} {dp un : Nat} {gd : Option (List Code)} {cn : Str} {cs : Scope} {a : Addr} {ccd : Value} {cl : List (Str × Addr)} {outer : List Env} {A₀ : Around} {base h₀ : Heap} {L : Addr} {m : Str → Option Value} {news : List (Addr × Obj)} {s : Shared} {Q : Value → Shared → Prop} {E : Value → Shared → Prop}
    (B : Below A₀ base outer h₀) (F : Fr h₀ L s.heap m) (X : (hd.heap_39 w.params).In h₀) (N : News h₀ L s.heap news) (T : Top hd.view_39 (looseW hd.view_39 [Str.ofString "to_jd_gregorian", Str.ofString "from_jd_gregorian", Str.ofString "to_jd_iso", Str.ofString "from_jd_iso"]) mean mg mb h₀) (hk : cs.kind = .function)
    (hd : dp + d < recursionLimit) (hu : un + 8 * d < cLine) (hret : Back h₀ L m news s Q P) :
    wpAny (model PySem.Challenge.rw_bd6012_01.row.prog w) (ktrTop dp un gd cn cs L a ccd cl outer) (call (.ref f) vs) Q E s :=
  C w mean mg mb dp un gd cn cs a ccd cl outer A₀ base h₀ L m news s Q E B F X N T hk hd hu hret
end
end
section
open PySem PySem.W PyProof.Rows PySem.Spec PySem.Calls
local macro_rules | `(tactic| walk_at "binaryOp Add float float") => `(tactic| (refine w_add_ff (by first | assumption | exact half_c05 | exact half_epoch) (by first | assumption | exact half_c05 | exact half_epoch) (by omega) (by omega) ?_; intro z9 hz9))
local macro_rules | `(tactic| walk_at "binaryOp Sub float float") => `(tactic| (refine w_sub_ff (by first | assumption | exact half_c05 | exact half_epoch) (by first | assumption | exact half_c05 | exact half_epoch) (by omega) (by omega) ?_; intro z9 hz9))
local macro_rules | `(tactic| walk_at "binaryOp Add float int") => `(tactic| (refine w_add_fi (by first | assumption | exact half_epoch) (by omega) (by omega) (by omega) (by omega) ?_; intro z9 hz9))
local macro_rules | `(tactic| walk_at "binaryOp Add int float") => `(tactic| (refine w_add_if (by first | assumption | exact half_c05) (by omega) (by omega) (by omega) (by omega) ?_; intro z9 hz9))
local macro_rules | `(tactic| walk_at "inplaceOp Add int float") => `(tactic| (refine w_iadd_if (by assumption) (by omega) (by omega) (by omega) (by omega) ?_; intro z9 hz9))
local macro_rules | `(tactic| walk_at "binaryOp Sub float int") => `(tactic| (refine w_sub_fi (by first | assumption | exact half_epoch) (by omega) (by omega) (by omega) (by omega) ?_; intro z9 hz9))
local macro_rules | `(tactic| walk_at "binaryOp Mult int float") => `(tactic| (refine w_mul_if (by assumption) (by omega) (by omega) (by omega) (by omega) ?_; intro z9 hz9))
local macro_rules | `(tactic| walk_at "binaryOp Mult float int") => `(tactic| (refine w_mul_fi (by assumption) (by omega) (by omega) (by omega) (by omega) ?_; intro z9 hz9))
local macro_rules | `(tactic| walk_at "binaryOp Div float int") => `(tactic| (refine w_div_fi (by assumption) (by omega) (by omega) (by omega) (by omega) (by omega) rfl ?_; intro D9 z9 hD9 hz9))
local macro_rules | `(tactic| walk_at "binaryOp Div int int") => `(tactic| (refine w_div_ii (by omega) (by omega) (by omega) (by omega) rfl ?_; intro z9 hz9))
local macro_rules | `(tactic| walk_at "binaryOp Mod float int") => `(tactic| (refine w_mod_fi (by assumption) (by omega) (by omega) (by omega) (by omega) rfl ?_; intro D9 z9 hD9 hz9))
local macro_rules | `(tactic| walk_at "binaryOp Mod int int") => `(tactic| (refine w_mod_ii (by omega) ?_))
local macro_rules | `(tactic| walk_at "binaryOp FloorDiv int int") => `(tactic| (refine w_floordiv_ii (by omega) (by omega) (by omega) (by omega) ?_))
local macro_rules | `(tactic| walk_at "call builtin:math.floor") => `(tactic| (refine w_floor (by first | assumption | exact flo_half (by assumption)) rfl ?_))
local macro_rules | `(tactic| walk_at "call builtin:math.trunc") => `(tactic| (refine w_trunc (by assumption) (by omega) rfl ?_; intro D9 hD9))
local macro_rules | `(tactic| walk_at "call type:int") => `(tactic| (refine w_int (by assumption) (by omega) rfl ?_; intro D9 hD9))
local macro_rules | `(tactic| walk_at "compareOp Lt float int") => `(tactic| (refine w_lt_fi (by assumption) ?_))
local macro_rules | `(tactic| walk_at "compareOp Eq float int") => `(tactic| (refine w_eq_fi (by assumption) ?_))
local macro_rules | `(tactic| walk_at "compareOp NotEq float float") => `(tactic| (refine w_ne_ff (by assumption) (by assumption) ?_))
local macro_rules | `(tactic| k_room) => `(tactic| ktr_room)
local macro_rules | `(tactic| k_units) => `(tactic| ktr_units)
local macro_rules | `(tactic| walk_at "binaryOp Div int int") => `(tactic| (refine w_div_12 (by omega) (by omega) rfl ?_))
local macro_rules | `(tactic| walk_at "binaryOp Add float int") => `(tactic| (first | refine w_add_12a (by omega) (by omega) ?_ | refine w_add_12b (by omega) (by omega) ?_))
local macro_rules | `(tactic| walk_at "call builtin:math.floor") => `(tactic| (refine w_floor (q12_floor (by omega) (by omega) (by omega) (by omega) (by omega)) rfl ?_))
local macro_rules | `(tactic| walk_at "eval Call") => `(tactic| ((with_reducible show wpAny _ _ (eval (Expr.Call (Expr.Name _ _) _ [] _) _) _ _ _); k_dflt (refine Call_ ?_)))
theorem C_jwday {x : UInt64} {t : Tok} {n : Int} (hx : Half x n) (he : n % 2 = 1) (h1 : -2251799813685248 < n) (h2 : n < 2251799813685248) : Ctr 1 59 [.float x t] fun v => ∃ t D, n + 1 = 2 * D ∧ v = .int (D % 7) t := by
  unfold Ctr
  k_fill
  intro w mean mg mb dp un gd cn cs a ccd cl outer A₀ base h₀ L m news s Q E B F X N T hk hd hu hret
  refine wpAny_call ?_
  k_dflt cell_enter
  k_steps
  all_goals (refine hret _ _ _ ?_ (by k_asm) (by k_asm))
  all_goals exact ⟨_, _, by assumption, rfl⟩
local macro_rules | `(tactic| walk_at "call ref") => `(tactic| k_dflt (refine' Ctr.use (C_jwday (by assumption) (by omega) (by omega) (by omega) ) ?k1 ?k2 ?k3 ?k4 ?k5 ?kK ?kd ?ku ?_; (case k1 => k_asm); (case k2 => k_asm); (case k3 => k_asm); (case k4 => k_asm); (case k5 => k_asm); (case kK => first | exact rfl | assumption); (case kd => ktr_room); (case ku => ktr_units); intro v9 h9 tk9 P9 F9 N9; obtain ⟨_, D9, hD9, e9⟩ := P9; subst e9; (try dsimp only); (try k_fold)))
theorem C_wb {x : UInt64} {t u : Tok} {n d : Int} (hx : Half x n) (he : n % 2 = 1) (d1 : -10 < d) (d2 : d < 10) (h1 : -1125899906842624 < n) (h2 : n < 1125899906842624) : Ctr 2 66 [.int d u, .float x t] fun v => ∃ z t D, n + 1 = 2 * D ∧ Half z (2 * (D - (D - d) % 7) - 1) ∧ v = .float z t := by
  unfold Ctr
  k_fill
  intro w mean mg mb dp un gd cn cs a ccd cl outer A₀ base h₀ L m news s Q E B F X N T hk hd hu hret
  refine wpAny_call ?_
  k_dflt cell_enter
  k_steps
  all_goals (refine hret _ _ _ ?_ (by k_asm) (by k_asm))
  all_goals exact ⟨_, _, (n + 1) / 2, by omega, half_to (by assumption) (by omega), rfl⟩
local macro_rules | `(tactic| walk_at "call ref") => `(tactic| k_dflt (refine' Ctr.use (C_wb (by assumption) (by omega) (by omega) (by omega) (by omega) (by omega) ) ?k1 ?k2 ?k3 ?k4 ?k5 ?kK ?kd ?ku ?_; (case k1 => k_asm); (case k2 => k_asm); (case k3 => k_asm); (case k4 => k_asm); (case k5 => k_asm); (case kK => first | exact rfl | assumption); (case kd => ktr_room); (case ku => ktr_units); intro v9 h9 tk9 P9 F9 N9; obtain ⟨z9, _, D9, hD9, hz9, e9⟩ := P9; subst e9; (try dsimp only); (try k_fold)))
theorem C_nweeks {x : UInt64} {t u u' : Tok} {n d k : Int} (hx : Half x n) (he : n % 2 = 1) (d1 : -10 < d) (d2 : d < 10) (h1 : -562949953421312 < n) (h2 : n < 562949953421312) (k1 : 0 < k) (k2 : k < 1099511627776) : Ctr 10 94 [.int d u, .float x t, .int k u'] fun v => ∃ z t D, n + 1 = 2 * D ∧ Half z (2 * (D - 1 - (D - 1 - d) % 7 + 7 * k) - 1) ∧ v = .float z t := by
  unfold Ctr
  k_fill
  intro w mean mg mb dp un gd cn cs a ccd cl outer A₀ base h₀ L m news s Q E B F X N T hk hd hu hret
  refine wpAny_call ?_
  k_dflt cell_enter
  k_steps
  all_goals (refine hret _ _ _ ?_ (by k_asm) (by k_asm))
  all_goals exact ⟨_, _, (n + 1) / 2, by omega, half_to (by assumption) (by omega), rfl⟩
end
section
open PySem PySem.W PyProof.Rows PySem.Spec PySem.Calls
section
open PySem PySem.W PyProof.Rows PySem.Spec PySem.Calls
theorem w_in30 {prog : Program} {w : World} {A : Around} {E : Value → Shared → Prop} {s : Shared} {h₀ : Heap} {L : Addr} {m : Str → Option Value} {x : Int} {u : Tok} {Q : Value → Shared → Prop} (X : (hd.heap_39 w.params).In h₀) (F : Fr h₀ L s.heap m) (h : ∀ b, Q (.bool b) s) :
    wpAny (model prog w) A (compareOp .In (.int x u) (.ref 102)) Q E s :=
  in_tuple_ints (items := #[.int 4 512, .int 6 513, .int 9 514, .int 11 515]) (ns := [4, 6, 9, 11]) ⟨_, F.keep _ _ (X 102 _ rfl), rfl, _, rfl⟩ (by repeat constructor) (h _)
end
end
section
open PySem PySem.W PyProof.Rows PySem.Spec PySem.Calls
local macro_rules | `(tactic| walk_at "zz0") => `(tactic| skip)
local macro_rules | `(tactic| walk_at "zz1") => `(tactic| skip)
local macro_rules | `(tactic| walk_at "binaryOp Add float float") => `(tactic| (refine w_add_ff (by first | assumption | exact half_c05 | exact half_epoch) (by first | assumption | exact half_c05 | exact half_epoch) (by omega) (by omega) ?_; intro z9 hz9))
local macro_rules | `(tactic| walk_at "binaryOp Sub float float") => `(tactic| (refine w_sub_ff (by first | assumption | exact half_c05 | exact half_epoch) (by first | assumption | exact half_c05 | exact half_epoch) (by omega) (by omega) ?_; intro z9 hz9))
local macro_rules | `(tactic| walk_at "binaryOp Add float int") => `(tactic| (refine w_add_fi (by first | assumption | exact half_epoch) (by omega) (by omega) (by omega) (by omega) ?_; intro z9 hz9))
local macro_rules | `(tactic| walk_at "binaryOp Add int float") => `(tactic| (refine w_add_if (by first | assumption | exact half_c05) (by omega) (by omega) (by omega) (by omega) ?_; intro z9 hz9))
local macro_rules | `(tactic| walk_at "inplaceOp Add int float") => `(tactic| (refine w_iadd_if (by assumption) (by omega) (by omega) (by omega) (by omega) ?_; intro z9 hz9))
local macro_rules | `(tactic| walk_at "binaryOp Sub float int") => `(tactic| (refine w_sub_fi (by first | assumption | exact half_epoch) (by omega) (by omega) (by omega) (by omega) ?_; intro z9 hz9))
local macro_rules | `(tactic| walk_at "binaryOp Mult int float") => `(tactic| (refine w_mul_if (by assumption) (by omega) (by omega) (by omega) (by omega) ?_; intro z9 hz9))
local macro_rules | `(tactic| walk_at "binaryOp Mult float int") => `(tactic| (refine w_mul_fi (by assumption) (by omega) (by omega) (by omega) (by omega) ?_; intro z9 hz9))
local macro_rules | `(tactic| walk_at "binaryOp Div float int") => `(tactic| (refine w_div_fi (by assumption) (by omega) (by omega) (by omega) (by omega) (by omega) rfl ?_; intro D9 z9 hD9 hz9))
local macro_rules | `(tactic| walk_at "binaryOp Div int int") => `(tactic| (refine w_div_ii (by omega) (by omega) (by omega) (by omega) rfl ?_; intro z9 hz9))
local macro_rules | `(tactic| walk_at "binaryOp Mod float int") => `(tactic| (refine w_mod_fi (by assumption) (by omega) (by omega) (by omega) (by omega) rfl ?_; intro D9 z9 hD9 hz9))
local macro_rules | `(tactic| walk_at "binaryOp Mod int int") => `(tactic| (refine w_mod_ii (by omega) ?_))
local macro_rules | `(tactic| walk_at "binaryOp FloorDiv int int") => `(tactic| (refine w_floordiv_ii (by omega) (by omega) (by omega) (by omega) ?_))
local macro_rules | `(tactic| walk_at "call builtin:math.floor") => `(tactic| (refine w_floor (by first | assumption | exact flo_half (by assumption)) rfl ?_))
local macro_rules | `(tactic| walk_at "call builtin:math.trunc") => `(tactic| (refine w_trunc (by assumption) (by omega) rfl ?_; intro D9 hD9))
local macro_rules | `(tactic| walk_at "call type:int") => `(tactic| (refine w_int (by assumption) (by omega) rfl ?_; intro D9 hD9))
local macro_rules | `(tactic| walk_at "compareOp Lt float int") => `(tactic| (refine w_lt_fi (by assumption) ?_))
local macro_rules | `(tactic| walk_at "compareOp Eq float int") => `(tactic| (refine w_eq_fi (by assumption) ?_))
local macro_rules | `(tactic| walk_at "compareOp NotEq float float") => `(tactic| (refine w_ne_ff (by assumption) (by assumption) ?_))
local macro_rules | `(tactic| k_room) => `(tactic| ktr_room)
local macro_rules | `(tactic| k_units) => `(tactic| ktr_units)
local macro_rules | `(tactic| walk_at "binaryOp Div int int") => `(tactic| (refine w_div_12 (by omega) (by omega) rfl ?_))
local macro_rules | `(tactic| walk_at "binaryOp Add float int") => `(tactic| (first | refine w_add_12a (by omega) (by omega) ?_ | refine w_add_12b (by omega) (by omega) ?_))
local macro_rules | `(tactic| walk_at "call builtin:math.floor") => `(tactic| (refine w_floor (q12_floor (by omega) (by omega) (by omega) (by omega) (by omega)) rfl ?_))
local macro_rules | `(tactic| walk_at "eval Call") => `(tactic| ((with_reducible show wpAny _ _ (eval (Expr.Call (Expr.Name _ _) _ [] _) _) _ _ _); k_dflt (refine Call_ ?_)))
local macro_rules | `(tactic| walk_at "compareOp In int ref") => `(tactic| k_dflt (refine' w_in30 ?k1 ?k2 ?_; (case k1 => k_asm); (case k2 => k_asm); intro b9))
theorem C_isleap {t : Tok} {y : Int} : Ctr 1 101 [.int y t] fun v => v = .bool (leapB y) := by
  unfold Ctr
  k_fill
  intro w mean mg mb dp un gd cn cs a ccd cl outer A₀ base h₀ L m news s Q E B F X N T hk hd hu hret
  refine wpAny_call ?_
  k_dflt cell_enter
  k_steps
  all_goals (refine hret _ _ _ ?_ (by k_asm) (by k_asm))
  all_goals (simp only [leapB, Value.bool.injEq]; rw [Bool.eq_iff_iff]; simp_all)
local macro_rules | `(tactic| walk_at "call ref") => `(tactic| k_dflt (refine' Ctr.use (C_isleap) ?k1 ?k2 ?k3 ?k4 ?k5 ?kK ?kd ?ku ?_; (case k1 => k_asm); (case k2 => k_asm); (case k3 => k_asm); (case k4 => k_asm); (case k5 => k_asm); (case kK => first | exact rfl | assumption); (case kd => ktr_room); (case ku => ktr_units); intro v9 h9 tk9 P9 F9 N9; have e9 : v9 = _ := P9; clear P9; subst e9; (try dsimp only); (try k_fold)))
theorem C_legal {t u v : Tok} {y m d : Int} (d0 : 0 < d) (d1 : d ≤ 28) : Ctr 3 109 [.int y t, .int m u, .int d v] fun v => v = .bool true := by
  unfold Ctr
  k_fill
  intro w mean mg mb dp un gd cn cs a ccd cl outer A₀ base h₀ L m news s Q E B F X N T hk hd hu hret
  refine wpAny_call ?_
  k_dflt cell_enter
  k_steps
  all_goals (refine hret _ _ _ ?_ (by k_asm) (by k_asm))
  all_goals rfl
end
section
open PySem PySem.W PyProof.Rows PySem.Spec PySem.Calls
local macro_rules | `(tactic| walk_at "zz0") => `(tactic| skip)
local macro_rules | `(tactic| walk_at "zz1") => `(tactic| skip)
local macro_rules | `(tactic| walk_at "binaryOp Add float float") => `(tactic| (refine w_add_ff (by first | assumption | exact half_c05 | exact half_epoch) (by first | assumption | exact half_c05 | exact half_epoch) (by omega) (by omega) ?_; intro z9 hz9))
local macro_rules | `(tactic| walk_at "binaryOp Sub float float") => `(tactic| (refine w_sub_ff (by first | assumption | exact half_c05 | exact half_epoch) (by first | assumption | exact half_c05 | exact half_epoch) (by omega) (by omega) ?_; intro z9 hz9))
local macro_rules | `(tactic| walk_at "binaryOp Add float int") => `(tactic| (refine w_add_fi (by first | assumption | exact half_epoch) (by omega) (by omega) (by omega) (by omega) ?_; intro z9 hz9))
local macro_rules | `(tactic| walk_at "binaryOp Add int float") => `(tactic| (refine w_add_if (by first | assumption | exact half_c05) (by omega) (by omega) (by omega) (by omega) ?_; intro z9 hz9))
local macro_rules | `(tactic| walk_at "inplaceOp Add int float") => `(tactic| (refine w_iadd_if (by assumption) (by omega) (by omega) (by omega) (by omega) ?_; intro z9 hz9))
local macro_rules | `(tactic| walk_at "binaryOp Sub float int") => `(tactic| (refine w_sub_fi (by first | assumption | exact half_epoch) (by omega) (by omega) (by omega) (by omega) ?_; intro z9 hz9))
local macro_rules | `(tactic| walk_at "binaryOp Mult int float") => `(tactic| (refine w_mul_if (by assumption) (by omega) (by omega) (by omega) (by omega) ?_; intro z9 hz9))
local macro_rules | `(tactic| walk_at "binaryOp Mult float int") => `(tactic| (refine w_mul_fi (by assumption) (by omega) (by omega) (by omega) (by omega) ?_; intro z9 hz9))
local macro_rules | `(tactic| walk_at "binaryOp Div float int") => `(tactic| (refine w_div_fi (by assumption) (by omega) (by omega) (by omega) (by omega) (by omega) rfl ?_; intro D9 z9 hD9 hz9))
local macro_rules | `(tactic| walk_at "binaryOp Div int int") => `(tactic| (refine w_div_ii (by omega) (by omega) (by omega) (by omega) rfl ?_; intro z9 hz9))
local macro_rules | `(tactic| walk_at "binaryOp Mod float int") => `(tactic| (refine w_mod_fi (by assumption) (by omega) (by omega) (by omega) (by omega) rfl ?_; intro D9 z9 hD9 hz9))
local macro_rules | `(tactic| walk_at "binaryOp Mod int int") => `(tactic| (refine w_mod_ii (by omega) ?_))
local macro_rules | `(tactic| walk_at "binaryOp FloorDiv int int") => `(tactic| (refine w_floordiv_ii (by omega) (by omega) (by omega) (by omega) ?_))
local macro_rules | `(tactic| walk_at "call builtin:math.floor") => `(tactic| (refine w_floor (by first | assumption | exact flo_half (by assumption)) rfl ?_))
local macro_rules | `(tactic| walk_at "call builtin:math.trunc") => `(tactic| (refine w_trunc (by assumption) (by omega) rfl ?_; intro D9 hD9))
local macro_rules | `(tactic| walk_at "call type:int") => `(tactic| (refine w_int (by assumption) (by omega) rfl ?_; intro D9 hD9))
local macro_rules | `(tactic| walk_at "compareOp Lt float int") => `(tactic| (refine w_lt_fi (by assumption) ?_))
local macro_rules | `(tactic| walk_at "compareOp Eq float int") => `(tactic| (refine w_eq_fi (by assumption) ?_))
local macro_rules | `(tactic| walk_at "compareOp NotEq float float") => `(tactic| (refine w_ne_ff (by assumption) (by assumption) ?_))
local macro_rules | `(tactic| k_room) => `(tactic| ktr_room)
local macro_rules | `(tactic| k_units) => `(tactic| ktr_units)
local macro_rules | `(tactic| walk_at "binaryOp Div int int") => `(tactic| (refine w_div_12 (by omega) (by omega) rfl ?_))
local macro_rules | `(tactic| walk_at "binaryOp Add float int") => `(tactic| (first | refine w_add_12a (by omega) (by omega) ?_ | refine w_add_12b (by omega) (by omega) ?_))
local macro_rules | `(tactic| walk_at "call builtin:math.floor") => `(tactic| (refine w_floor (q12_floor (by omega) (by omega) (by omega) (by omega) (by omega)) rfl ?_))
local macro_rules | `(tactic| walk_at "eval Call") => `(tactic| ((with_reducible show wpAny _ _ (eval (Expr.Call (Expr.Name _ _) _ [] _) _) _ _ _); k_dflt (refine Call_ ?_)))
local macro_rules | `(tactic| walk_at "compareOp In int ref") => `(tactic| k_dflt (refine' w_in30 ?k1 ?k2 ?_; (case k1 => k_asm); (case k2 => k_asm); intro b9))
local macro_rules | `(tactic| walk_at "call ref") => `(tactic| k_dflt (refine' Ctr.use (C_isleap) ?k1 ?k2 ?k3 ?k4 ?k5 ?kK ?kd ?ku ?_; (case k1 => k_asm); (case k2 => k_asm); (case k3 => k_asm); (case k4 => k_asm); (case k5 => k_asm); (case kK => first | exact rfl | assumption); (case kd => ktr_room); (case ku => ktr_units); intro v9 h9 tk9 P9 F9 N9; have e9 : v9 = _ := P9; clear P9; subst e9; (try dsimp only); (try k_fold)))
local macro_rules | `(tactic| walk_at "call ref") => `(tactic| k_dflt (refine' Ctr.use (C_legal (by omega) (by omega)) ?k1 ?k2 ?k3 ?k4 ?k5 ?kK ?kd ?ku ?_; (case k1 => k_asm); (case k2 => k_asm); (case k3 => k_asm); (case k4 => k_asm); (case k5 => k_asm); (case kK => first | exact rfl | assumption); (case kd => ktr_room); (case ku => ktr_units); intro v9 h9 tk9 P9 F9 N9; have e9 : v9 = _ := P9; clear P9; subst e9; (try dsimp only); (try k_fold)))
theorem cum_form {l : Bool} {m : Int} (m1 : 1 ≤ m) (m2 : m ≤ 12) : cum l m = (367 * m - 362) / 12 + (if m ≤ 2 then 0 else if l then -1 else -2) := by
  have h : m = 1 ∨ m = 2 ∨ m = 3 ∨ m = 4 ∨ m = 5 ∨ m = 6 ∨ m = 7 ∨ m = 8 ∨ m = 9 ∨ m = 10 ∨ m = 11 ∨ m = 12 := by omega
  rcases h with rfl | rfl | rfl | rfl | rfl | rfl | rfl | rfl | rfl | rfl | rfl | rfl <;> cases l <;> rfl
theorem cum_small {l : Bool} {m : Int} (m2 : 2 < m) (m3 : m ≤ 12) : cum l m = (367 * m - 362) / 12 + (if l then -1 else -2) := by
  rw [cum_form (by omega) m3, if_neg (by omega)]
theorem C_tojd {t u v : Tok} {y m d : Int} (m1 : 1 ≤ m) (m2 : m ≤ 12) (hd : d = 1 ∨ d = 28) (y1 : -268435456 < y) (y2 : y < 268435456) : Ctr 6 116 [.int y t, .int m u, .int d v] fun v => ∃ z t, Half z (2 * (jan y - 1 + cum (leapB y) m + d) - 1) ∧ v = .float z t := by
  unfold Ctr
  k_fill
  intro w mean mg mb dp un gd cn cs a ccd cl outer A₀ base h₀ L m news s Q E B F X N T hk hd hu hret
  refine wpAny_call ?_
  k_dflt cell_enter
  k_steps
  all_goals (refine hret _ _ _ ?_ (by k_asm) (by k_asm))
  all_goals (refine ⟨_, _, half_to (by assumption) ?_, rfl⟩)
  all_goals (unfold jan)
  · rw [cum_form m1 m2, if_pos (by assumption)]; omega
  · rw [cum_small (by omega) m2, if_pos (by assumption)]; omega
  · rw [cum_small (by omega) m2, if_neg (by simp only [Bool.not_eq_true]; assumption)]; omega
end
section
open PySem PySem.W PyProof.Rows PySem.Spec PySem.Calls
/- the calendar's plain laws -/
theorem jan_bd {y : Int} (h1 : -268435456 < y) (h2 : y < 268435456) : -1099511627776 < jan y ∧ jan y < 1099511627776 := by unfold jan; omega
theorem cum_bd (l : Bool) (m : Int) : 0 ≤ cum l m ∧ cum l m ≤ 366 := by
  unfold cum
  cases l <;> simp only [Bool.false_eq_true, if_false, if_true] <;> (repeat' split) <;> omega
theorem leap_iff (y : Int) : leapB y = true ↔ (y % 4 = 0 ∧ (y % 100 ≠ 0 ∨ y % 400 = 0)) := by
  unfold leapB; simp
theorem jan_succ (y : Int) : jan (y + 1) = jan y + 365 + (if leapB y then 1 else 0) := by
  have h := leap_iff y
  unfold jan
  split
  · rename_i hl
    have := h.mp hl
    omega
  · rename_i hl
    have : ¬ (y % 4 = 0 ∧ (y % 100 ≠ 0 ∨ y % 400 = 0)) := fun c => hl (h.mpr c)
    omega
theorem cum_12 (l : Bool) : cum l 12 = 334 + (if l then 1 else 0) := by cases l <;> rfl
theorem cum_1 (l : Bool) : cum l 1 = 0 := rfl
theorem jan_prev (y : Int) : jan (y - 1) + cum (leapB (y - 1)) 12 + 31 = jan y := by
  have h := jan_succ (y - 1)
  rw [Int.sub_add_cancel] at h
  rw [cum_12, h]
  split <;> omega
/-- the first Monday of an ISO year -/
def mon (y : Int) : Int := jan y + 3 - (jan y + 3) % 7
def wks (y : Int) : Int := if jan y % 7 = 3 ∨ (jan y % 7 = 2 ∧ leapB y = true) then 53 else 52
theorem wks_mon (y : Int) : 7 * wks y = mon (y + 1) - mon y := by
  unfold wks mon
  rw [jan_succ]
  cases leapB y <;> simp only [Bool.false_eq_true, if_false, if_true, and_false, and_true, or_false] <;> split <;> omega
theorem wks_bd (y : Int) : 52 ≤ wks y ∧ wks y ≤ 53 := by unfold wks; split <;> omega
theorem mon_bd {y : Int} (h1 : -268435456 < y) (h2 : y < 268435456) : -1099511627800 < mon y ∧ mon y < 1099511627800 := by
  have := jan_bd h1 h2
  unfold mon; omega
end
section
open PySem PySem.W PyProof.Rows PySem.Spec PySem.Calls
local macro_rules | `(tactic| walk_at "binaryOp Add float float") => `(tactic| (refine w_add_ff (by first | assumption | exact half_c05 | exact half_epoch) (by first | assumption | exact half_c05 | exact half_epoch) (by omega) (by omega) ?_; intro z9 hz9))
local macro_rules | `(tactic| walk_at "binaryOp Sub float float") => `(tactic| (refine w_sub_ff (by first | assumption | exact half_c05 | exact half_epoch) (by first | assumption | exact half_c05 | exact half_epoch) (by omega) (by omega) ?_; intro z9 hz9))
local macro_rules | `(tactic| walk_at "binaryOp Add float int") => `(tactic| (refine w_add_fi (by first | assumption | exact half_epoch) (by omega) (by omega) (by omega) (by omega) ?_; intro z9 hz9))
local macro_rules | `(tactic| walk_at "binaryOp Add int float") => `(tactic| (refine w_add_if (by first | assumption | exact half_c05) (by omega) (by omega) (by omega) (by omega) ?_; intro z9 hz9))
local macro_rules | `(tactic| walk_at "inplaceOp Add int float") => `(tactic| (refine w_iadd_if (by assumption) (by omega) (by omega) (by omega) (by omega) ?_; intro z9 hz9))
local macro_rules | `(tactic| walk_at "binaryOp Sub float int") => `(tactic| (refine w_sub_fi (by first | assumption | exact half_epoch) (by omega) (by omega) (by omega) (by omega) ?_; intro z9 hz9))
local macro_rules | `(tactic| walk_at "binaryOp Mult int float") => `(tactic| (refine w_mul_if (by assumption) (by omega) (by omega) (by omega) (by omega) ?_; intro z9 hz9))
local macro_rules | `(tactic| walk_at "binaryOp Mult float int") => `(tactic| (refine w_mul_fi (by assumption) (by omega) (by omega) (by omega) (by omega) ?_; intro z9 hz9))
local macro_rules | `(tactic| walk_at "binaryOp Div float int") => `(tactic| (refine w_div_fi (by assumption) (by omega) (by omega) (by omega) (by omega) (by omega) rfl ?_; intro D9 z9 hD9 hz9))
local macro_rules | `(tactic| walk_at "binaryOp Div int int") => `(tactic| (refine w_div_ii (by omega) (by omega) (by omega) (by omega) rfl ?_; intro z9 hz9))
local macro_rules | `(tactic| walk_at "binaryOp Mod float int") => `(tactic| (refine w_mod_fi (by assumption) (by omega) (by omega) (by omega) (by omega) rfl ?_; intro D9 z9 hD9 hz9))
local macro_rules | `(tactic| walk_at "binaryOp Mod int int") => `(tactic| (refine w_mod_ii (by omega) ?_))
local macro_rules | `(tactic| walk_at "binaryOp FloorDiv int int") => `(tactic| (refine w_floordiv_ii (by omega) (by omega) (by omega) (by omega) ?_))
local macro_rules | `(tactic| walk_at "call builtin:math.floor") => `(tactic| (refine w_floor (by first | assumption | exact flo_half (by assumption)) rfl ?_))
local macro_rules | `(tactic| walk_at "call builtin:math.trunc") => `(tactic| (refine w_trunc (by assumption) (by omega) rfl ?_; intro D9 hD9))
local macro_rules | `(tactic| walk_at "call type:int") => `(tactic| (refine w_int (by assumption) (by omega) rfl ?_; intro D9 hD9))
local macro_rules | `(tactic| walk_at "compareOp Lt float int") => `(tactic| (refine w_lt_fi (by assumption) ?_))
local macro_rules | `(tactic| walk_at "compareOp Eq float int") => `(tactic| (refine w_eq_fi (by assumption) ?_))
local macro_rules | `(tactic| walk_at "compareOp NotEq float float") => `(tactic| (refine w_ne_ff (by assumption) (by assumption) ?_))
local macro_rules | `(tactic| k_room) => `(tactic| ktr_room)
local macro_rules | `(tactic| k_units) => `(tactic| ktr_units)
local macro_rules | `(tactic| walk_at "binaryOp Div int int") => `(tactic| (refine w_div_12 (by omega) (by omega) rfl ?_))
local macro_rules | `(tactic| walk_at "binaryOp Add float int") => `(tactic| (first | refine w_add_12a (by omega) (by omega) ?_ | refine w_add_12b (by omega) (by omega) ?_))
local macro_rules | `(tactic| walk_at "call builtin:math.floor") => `(tactic| (refine w_floor (q12_floor (by omega) (by omega) (by omega) (by omega) (by omega)) rfl ?_))
local macro_rules | `(tactic| walk_at "eval Call") => `(tactic| ((with_reducible show wpAny _ _ (eval (Expr.Call (Expr.Name _ _) _ [] _) _) _ _ _); k_dflt (refine Call_ ?_)))
local macro_rules | `(tactic| walk_at "compareOp In int ref") => `(tactic| k_dflt (refine' w_in30 ?k1 ?k2 ?_; (case k1 => k_asm); (case k2 => k_asm); intro b9))
local macro_rules | `(tactic| walk_at "call ref") => `(tactic| k_dflt (refine' Ctr.use (C_jwday (by assumption) (by omega) (by omega) (by omega) ) ?k1 ?k2 ?k3 ?k4 ?k5 ?kK ?kd ?ku ?_; (case k1 => k_asm); (case k2 => k_asm); (case k3 => k_asm); (case k4 => k_asm); (case k5 => k_asm); (case kK => first | exact rfl | assumption); (case kd => ktr_room); (case ku => ktr_units); intro v9 h9 tk9 P9 F9 N9; obtain ⟨_, D9, hD9, e9⟩ := P9; subst e9; (try dsimp only); (try k_fold)))
local macro_rules | `(tactic| walk_at "call ref") => `(tactic| k_dflt (refine' Ctr.use (C_wb (by assumption) (by omega) (by omega) (by omega) (by omega) (by omega) ) ?k1 ?k2 ?k3 ?k4 ?k5 ?kK ?kd ?ku ?_; (case k1 => k_asm); (case k2 => k_asm); (case k3 => k_asm); (case k4 => k_asm); (case k5 => k_asm); (case kK => first | exact rfl | assumption); (case kd => ktr_room); (case ku => ktr_units); intro v9 h9 tk9 P9 F9 N9; obtain ⟨z9, _, D9, hD9, hz9, e9⟩ := P9; subst e9; (try dsimp only); (try k_fold)))
local macro_rules | `(tactic| walk_at "call ref") => `(tactic| k_dflt (refine' Ctr.use (C_nweeks (by assumption) (by omega) (by omega) (by omega) (by omega) (by omega) (by omega) (by omega) ) ?k1 ?k2 ?k3 ?k4 ?k5 ?kK ?kd ?ku ?_; (case k1 => k_asm); (case k2 => k_asm); (case k3 => k_asm); (case k4 => k_asm); (case k5 => k_asm); (case kK => first | exact rfl | assumption); (case kd => ktr_room); (case ku => ktr_units); intro v9 h9 tk9 P9 F9 N9; obtain ⟨z9, _, D9, hD9, hz9, e9⟩ := P9; subst e9; (try dsimp only); (try k_fold)))
local macro_rules | `(tactic| walk_at "call ref") => `(tactic| k_dflt (refine' Ctr.use (C_isleap) ?k1 ?k2 ?k3 ?k4 ?k5 ?kK ?kd ?ku ?_; (case k1 => k_asm); (case k2 => k_asm); (case k3 => k_asm); (case k4 => k_asm); (case k5 => k_asm); (case kK => first | exact rfl | assumption); (case kd => ktr_room); (case ku => ktr_units); intro v9 h9 tk9 P9 F9 N9; have e9 : v9 = _ := P9; clear P9; subst e9; (try dsimp only); (try k_fold)))
local macro_rules | `(tactic| walk_at "call ref") => `(tactic| k_dflt (refine' Ctr.use (C_legal (by omega) (by omega)) ?k1 ?k2 ?k3 ?k4 ?k5 ?kK ?kd ?ku ?_; (case k1 => k_asm); (case k2 => k_asm); (case k3 => k_asm); (case k4 => k_asm); (case k5 => k_asm); (case kK => first | exact rfl | assumption); (case kd => ktr_room); (case ku => ktr_units); intro v9 h9 tk9 P9 F9 N9; have e9 : v9 = _ := P9; clear P9; subst e9; (try dsimp only); (try k_fold)))
local macro_rules | `(tactic| walk_at "call ref") => `(tactic| k_dflt (refine' Ctr.use (C_tojd (by omega) (by omega) (by omega) (by omega) (by omega)) ?k1 ?k2 ?k3 ?k4 ?k5 ?kK ?kd ?ku ?_; (case k1 => k_asm); (case k2 => k_asm); (case k3 => k_asm); (case k4 => k_asm); (case k5 => k_asm); (case kK => first | exact rfl | assumption); (case kd => ktr_room); (case ku => ktr_units); intro v9 h9 tk9 P9 F9 N9; obtain ⟨z9, _, hz9, e9⟩ := P9; subst e9; (try dsimp only); (try k_fold)))
theorem C_tojdiso {t u v : Tok} {y k d : Int} (y1 : -134217728 < y) (y2 : y < 134217728) (k1 : 0 < k) (k2 : k < 1099511627776) (d1 : -1048576 < d) (d2 : d < 1048576) : Ctr 20 130 [.int y t, .int k u, .int d v] fun v => ∃ z t, Half z (2 * (mon y + 7 * (k - 1) - 1 + d) - 1) ∧ v = .float z t := by
  have b1 := jan_bd (y := y - 1) (by omega) (by omega)
  have b2 := cum_bd (leapB (y - 1)) 12
  have b3 := jan_prev y
  unfold Ctr
  k_fill
  intro w mean mg mb dp un gd cn cs a ccd cl outer A₀ base h₀ L m news s Q E B F X N T hk hd hu hret
  refine wpAny_call ?_
  k_dflt cell_enter
  k_steps
  all_goals (refine hret _ _ _ ?_ (by k_asm) (by k_asm))
  all_goals (refine ⟨_, _, half_to (by assumption) ?_, rfl⟩)
  all_goals (unfold mon; omega)
theorem C_weeks {t : Tok} {y : Int} (y1 : -134217728 < y) (y2 : y < 134217728) : Ctr 20 144 [.int y t] fun v => ∃ t, v = .int (wks y) t := by
  have b1 := jan_bd (y := y) (by omega) (by omega)
  have b2 := cum_1 (leapB y)
  unfold Ctr
  k_fill
  intro w mean mg mb dp un gd cn cs a ccd cl outer A₀ base h₀ L m news s Q E B F X N T hk hd hu hret
  refine wpAny_call ?_
  k_dflt cell_enter
  k_steps
  all_goals (refine hret _ _ _ ?_ (by k_asm) (by k_asm))
  all_goals (refine ⟨_, congrArg (fun i => Value.int i _) (?_ : (_ : Int) = wks y)⟩)
  all_goals (unfold wks; split)
  all_goals first
    | rfl
    | (exfalso; rename_i hc; rcases hc with hc | ⟨hc, hl⟩; (omega); first | omega | simp_all)
    | (exfalso; rename_i hc; exact hc (.inl (by omega)))
    | (exfalso; rename_i hc; exact hc (.inr ⟨by omega, by assumption⟩))
end
section
open PySem PySem.W PyProof.Rows PySem.Spec PySem.Calls
structure Mark (N : Int) : Prop where
def lp (y : Int) : Int := if leapB y then 1 else 0
theorem lp_f {y : Int} (h : leapB y = false) : lp y = 0 := by unfold lp; rw [h]; rfl
theorem lp_t {y : Int} (h : leapB y = true) : lp y = 1 := by unfold lp; rw [h]; rfl
structure YearOf (N y : Int) : Prop where
  lo : 0 < y
  hi : y < 20000
  ge : jan y ≤ N
  lt : N < jan (y + 1)
theorem jan_at {q c d i Y : Int} (c0 : 0 ≤ c) (c1 : c ≤ 3) (d0 : 0 ≤ d) (d1 : d ≤ 24) (i0 : 0 ≤ i) (i1 : i ≤ 3) (hY : Y = q * 400 + c * 100 + d * 4 + i + 1) : jan Y = 1721426 + 146097 * q + 36524 * c + 1461 * d + 365 * i := by
  have h1 : (Y - 1) / 4 = 100 * q + 25 * c + d := by omega
  have h2 : (Y - 1) / 100 = 4 * q + c := by omega
  have h3 : (Y - 1) / 400 = q := by omega
  unfold jan
  rw [h1, h2, h3]
  omega
theorem leap_of {Y : Int} (h : Y % 4 = 0) (h' : Y % 100 ≠ 0 ∨ Y % 400 = 0) : leapB Y = true := (leap_iff Y).mpr ⟨h, h'⟩
theorem year_core {E q r c r2 d r3 i r4 : Int} (h0 : 0 ≤ E) (h1 : E < 7000000) (e1 : E = 146097 * q + r) (r0 : 0 ≤ r) (r1 : r < 146097) (e2 : r = 36524 * c + r2) (s0 : 0 ≤ r2) (s1 : r2 < 36524) (e3 : r2 = 1461 * d + r3) (t0 : 0 ≤ r3) (t1 : r3 < 1461) (e4 : r3 = 365 * i + r4) (u0 : 0 ≤ r4) (u1 : r4 < 365) :
    ((c = 4 ∨ i = 4) → YearOf (E + 1721426) (q * 400 + c * 100 + d * 4 + i)) ∧ (c ≠ 4 → i ≠ 4 → YearOf (E + 1721426) (q * 400 + c * 100 + d * 4 + i + 1)) := by
  have hq : 0 ≤ q := by omega
  have hq2 : q ≤ 47 := by omega
  have hc : 0 ≤ c := by omega
  have hc2 : c ≤ 4 := by omega
  have hd : 0 ≤ d := by omega
  have hd2 : d ≤ 24 := by omega
  have hi : 0 ≤ i := by omega
  have hi2 : i ≤ 4 := by omega
  constructor
  · rintro (h | h)
    · have z2 : r2 = 0 := by omega
      have zd : d = 0 := by omega
      have zi : i = 0 := by omega
      have z4 : r4 = 0 := by omega
      have hj := jan_at (q := q) (c := 3) (d := 24) (i := 3) (Y := q * 400 + c * 100 + d * 4 + i) (by omega) (by omega) (by omega) (by omega) (by omega) (by omega) (by omega)
      have hl := leap_of (Y := q * 400 + c * 100 + d * 4 + i) (by omega) (by omega)
      have hs := jan_succ (q * 400 + c * 100 + d * 4 + i)
      rw [hl] at hs
      simp only [if_true] at hs
      exact ⟨by omega, by omega, by omega, by omega⟩
    · have hd3 : d ≤ 23 := by omega
      have hc3 : c ≤ 3 := by omega
      have z4 : r4 = 0 := by omega
      have hj := jan_at (q := q) (c := c) (d := d) (i := 3) (Y := q * 400 + c * 100 + d * 4 + i) (by omega) (by omega) (by omega) (by omega) (by omega) (by omega) (by omega)
      have hl := leap_of (Y := q * 400 + c * 100 + d * 4 + i) (by omega) (by omega)
      have hs := jan_succ (q * 400 + c * 100 + d * 4 + i)
      rw [hl] at hs
      simp only [if_true] at hs
      exact ⟨by omega, by omega, by omega, by omega⟩
  · intro h h'
    have hc3 : c ≤ 3 := by omega
    have hi3 : i ≤ 3 := by omega
    have hj := jan_at (q := q) (c := c) (d := d) (i := i) (Y := q * 400 + c * 100 + d * 4 + i + 1) (by omega) (by omega) (by omega) (by omega) (by omega) (by omega) (by omega)
    have hs := jan_succ (q * 400 + c * 100 + d * 4 + i + 1)
    refine ⟨by omega, by omega, by omega, ?_⟩
    split at hs <;> omega
theorem year_law {N D6 D5 D4 D3 D2 D1 D : Int} (n1 : 1721426 ≤ N) (n2 : N ≤ 6000000) (h6 : 1 + 2 * ((2 * N - 1 - 1) / 2) - 3442851 = 2 * D6) (h5 : 1 + 2 * ((2 * N - 1 - 1) / 2) - 3442851 = 2 * D5) (h4 : 2 * (D5 % 146097) = 2 * D4) (h3 : 2 * (D5 % 146097) = 2 * D3) (h2 : 2 * (D3 % 36524) = 2 * D2) (h1 : 2 * (D3 % 36524) = 2 * D1) (h : 2 * (D1 % 1461) = 2 * D) :
    ((D4 / 36524 = 4 ∨ D / 365 = 4) → YearOf N (D6 / 146097 * 400 + D4 / 36524 * 100 + D2 / 1461 * 4 + D / 365)) ∧ (D4 / 36524 ≠ 4 → D / 365 ≠ 4 → YearOf N (D6 / 146097 * 400 + D4 / 36524 * 100 + D2 / 1461 * 4 + D / 365 + 1)) := by
  have e6 : D6 = N - 1721426 := by omega
  have e5 : D5 = N - 1721426 := by omega
  have e4 : D4 = D5 % 146097 := by omega
  have e3 : D3 = D4 := by omega
  have e2 : D2 = D3 % 36524 := by omega
  have e1 : D1 = D2 := by omega
  have e0 : D = D1 % 1461 := by omega
  clear h6 h5 h4 h3 h2 h1 h
  have hN : N = D6 + 1721426 := by omega
  have hh := year_core (E := D6) (q := D6 / 146097) (r := D4) (c := D4 / 36524) (r2 := D2) (d := D2 / 1461) (r3 := D) (i := D / 365) (r4 := D % 365) (by omega) (by omega) (by omega) (by omega) (by omega) (by omega) (by omega) (by omega) (by omega) (by omega) (by omega) (by omega) (by omega) (by omega)
  rw [← hN] at hh
  exact hh
end
section
open PySem PySem.W PyProof.Rows PySem.Spec PySem.Calls
structure MonthOf (N y m : Int) : Prop where
  lo : 1 ≤ m
  hi : m ≤ 12
  ge : jan y + cum (leapB y) m ≤ N
  lt : N < jan y + cum (leapB y) (m + 1)
theorem month_core {l : Bool} {Y a m : Int} (y0 : 0 ≤ Y) (y1 : Y < 365 + (if l then 1 else 0)) (h : (Y < 58 + (if l then 1 else 0) ∧ a = 0) ∨ (58 + (if l then 1 else 0) ≤ Y ∧ a = (if l then 1 else 2))) (hm : m = (12 * (Y + a) + 373) / 367) :
    1 ≤ m ∧ m ≤ 12 ∧ cum l m ≤ Y ∧ Y < cum l (m + 1) := by
  cases l
  all_goals simp only [Bool.false_eq_true, if_false, if_true] at *
  all_goals (
    have m1 : 1 ≤ m := by omega
    have m2 : m ≤ 12 := by omega
    refine ⟨m1, m2, ?_⟩
    have hh : m = 1 ∨ m = 2 ∨ m = 3 ∨ m = 4 ∨ m = 5 ∨ m = 6 ∨ m = 7 ∨ m = 8 ∨ m = 9 ∨ m = 10 ∨ m = 11 ∨ m = 12 := by omega
    rcases hh with e | e | e | e | e | e | e | e | e | e | e | e
    all_goals (
      rw [e] at hm
      subst e
      first
        | (show (_ : Int) ≤ Y ∧ Y < _; simp only [cum]; simp only [Bool.false_eq_true, if_false, if_true, Int.reduceEq, Int.reduceAdd]; omega)))
theorem month_a {N y D : Int} (hY : YearOf N y) (ha : N - jan y < 58 + (if leapB y = true then 1 else 0)) (hD : D = (N - jan y + 0) * 12 + 373) : MonthOf N y (D / 367) := by
  have hs := jan_succ y
  have h := month_core (l := leapB y) (Y := N - jan y) (a := 0) (m := D / 367) (by have := hY.ge; omega) (by have := hY.lt; omega) (.inl ⟨ha, rfl⟩) (by rw [hD]; congr 1; omega)
  exact ⟨h.1, h.2.1, by have := h.2.2.1; omega, by have := h.2.2.2; omega⟩
theorem month_b {N y D : Int} (hY : YearOf N y) (hl : leapB y = true) (ha : 58 + (if leapB y = true then 1 else 0) ≤ N - jan y) (hD : D = (N - jan y + 1) * 12 + 373) : MonthOf N y (D / 367) := by
  have hs := jan_succ y
  have h := month_core (l := leapB y) (Y := N - jan y) (a := 1) (m := D / 367) (by have := hY.ge; omega) (by have := hY.lt; omega) (.inr ⟨ha, by rw [hl]; rfl⟩) (by rw [hD]; congr 1; omega)
  exact ⟨h.1, h.2.1, by have := h.2.2.1; omega, by have := h.2.2.2; omega⟩
theorem month_c {N y D : Int} (hY : YearOf N y) (hl : leapB y = false) (ha : 58 + (if leapB y = true then 1 else 0) ≤ N - jan y) (hD : D = (N - jan y + 2) * 12 + 373) : MonthOf N y (D / 367) := by
  have hs := jan_succ y
  have h := month_core (l := leapB y) (Y := N - jan y) (a := 2) (m := D / 367) (by have := hY.ge; omega) (by have := hY.lt; omega) (.inr ⟨ha, by rw [hl]; rfl⟩) (by rw [hD]; congr 1; omega)
  exact ⟨h.1, h.2.1, by have := h.2.2.1; omega, by have := h.2.2.2; omega⟩
/-- the date that a day's number has -/
structure Civil (N y m d : Int) : Prop where
  y0 : 0 < y
  y1 : y < 20000
  m0 : 1 ≤ m
  m1 : m ≤ 12
  d0 : 1 ≤ d
  d1 : cum (leapB y) m + d ≤ cum (leapB y) (m + 1)
  num : N = jan y + cum (leapB y) m + d - 1
theorem civil_of {N y m c D : Int} (hY : YearOf N y) (hM : MonthOf N y m) (hc : c = cum (leapB y) m) (hD : 2 * N - 1 - (2 * (jan y + c) - 1) = 2 * D) : Civil N y m (D + 1) := by
  subst hc
  exact ⟨hY.lo, hY.hi, hM.lo, hM.hi, by have := hM.ge; omega, by have := hM.lt; omega, by omega⟩
end
section
open PySem PySem.W PyProof.Rows PySem.Spec PySem.Calls
section
open PySem PySem.W PyProof.Rows PySem.Spec PySem.Calls
abbrev Back3 (h₀ : Heap) (L : Addr) (m : Str → Option Value) (news : List (Addr × Obj)) (s : Shared) (Q : Value → Shared → Prop) (P : Int → Int → Int → Prop) : Prop :=
  ∀ (D : Addr) (y mo d : Int) (t1 t2 t3 : Tok) (c : Nat) (h' : Heap) (tk' : Nat), P y mo d → Fr h₀ L h' m → News h₀ L h' ((D, ({ cls := .type "tuple", data := .seq #[.int y t1, .int mo t2, .int d t3] c } : Obj)) :: news) → (∀ p ∈ news, p.1 < D) → Q (.ref D) { s with heap := h', toks := tk' }
abbrev Ctr3 (d : Nat) (f : Addr) (vs : List Value) (P : Int → Int → Int → Prop) : Prop :=
  ∀ (w : World) (mean : ExcName → Option Value) (mg mb : Str → Option Value) (dp un : Nat) (gd : Option (List Code)) (cn : Str) (cs : Scope) (a : Addr) (ccd : Value) (cl : List (Str × Addr)) (outer : List Env) (A₀ : Around) (base h₀ : Heap) (L : Addr) (m : Str → Option Value) (news : List (Addr × Obj)) (s : Shared) (Q : Value → Shared → Prop) (E : Value → Shared → Prop),
    Below A₀ base outer h₀ → Fr h₀ L s.heap m → (hd.heap_39 w.params).In h₀ → News h₀ L s.heap news → Top hd.view_39 (looseW hd.view_39 [Str.ofString "to_jd_gregorian", Str.ofString "from_jd_gregorian", Str.ofString "to_jd_iso", Str.ofString "from_jd_iso"]) mean mg mb h₀ → cs.kind = .function →
    dp + d < recursionLimit → un + 8 * d < cLine → Back3 h₀ L m news s Q P →
      wpAny (model PySem.Challenge.rw_bd6012_01.row.prog w) (ktrTop dp un gd cn cs L a ccd cl outer) (call (.ref f) vs) Q E s
theorem Ctr3.use {d : Nat} {f : Addr} {vs : List Value} {P : Int → Int → Int → Prop} (C : Ctr3 d f vs P) {w : World} {mean : ExcName → Option Value} {mg mb : Str → Option Value} {dp un : Nat} {gd : Option (List Code)} {cn : Str} {cs : Scope} {a : Addr} {ccd : Value} {cl : List (Str × Addr)} {outer : List Env} {A₀ : Around} {base h₀ : Heap} {L : Addr} {m : Str → Option Value} {news : List (Addr × Obj)} {s : Shared} {Q : Value → Shared → Prop} {E : Value → Shared → Prop}
    (B : Below A₀ base outer h₀) (F : Fr h₀ L s.heap m) (X : (hd.heap_39 w.params).In h₀) (N : News h₀ L s.heap news) (T : Top hd.view_39 (looseW hd.view_39 [Str.ofString "to_jd_gregorian", Str.ofString "from_jd_gregorian", Str.ofString "to_jd_iso", Str.ofString "from_jd_iso"]) mean mg mb h₀) (hk : cs.kind = .function)
    (hd : dp + d < recursionLimit) (hu : un + 8 * d < cLine) (hret : Back3 h₀ L m news s Q P) :
    wpAny (model PySem.Challenge.rw_bd6012_01.row.prog w) (ktrTop dp un gd cn cs L a ccd cl outer) (call (.ref f) vs) Q E s :=
  C w mean mg mb dp un gd cn cs a ccd cl outer A₀ base h₀ L m news s Q E B F X N T hk hd hu hret
end
end
section
open PySem PySem.W PyProof.Rows PySem.Spec PySem.Calls
theorem C_tojd1 {N : Int} {t u v : Tok} {y : Int} (hY : YearOf N y) : Ctr 6 116 [.int y t, .int 1 u, .int 1 v] fun v => ∃ z t, Half z (2 * jan y - 1) ∧ jan y ≤ N ∧ N < jan y + 365 + lp y ∧ 0 ≤ lp y ∧ lp y ≤ 1 ∧ -1099511627776 < jan y ∧ jan y < 1099511627776 ∧ v = .float z t := by
  unfold Ctr
  intro w mean mg mb dp un gd cn cs a ccd cl outer A₀ base h₀ L m news s Q E B F X N T hk hd hu hret
  obtain ⟨y1, y2, h1, h2⟩ := hY
  have jb := jan_bd (y := y) (by omega) (by omega)
  refine Ctr.use (C_tojd (y := y) (m := 1) (d := 1) (by omega) (by omega) (by omega) (by omega) (by omega)) B F X N T hk hd hu ?_
  intro v h' tk' P F' N'
  obtain ⟨z, t, hz, e⟩ := P
  refine hret v h' tk' ⟨z, t, half_to hz ?_, h1, ?_, by unfold lp; split <;> omega, by unfold lp; split <;> omega, jb.1, jb.2, e⟩ F' N'
  · rw [cum_1]; omega
  · rw [jan_succ] at h2; exact h2
section
open PySem PySem.W PyProof.Rows PySem.Spec PySem.Calls
def YJ (N : Int) (g : Heap) (L : Addr) (m : Str → Option Value) (news : List (Addr × Obj)) (s : Shared) (fl : Flow) (s' : Shared) : Prop :=
  fl = .next ∧ ∃ y t h' tk, s' = { s with heap := h', toks := tk } ∧ YearOf N y ∧ Fr g L h' (fun z => if z = Str.ofString "year" then some (.int y t) else m z) ∧ News g L h' news
theorem yj_end {N : Int} {g : Heap} {L : Addr} {m : Str → Option Value} {news : List (Addr × Obj)} {s : Shared} {y : Int} {t : Tok} {h' : Heap} {tk : Nat} (F : Fr g L h' (fun z => if z = Str.ofString "year" then some (.int y t) else m z)) (Nw : News g L h' news) (hY : YearOf N y) :
    YJ N g L m news s .next { s with heap := h', toks := tk } := ⟨rfl, y, t, h', tk, rfl, hY, F, Nw⟩
theorem yj_same {N : Int} {g : Heap} {L : Addr} {m : Str → Option Value} {news : List (Addr × Obj)} {s : Shared} {y : Int} {t : Tok} {h' : Heap} {tk : Nat} (F : Fr g L h' m) (hm : m (Str.ofString "year") = some (.int y t)) (Nw : News g L h' news) (hY : YearOf N y) :
    YJ N g L m news s .next { s with heap := h', toks := tk } := by
  refine yj_end (t := t) ?_ Nw hY
  have e : (fun z => if z = Str.ofString "year" then some (.int y t) else m z) = m := by
    funext z
    split
    · rename_i h; rw [h, hm]
    · rfl
  rw [e]; exact F
structure HalfW (z : UInt64) (n : Int) : Prop where
  out : Half z n
theorem join_year {prog : Program} {w : World} {A : Around} {E : Value → Shared → Prop} {s : Shared} {g : Heap} {L : Addr} {m : Str → Option Value} {news : List (Addr × Obj)} {N nw : Int} {zw : UInt64} {tw : Tok} {env : Env} {stmt : Stmt} {Q : Flow → Shared → Prop} (_hm : Mark N) (_F : Fr g L s.heap m) (_Nw : News g L s.heap news)
    (_hw : m (Str.ofString "wjd") = some (.float zw tw)) (hz : Half zw nw) (hn : nw = 2 * N - 1)
    (h1 : wpAny (model prog w) A (exec stmt env) (fun fl s' => YJ N g L m news s fl s') E s)
    (h2 : ∀ y t h' tk, YearOf N y → HalfW zw (2 * N - 1) → Fr g L h' (fun z => if z = Str.ofString "year" then some (.int y t) else m z) → News g L h' news → Q .next { s with heap := h', toks := tk }) : wpAny (model prog w) A (exec stmt env) Q E s :=
  wpAny_mono h1 (fun fl s' h => by
    obtain ⟨e, y, t, h', tk, e', hY, F, Nw⟩ := h
    subst e; subst e'
    exact h2 y t h' tk hY ⟨half_to hz hn⟩ F Nw) fun _ _ h => h
end
end
section
open PySem PySem.W PyProof.Rows PySem.Spec PySem.Calls
theorem C_tojdM {N : Int} {t u v : Tok} {y m : Int} (hM : MonthOf N y m) (y1 : 0 < y) (y2 : y < 20000) : Ctr 6 116 [.int y t, .int m u, .int 1 v] fun v => ∃ z t c, MonthOf N y m ∧ c = cum (leapB y) m ∧ 0 ≤ c ∧ c ≤ 366 ∧ Half z (2 * (jan y + c) - 1) ∧ v = .float z t := by
  unfold Ctr
  intro w mean mg mb dp un gd cn cs a ccd cl outer A₀ base h₀ L m' news s Q E B F X N T hk hd hu hret
  have hM' := hM
  obtain ⟨h1, h2, h3, h4⟩ := hM
  have cb := cum_bd (leapB y) m
  refine Ctr.use (C_tojd (y := y) (m := m) (d := 1) (by omega) (by omega) (by omega) (by omega) (by omega)) B F X N T hk hd hu ?_
  intro v h' tk' P F' N'
  obtain ⟨z, t, hz, e⟩ := P
  exact hret v h' tk' ⟨z, t, _, hM', rfl, cb.1, cb.2, half_to hz (by omega), e⟩ F' N'
end
section
open PySem PySem.W PyProof.Rows PySem.Spec PySem.Calls
local macro_rules | `(tactic| walk_at "zz0") => `(tactic| skip)
local macro_rules | `(tactic| walk_at "binaryOp Add float float") => `(tactic| (refine w_add_ff (by first | assumption | exact half_c05 | exact half_epoch) (by first | assumption | exact half_c05 | exact half_epoch) (by omega) (by omega) ?_; intro z9 hz9))
local macro_rules | `(tactic| walk_at "binaryOp Sub float float") => `(tactic| (refine w_sub_ff (by first | assumption | exact half_c05 | exact half_epoch) (by first | assumption | exact half_c05 | exact half_epoch) (by omega) (by omega) ?_; intro z9 hz9))
local macro_rules | `(tactic| walk_at "binaryOp Add float int") => `(tactic| (refine w_add_fi (by first | assumption | exact half_epoch) (by omega) (by omega) (by omega) (by omega) ?_; intro z9 hz9))
local macro_rules | `(tactic| walk_at "binaryOp Add int float") => `(tactic| (refine w_add_if (by first | assumption | exact half_c05) (by omega) (by omega) (by omega) (by omega) ?_; intro z9 hz9))
local macro_rules | `(tactic| walk_at "inplaceOp Add int float") => `(tactic| (refine w_iadd_if (by assumption) (by omega) (by omega) (by omega) (by omega) ?_; intro z9 hz9))
local macro_rules | `(tactic| walk_at "binaryOp Sub float int") => `(tactic| (refine w_sub_fi (by first | assumption | exact half_epoch) (by omega) (by omega) (by omega) (by omega) ?_; intro z9 hz9))
local macro_rules | `(tactic| walk_at "binaryOp Mult int float") => `(tactic| (refine w_mul_if (by assumption) (by omega) (by omega) (by omega) (by omega) ?_; intro z9 hz9))
local macro_rules | `(tactic| walk_at "binaryOp Mult float int") => `(tactic| (refine w_mul_fi (by assumption) (by omega) (by omega) (by omega) (by omega) ?_; intro z9 hz9))
local macro_rules | `(tactic| walk_at "binaryOp Div float int") => `(tactic| (refine w_div_fi (by assumption) (by omega) (by omega) (by omega) (by omega) (by omega) rfl ?_; intro D9 z9 hD9 hz9))
local macro_rules | `(tactic| walk_at "binaryOp Div int int") => `(tactic| (refine w_div_ii (by omega) (by omega) (by omega) (by omega) rfl ?_; intro z9 hz9))
local macro_rules | `(tactic| walk_at "binaryOp Mod float int") => `(tactic| (refine w_mod_fi (by assumption) (by omega) (by omega) (by omega) (by omega) rfl ?_; intro D9 z9 hD9 hz9))
local macro_rules | `(tactic| walk_at "binaryOp Mod int int") => `(tactic| (refine w_mod_ii (by omega) ?_))
local macro_rules | `(tactic| walk_at "binaryOp FloorDiv int int") => `(tactic| (refine w_floordiv_ii (by omega) (by omega) (by omega) (by omega) ?_))
local macro_rules | `(tactic| walk_at "call builtin:math.floor") => `(tactic| (refine w_floor (by first | assumption | exact flo_half (by assumption)) rfl ?_))
local macro_rules | `(tactic| walk_at "call builtin:math.trunc") => `(tactic| (refine w_trunc (by assumption) (by omega) rfl ?_; intro D9 hD9))
local macro_rules | `(tactic| walk_at "call type:int") => `(tactic| (refine w_int (by assumption) (by omega) rfl ?_; intro D9 hD9))
local macro_rules | `(tactic| walk_at "compareOp Lt float int") => `(tactic| (refine w_lt_fi (by assumption) ?_))
local macro_rules | `(tactic| walk_at "compareOp Eq float int") => `(tactic| (refine w_eq_fi (by assumption) ?_))
local macro_rules | `(tactic| walk_at "compareOp NotEq float float") => `(tactic| (refine w_ne_ff (by assumption) (by assumption) ?_))
local macro_rules | `(tactic| k_room) => `(tactic| ktr_room)
local macro_rules | `(tactic| k_units) => `(tactic| ktr_units)
local macro_rules | `(tactic| walk_at "binaryOp Div int int") => `(tactic| (refine w_div_12 (by omega) (by omega) rfl ?_))
local macro_rules | `(tactic| walk_at "binaryOp Add float int") => `(tactic| (first | refine w_add_12a (by omega) (by omega) ?_ | refine w_add_12b (by omega) (by omega) ?_))
local macro_rules | `(tactic| walk_at "call builtin:math.floor") => `(tactic| (refine w_floor (q12_floor (by omega) (by omega) (by omega) (by omega) (by omega)) rfl ?_))
local macro_rules | `(tactic| walk_at "eval Call") => `(tactic| ((with_reducible show wpAny _ _ (eval (Expr.Call (Expr.Name _ _) _ [] _) _) _ _ _); k_dflt (refine Call_ ?_)))
local macro_rules | `(tactic| walk_at "compareOp In int ref") => `(tactic| k_dflt (refine' w_in30 ?k1 ?k2 ?_; (case k1 => k_asm); (case k2 => k_asm); intro b9))
local macro_rules | `(tactic| walk_at "call ref") => `(tactic| k_dflt (refine' Ctr.use (C_isleap) ?k1 ?k2 ?k3 ?k4 ?k5 ?kK ?kd ?ku ?_; (case k1 => k_asm); (case k2 => k_asm); (case k3 => k_asm); (case k4 => k_asm); (case k5 => k_asm); (case kK => first | exact rfl | assumption); (case kd => ktr_room); (case ku => ktr_units); intro v9 h9 tk9 P9 F9 N9; have e9 : v9 = _ := P9; clear P9; subst e9; (try dsimp only); (try k_fold)))
local macro_rules | `(tactic| walk_at "call ref") => `(tactic| k_dflt (refine' Ctr.use (C_legal (by omega) (by omega)) ?k1 ?k2 ?k3 ?k4 ?k5 ?kK ?kd ?ku ?_; (case k1 => k_asm); (case k2 => k_asm); (case k3 => k_asm); (case k4 => k_asm); (case k5 => k_asm); (case kK => first | exact rfl | assumption); (case kd => ktr_room); (case ku => ktr_units); intro v9 h9 tk9 P9 F9 N9; have e9 : v9 = _ := P9; clear P9; subst e9; (try dsimp only); (try k_fold)))
local macro_rules | `(tactic| walk_at "call ref") => `(tactic| k_dflt (refine' Ctr.use (C_tojd (by omega) (by omega) (by omega) (by omega) (by omega)) ?k1 ?k2 ?k3 ?k4 ?k5 ?kK ?kd ?ku ?_; (case k1 => k_asm); (case k2 => k_asm); (case k3 => k_asm); (case k4 => k_asm); (case k5 => k_asm); (case kK => first | exact rfl | assumption); (case kd => ktr_room); (case ku => ktr_units); intro v9 h9 tk9 P9 F9 N9; obtain ⟨z9, _, hz9, e9⟩ := P9; subst e9; (try dsimp only); (try k_fold)))
local macro_rules | `(tactic| walk_at "call ref") => `(tactic| k_dflt (refine' Ctr.use (C_tojd1 (by assumption)) ?k1 ?k2 ?k3 ?k4 ?k5 ?kK ?kd ?ku ?_; (case k1 => k_asm); (case k2 => k_asm); (case k3 => k_asm); (case k4 => k_asm); (case k5 => k_asm); (case kK => first | exact rfl | assumption); (case kd => ktr_room); (case ku => ktr_units); intro v9 h9 tk9 P9 F9 N9; obtain ⟨z9, _, hz9, hj9, hj8, hj7, hj6, hj5, hj4, e9⟩ := P9; subst e9; (try dsimp only); (try k_fold)))
local macro_rules | `(tactic| walk_at "call ref") => `(tactic| k_dflt (refine' Ctr.use (C_tojdM (by first | exact month_a (by assumption) (by omega) (by omega) | exact month_b (by assumption) (by assumption) (by omega) (by omega) | exact month_c (by assumption) (by assumption) (by omega) (by omega)) (by omega) (by omega)) ?k1 ?k2 ?k3 ?k4 ?k5 ?kK ?kd ?ku ?_; (case k1 => k_asm); (case k2 => k_asm); (case k3 => k_asm); (case k4 => k_asm); (case k5 => k_asm); (case kK => first | exact rfl | assumption); (case kd => ktr_room); (case ku => ktr_units); intro v9 h9 tk9 P9 F9 N9; obtain ⟨z9, _, c9, hM9, hc9, hc8, hc7, hz9, e9⟩ := P9; subst e9; (try dsimp only); (try k_fold)))
local macro_rules | `(tactic| walk_at "exec If") => `(tactic| ((with_reducible show wpAny _ _ (exec (Stmt.If (Expr.UnaryOp _ (Expr.BoolOp _ _ _) _) _ _ _) _) _ _ _); (fail_if_success (with_reducible show wpAny _ _ _ (fun fl s' => YJ _ _ _ _ _ _ fl s') _ _)); k_dflt (refine' join_year ?k0 ?k1 ?k2 ?k3 ?k4 ?k5 ?_ ?_; (case k0 => assumption); (case k1 => k_asm); (case k2 => k_asm); (case k3 => exact rfl); (case k4 => assumption); (case k5 => omega)); rotate_left; (intro y9 t9 h9 tk9 hY9 hW9 F9 N9; have hy9 := hY9.lo; have hy8 := hY9.hi; (repeat (with_reducible rename Flo _ _ => hf9; clear hf9)); (repeat (with_reducible rename (_ : Int) = 2 * _ => hf9; clear hf9)); (repeat (with_reducible rename Half _ _ => hf9; clear hf9)); (have hz9 := hW9.out); (try dsimp only); try k_fold); rotate_left))
theorem C_fromjd {x : UInt64} {t : Tok} {N : Int} (hx : Half x (2 * N - 1)) (n1 : 1721426 ≤ N) (n2 : N ≤ 6000000) : Ctr3 20 123 [.float x t] fun y m d => Civil N y m d := by
  have hm : Mark N := ⟨⟩
  unfold Ctr3
  k_fill
  intro w mean mg mb dp un gd cn cs a ccd cl outer A₀ base h₀ L m news s Q E B F X N' T hk hd hu hret
  refine wpAny_call ?_
  k_dflt cell_enter
  k_steps
  all_goals (first
    | (refine yj_end (by assumption) (by assumption) ((year_law n1 n2 (by assumption) (by assumption) (by assumption) (by assumption) (by assumption) (by assumption) (by assumption)).2 (by assumption) (by assumption)))
    | (refine yj_same (by assumption) (by rfl) (by assumption) ((year_law n1 n2 (by assumption) (by assumption) (by assumption) (by assumption) (by assumption) (by assumption) (by assumption)).1 (by first | exact Or.inl (by assumption) | exact Or.inr (by assumption))))
    | (refine' hret _ _ _ _ _ _ _ _ _ _ ?eP ?eF ?eN ?eA; (case eF => k_asm); (case eN => k_asm); (case eA => assumption); (case eP => exact civil_of (by assumption) (by assumption) (by assumption) (by assumption))))
end
section
open PySem PySem.W PyProof.Rows PySem.Spec PySem.Calls
local macro_rules | `(tactic| walk_at "zz0") => `(tactic| skip)
local macro_rules | `(tactic| walk_at "zz1") => `(tactic| skip)
local macro_rules | `(tactic| walk_at "zz2") => `(tactic| skip)
local macro_rules | `(tactic| walk_at "zz3") => `(tactic| skip)
local macro_rules | `(tactic| walk_at "zz4") => `(tactic| skip)
local macro_rules | `(tactic| walk_at "zz5") => `(tactic| skip)
local macro_rules | `(tactic| walk_at "zz6") => `(tactic| skip)
local macro_rules | `(tactic| walk_at "zz7") => `(tactic| skip)
local macro_rules | `(tactic| walk_at "binaryOp Add float float") => `(tactic| (refine w_add_ff (by first | assumption | exact half_c05 | exact half_epoch) (by first | assumption | exact half_c05 | exact half_epoch) (by omega) (by omega) ?_; intro z9 hz9))
local macro_rules | `(tactic| walk_at "binaryOp Sub float float") => `(tactic| (refine w_sub_ff (by first | assumption | exact half_c05 | exact half_epoch) (by first | assumption | exact half_c05 | exact half_epoch) (by omega) (by omega) ?_; intro z9 hz9))
local macro_rules | `(tactic| walk_at "binaryOp Add float int") => `(tactic| (refine w_add_fi (by first | assumption | exact half_epoch) (by omega) (by omega) (by omega) (by omega) ?_; intro z9 hz9))
local macro_rules | `(tactic| walk_at "binaryOp Add int float") => `(tactic| (refine w_add_if (by first | assumption | exact half_c05) (by omega) (by omega) (by omega) (by omega) ?_; intro z9 hz9))
local macro_rules | `(tactic| walk_at "inplaceOp Add int float") => `(tactic| (refine w_iadd_if (by assumption) (by omega) (by omega) (by omega) (by omega) ?_; intro z9 hz9))
local macro_rules | `(tactic| walk_at "binaryOp Sub float int") => `(tactic| (refine w_sub_fi (by first | assumption | exact half_epoch) (by omega) (by omega) (by omega) (by omega) ?_; intro z9 hz9))
local macro_rules | `(tactic| walk_at "binaryOp Mult int float") => `(tactic| (refine w_mul_if (by assumption) (by omega) (by omega) (by omega) (by omega) ?_; intro z9 hz9))
local macro_rules | `(tactic| walk_at "binaryOp Mult float int") => `(tactic| (refine w_mul_fi (by assumption) (by omega) (by omega) (by omega) (by omega) ?_; intro z9 hz9))
local macro_rules | `(tactic| walk_at "binaryOp Div float int") => `(tactic| (refine w_div_fi (by assumption) (by omega) (by omega) (by omega) (by omega) (by omega) rfl ?_; intro D9 z9 hD9 hz9))
local macro_rules | `(tactic| walk_at "binaryOp Div int int") => `(tactic| (refine w_div_ii (by omega) (by omega) (by omega) (by omega) rfl ?_; intro z9 hz9))
local macro_rules | `(tactic| walk_at "binaryOp Mod float int") => `(tactic| (refine w_mod_fi (by assumption) (by omega) (by omega) (by omega) (by omega) rfl ?_; intro D9 z9 hD9 hz9))
local macro_rules | `(tactic| walk_at "binaryOp Mod int int") => `(tactic| (refine w_mod_ii (by omega) ?_))
local macro_rules | `(tactic| walk_at "binaryOp FloorDiv int int") => `(tactic| (refine w_floordiv_ii (by omega) (by omega) (by omega) (by omega) ?_))
local macro_rules | `(tactic| walk_at "call builtin:math.floor") => `(tactic| (refine w_floor (by first | assumption | exact flo_half (by assumption)) rfl ?_))
local macro_rules | `(tactic| walk_at "call builtin:math.trunc") => `(tactic| (refine w_trunc (by assumption) (by omega) rfl ?_; intro D9 hD9))
local macro_rules | `(tactic| walk_at "call type:int") => `(tactic| (refine w_int (by assumption) (by omega) rfl ?_; intro D9 hD9))
local macro_rules | `(tactic| walk_at "compareOp Lt float int") => `(tactic| (refine w_lt_fi (by assumption) ?_))
local macro_rules | `(tactic| walk_at "compareOp Eq float int") => `(tactic| (refine w_eq_fi (by assumption) ?_))
local macro_rules | `(tactic| walk_at "compareOp NotEq float float") => `(tactic| (refine w_ne_ff (by assumption) (by assumption) ?_))
local macro_rules | `(tactic| k_room) => `(tactic| ktr_room)
local macro_rules | `(tactic| k_units) => `(tactic| ktr_units)
local macro_rules | `(tactic| walk_at "binaryOp Div int int") => `(tactic| (refine w_div_12 (by omega) (by omega) rfl ?_))
local macro_rules | `(tactic| walk_at "binaryOp Add float int") => `(tactic| (first | refine w_add_12a (by omega) (by omega) ?_ | refine w_add_12b (by omega) (by omega) ?_))
local macro_rules | `(tactic| walk_at "call builtin:math.floor") => `(tactic| (refine w_floor (q12_floor (by omega) (by omega) (by omega) (by omega) (by omega)) rfl ?_))
local macro_rules | `(tactic| walk_at "eval Call") => `(tactic| ((with_reducible show wpAny _ _ (eval (Expr.Call (Expr.Name _ _) _ [] _) _) _ _ _); k_dflt (refine Call_ ?_)))
local macro_rules | `(tactic| walk_at "compareOp In int ref") => `(tactic| k_dflt (refine' w_in30 ?k1 ?k2 ?_; (case k1 => k_asm); (case k2 => k_asm); intro b9))
theorem jan_rows (y : Int) : 1721426 + 146097 * ((y - 1) / 400) + 365 * ((y - 1) % 400) + ((y - 1) % 400) / 4 - ((y - 1) % 400) / 100 = jan y := by
  have h1 : (y - 1) / 4 = 100 * ((y - 1) / 400) + ((y - 1) % 400) / 4 := by omega
  have h2 : (y - 1) / 100 = 4 * ((y - 1) / 400) + ((y - 1) % 400) / 100 := by omega
  unfold jan
  rw [h1, h2]
  omega
theorem C_ljan {t : Tok} {y : Int} (y1 : -268435456 < y) (y2 : y < 268435456) : Ctr 4 172 [.int y t] fun v => ∃ t j, j = jan y ∧ v = .int j t := by
  unfold Ctr
  k_fill
  intro w mean mg mb dp un gd cn cs a ccd cl outer A₀ base h₀ L m news s Q E B F X N T hk hd hu hret
  refine wpAny_call ?_
  k_dflt cell_enter
  k_steps
  all_goals (refine hret _ _ _ ?_ (by k_asm) (by first | k_asm | (refine' cb_drop ?cbN ?cbS; (case cbN => assumption); (case cbS => kcj_all))))
  all_goals (refine ⟨_, _, ?_, rfl⟩)
  all_goals (rw [← jan_rows y]; simp only [Int.fdiv_eq_ediv_of_nonneg _ (show (0 : Int) ≤ 400 by decide), Int.fdiv_eq_ediv_of_nonneg _ (show (0 : Int) ≤ 4 by decide), Int.fdiv_eq_ediv_of_nonneg _ (show (0 : Int) ≤ 100 by decide), Int.fmod_eq_emod_of_nonneg _ (show (0 : Int) ≤ 400 by decide)])
local macro_rules | `(tactic| walk_at "call ref") => `(tactic| k_dflt (refine' Ctr.use (C_ljan (by omega) (by omega)) ?k1 ?k2 ?k3 ?k4 ?k5 ?kK ?kd ?ku ?_; (case k1 => k_asm); (case k2 => k_asm); (case k3 => k_asm); (case k4 => k_asm); (case k5 => k_asm); (case kK => first | exact rfl | assumption); (case kd => ktr_room); (case ku => ktr_units); intro v9 h9 tk9 P9 F9 N9; obtain ⟨_, j9, hj9, e9⟩ := P9; subst e9; (try dsimp only); (try k_fold)))
theorem C_lmon {t : Tok} {y : Int} (y1 : -134217728 < y) (y2 : y < 134217728) : Ctr 8 179 [.int y t] fun v => ∃ t, v = .int (mon y) t := by
  have b1 := jan_bd (y := y) (by omega) (by omega)
  unfold Ctr
  k_fill
  intro w mean mg mb dp un gd cn cs a ccd cl outer A₀ base h₀ L m news s Q E B F X N T hk hd hu hret
  refine wpAny_call ?_
  k_dflt cell_enter
  k_steps
  all_goals (refine hret _ _ _ ?_ (by k_asm) (by k_asm))
  all_goals (refine ⟨_, congrArg (fun i => Value.int i _) (?_ : (_ : Int) = mon y)⟩)
  all_goals (unfold mon; subst_vars; rfl)
end
section
open PySem PySem.W PyProof.Rows PySem.Spec PySem.Calls
section
open PySem PySem.W PyProof.Rows PySem.Spec PySem.Calls
variable {prog : Program} {w : World} {A : Around} {E : Value → Shared → Prop} {Q : Flow → Shared → Prop} {s : Shared} {env : Env} {g : Heap} {L : Addr} {m : Str → Option Value} {news : List (Addr × Obj)}
/-- the end of a turn that stores one int -/
def W1 (P : Int → Prop) (μ : Int → Nat) (x : Str) (g : Heap) (L : Addr) (m : Str → Option Value) (news : List (Addr × Obj)) (s : Shared) (y : Int) (fl : Flow) (s' : Shared) : Prop :=
  fl = .next ∧ ∃ y' t' h' tk', s' = { s with heap := h', toks := tk' } ∧ P y' ∧ μ y' < μ y ∧ Fr g L h' (fun z => if z = x then some (.int y' t') else m z) ∧ News g L h' news
theorem map_one {x : Str} {m m' : Str → Option Value} {v : Value} (h1 : m' x = some v) (h2 : ∀ z, z ≠ x → m' z = m z) : (fun z => if z = x then some v else m z) = m' := by
  funext z
  split
  · rename_i h; rw [h, h1]
  · rename_i h; exact (h2 z h).symm
theorem w1_end {P : Int → Prop} {μ : Int → Nat} {x : Str} {y y' : Int} {t' : Tok} {h' : Heap} {tk' : Nat} {m' : Str → Option Value} {news' : List (Addr × Obj)} (F : Fr g L h' m') (N : News g L h' news') (hn : ∀ p ∈ news, p ∈ news') (h1 : m' x = some (.int y' t')) (h2 : ∀ z, z ≠ x → m' z = m z) (hP : P y') (hμ : μ y' < μ y) :
    W1 P μ x g L m news s y .next { s with heap := h', toks := tk' } :=
  ⟨rfl, y', t', h', tk', rfl, hP, hμ, by rw [map_one h1 h2]; exact F, fun p hp => N p (hn p hp)⟩
theorem while1 {test : Expr} {body : List Stmt} {pos : Pos} {x : Str} {y0 : Int} {t0 : Tok} (P : Int → Prop) (μ : Int → Nat) (F : Fr g L s.heap m) (N : News g L s.heap news) (hx : m x = some (.int y0 t0)) (hP : P y0)
    (hE : PassesOwn (model prog w) A env E)
    (turn : ∀ y t h tk, P y → Fr g L h (fun z => if z = x then some (.int y t) else m z) → News g L h news →
      wpAny (model prog w) A (isTrue test env (eval test env)) (fun b s₂ => if b = true then wpAny (model prog w) A (execs body env) (fun fl s₃ => W1 P μ x g L m news s y fl s₃) E s₂ else Q .next s₂) E { s with heap := h, toks := tk }) :
    wpAny (model prog w) A (exec (.While test body [] pos) env) Q E s := by
  refine While_inv2 (fun n m' nx => nx = news ∧ ∃ y t, m' = (fun z => if z = x then some (.int y t) else m z) ∧ P y ∧ μ y = n) F N ⟨rfl, y0, t0, ?_, hP, rfl⟩ ?_ hE
  · exact (map_one hx fun _ _ => rfl).symm
  · rintro n m₁ nx h tk F₁ N₁ ⟨rfl, y, t, rfl, hP', rfl⟩
    refine wpAny_mono (turn y t h tk hP' F₁ N₁) (fun b s₂ p => ?_) fun _ _ x => x
    cases b with
    | false => simpa using p
    | true =>
      simp only [if_true] at p ⊢
      refine wpAny_mono p (fun f s₃ q => ?_) fun _ _ x => x
      obtain ⟨e, y', t', h', tk', e', hP'', hμ, F', N'⟩ := q
      subst e; subst e'
      exact ⟨h', tk', _, _, _, rfl, F', N', hμ, rfl, y', t', rfl, hP'', rfl⟩
/-- the end of a turn that stores two ints -/
def W2 (P : Int → Int → Prop) (μ : Int → Int → Nat) (x x' : Str) (g : Heap) (L : Addr) (m : Str → Option Value) (news : List (Addr × Obj)) (s : Shared) (a b : Int) (fl : Flow) (s' : Shared) : Prop :=
  fl = .next ∧ ∃ a' b' t' u' h' tk', s' = { s with heap := h', toks := tk' } ∧ P a' b' ∧ μ a' b' < μ a b ∧ Fr g L h' (fun z => if z = x then some (.int a' t') else if z = x' then some (.int b' u') else m z) ∧ News g L h' news
theorem map_two {x x' : Str} {m m' : Str → Option Value} {v v' : Value} (h1 : m' x = some v) (h1' : m' x' = some v') (h2 : ∀ z, z ≠ x → z ≠ x' → m' z = m z) : (fun z => if z = x then some v else if z = x' then some v' else m z) = m' := by
  funext z
  split
  · rename_i h; rw [h, h1]
  · split
    · rename_i h; rw [h, h1']
    · rename_i h h'; exact (h2 z h h').symm
theorem w2_end {P : Int → Int → Prop} {μ : Int → Int → Nat} {x x' : Str} {a b a' b' : Int} {t' u' : Tok} {h' : Heap} {tk' : Nat} {m' : Str → Option Value} {news' : List (Addr × Obj)} (F : Fr g L h' m') (N : News g L h' news') (hn : ∀ p ∈ news, p ∈ news') (h1 : m' x = some (.int a' t')) (h1' : m' x' = some (.int b' u')) (h2 : ∀ z, z ≠ x → z ≠ x' → m' z = m z) (hP : P a' b') (hμ : μ a' b' < μ a b) :
    W2 P μ x x' g L m news s a b .next { s with heap := h', toks := tk' } :=
  ⟨rfl, a', b', t', u', h', tk', rfl, hP, hμ, by rw [map_two h1 h1' h2]; exact F, fun p hp => N p (hn p hp)⟩
theorem while2 {test : Expr} {body : List Stmt} {pos : Pos} {x x' : Str} {a0 b0 : Int} {t0 u0 : Tok} (P : Int → Int → Prop) (μ : Int → Int → Nat) (F : Fr g L s.heap m) (N : News g L s.heap news) (hx : m x = some (.int a0 t0)) (hx' : m x' = some (.int b0 u0)) (hP : P a0 b0)
    (hE : PassesOwn (model prog w) A env E)
    (turn : ∀ a b t u h tk, P a b → Fr g L h (fun z => if z = x then some (.int a t) else if z = x' then some (.int b u) else m z) → News g L h news →
      wpAny (model prog w) A (isTrue test env (eval test env)) (fun c s₂ => if c = true then wpAny (model prog w) A (execs body env) (fun fl s₃ => W2 P μ x x' g L m news s a b fl s₃) E s₂ else Q .next s₂) E { s with heap := h, toks := tk }) :
    wpAny (model prog w) A (exec (.While test body [] pos) env) Q E s := by
  refine While_inv2 (fun n m' nx => nx = news ∧ ∃ a b t u, m' = (fun z => if z = x then some (.int a t) else if z = x' then some (.int b u) else m z) ∧ P a b ∧ μ a b = n) F N ⟨rfl, a0, b0, t0, u0, ?_, hP, rfl⟩ ?_ hE
  · exact (map_two hx hx' fun _ _ _ => rfl).symm
  · rintro n m₁ nx h tk F₁ N₁ ⟨rfl, a, b, t, u, rfl, hP', rfl⟩
    refine wpAny_mono (turn a b t u h tk hP' F₁ N₁) (fun c s₂ p => ?_) fun _ _ x => x
    cases c with
    | false => simpa using p
    | true =>
      simp only [if_true] at p ⊢
      refine wpAny_mono p (fun f s₃ q => ?_) fun _ _ x => x
      obtain ⟨e, a', b', t', u', h', tk', e', hP'', hμ, F', N'⟩ := q
      subst e; subst e'
      exact ⟨h', tk', _, _, _, rfl, F', N', hμ, rfl, a', b', t', u', rfl, hP'', rfl⟩
end
end
section
open PySem PySem.W PyProof.Rows PySem.Spec PySem.Calls
structure MarkD (near N : Int) : Prop where
  lo : jan (near - 1) ≤ N
  hi : N < jan (near + 2)
  n0 : 2 ≤ near
  n1 : near ≤ 9000
def PD (near y : Int) : Prop := near - 1 ≤ y ∧ y ≤ near
def MD (near y : Int) : Nat := (y - near + 1).toNat
def PU (near N y : Int) : Prop := jan y ≤ N ∧ near - 1 ≤ y ∧ y ≤ near + 1
def MU (near y : Int) : Nat := (near + 1 - y).toNat
theorem pd_step {near N y j : Int} (hm : MarkD near N) (hP : PD near y) (hj : j = jan y) (hgt : N < j) : PD near (y - 1) ∧ MD near (y - 1) < MD near y := by
  have h1 := hP.1
  have h2 := hP.2
  have hlo := hm.lo
  have : y ≠ near - 1 := fun e => by rw [e] at hj; omega
  unfold PD MD
  omega
theorem pu_step {near N y j : Int} (hm : MarkD near N) (hP : PU near N y) (hj : j = jan (y + 1)) (hle : j ≤ N) : PU near N (y + 1) ∧ MU near (y + 1) < MU near y := by
  have h1 := hP.2.1
  have h2 := hP.2.2
  have hhi := hm.hi
  have : y ≠ near + 1 := fun e => by rw [e, show near + 1 + 1 = near + 2 by omega] at hj; omega
  unfold PU MU
  omega
section
open PySem PySem.W PyProof.Rows PySem.Spec PySem.Calls
variable {prog : Program} {w : World} {A : Around} {E : Value → Shared → Prop} {Q : Flow → Shared → Prop} {s : Shared} {env : Env} {g : Heap} {L : Addr} {m : Str → Option Value} {news : List (Addr × Obj)}
theorem while_down {near N : Int} (_hm : MarkD near N) {test : Expr} {body : List Stmt} {pos : Pos} {y0 : Int} {t0 : Tok} (F : Fr g L s.heap m) (N' : News g L s.heap news) (hx : m (Str.ofString "year") = some (.int y0 t0)) (hP : PD near y0)
    (hE : PassesOwn (model prog w) A env E)
    (turn : ∀ y t h tk, PD near y → near - 1 ≤ y → y ≤ near → Fr g L h (fun z => if z = Str.ofString "year" then some (.int y t) else m z) → News g L h news →
      wpAny (model prog w) A (isTrue test env (eval test env)) (fun b s₂ => if b = true then wpAny (model prog w) A (execs body env) (fun fl s₃ => W1 (PD near) (MD near) (Str.ofString "year") g L m news s y fl s₃) E s₂ else Q .next s₂) E { s with heap := h, toks := tk }) :
    wpAny (model prog w) A (exec (.While test body [] pos) env) Q E s :=
  while1 (PD near) (MD near) F N' hx hP hE fun y t h tk hP => turn y t h tk hP hP.1 hP.2
theorem while_up {near N : Int} (_hm : MarkD near N) {test : Expr} {body : List Stmt} {pos : Pos} {y0 : Int} {t0 : Tok} (F : Fr g L s.heap m) (N' : News g L s.heap news) (hx : m (Str.ofString "year") = some (.int y0 t0)) (hP : PU near N y0)
    (hE : PassesOwn (model prog w) A env E)
    (turn : ∀ y t h tk, PU near N y → jan y ≤ N → near - 1 ≤ y → y ≤ near + 1 → Fr g L h (fun z => if z = Str.ofString "year" then some (.int y t) else m z) → News g L h news →
      wpAny (model prog w) A (isTrue test env (eval test env)) (fun b s₂ => if b = true then wpAny (model prog w) A (execs body env) (fun fl s₃ => W1 (PU near N) (MU near) (Str.ofString "year") g L m news s y fl s₃) E s₂ else Q .next s₂) E { s with heap := h, toks := tk }) :
    wpAny (model prog w) A (exec (.While test body [] pos) env) Q E s :=
  while1 (PU near N) (MU near) F N' hx hP hE fun y t h tk hP => turn y t h tk hP hP.1 hP.2.1 hP.2.2
end
end
section
open PySem PySem.W PyProof.Rows PySem.Spec PySem.Calls
theorem lb1 {y : Int} (h : y % 4 = 0) (h' : y % 100 ≠ 0) : (y % 100 != 0) = leapB y := by unfold leapB; simp [h, h']
theorem lb2 {y : Int} (h : y % 4 = 0) (h' : y % 100 = 0) : (y % 400 == 0) = leapB y := by unfold leapB; rw [Bool.eq_iff_iff]; simp [h, h']
theorem lb3 {y : Int} (h : y % 4 ≠ 0) : (y % 4 == 0) = leapB y := by unfold leapB; simp [h]
def PM (N y r mo : Int) : Prop := 1 ≤ mo ∧ mo ≤ 12 ∧ 0 ≤ r ∧ r + cum (leapB y) mo = N - jan y
def MM (_ mo : Int) : Nat := (13 - mo).toNat
theorem pm_step {N y r mo : Int} (hY : YearOf N y) (hP : PM N y r mo) (h : cum (leapB y) (mo + 1) - cum (leapB y) mo ≤ r) : PM N y (r - (cum (leapB y) (mo + 1) - cum (leapB y) mo)) (mo + 1) ∧ MM (r - (cum (leapB y) (mo + 1) - cum (leapB y) mo)) (mo + 1) < MM r mo := by
  obtain ⟨h1, h2, h3, h4⟩ := hP
  have h5 : mo ≠ 12 := fun e => by
    subst e
    have h6 := jan_succ y
    have h7 := hY.lt
    have h8 : cum (leapB y) (12 + 1) = 365 + (if leapB y then 1 else 0) := by cases leapB y <;> rfl
    rw [h8] at h
    omega
  unfold PM MM
  omega
theorem pm_end {N y r mo : Int} (hY : YearOf N y) (hP : PM N y r mo) (h : ¬ cum (leapB y) (mo + 1) - cum (leapB y) mo ≤ r) : Civil N y mo (r + 1) := by
  obtain ⟨h1, h2, h3, h4⟩ := hP
  exact ⟨hY.lo, hY.hi, h1, h2, by omega, by omega, by omega⟩
theorem sizes_getD (l : Bool) {mo : Int} (m0 : 1 ≤ mo) (m1 : mo ≤ 12) : ([31, if l = true then 29 else 28, 31, 30, 31, 30, 31, 31, 30, 31, 30, 31] : List Int).getD (mo - 1).toNat 0 = cum l (mo + 1) - cum l mo := by
  have hh : mo = 1 ∨ mo = 2 ∨ mo = 3 ∨ mo = 4 ∨ mo = 5 ∨ mo = 6 ∨ mo = 7 ∨ mo = 8 ∨ mo = 9 ∨ mo = 10 ∨ mo = 11 ∨ mo = 12 := by omega
  rcases hh with rfl | rfl | rfl | rfl | rfl | rfl | rfl | rfl | rfl | rfl | rfl | rfl <;> cases l <;> rfl
theorem pm_stepD {N y r mo : Int} (hY : YearOf N y) (hP : PM N y r mo) (h : ([31, if leapB y = true then 29 else 28, 31, 30, 31, 30, 31, 31, 30, 31, 30, 31] : List Int).getD (mo - 1).toNat 0 ≤ r) : PM N y (r - ([31, if leapB y = true then 29 else 28, 31, 30, 31, 30, 31, 31, 30, 31, 30, 31] : List Int).getD (mo - 1).toNat 0) (mo + 1) ∧ MM (r - ([31, if leapB y = true then 29 else 28, 31, 30, 31, 30, 31, 31, 30, 31, 30, 31] : List Int).getD (mo - 1).toNat 0) (mo + 1) < MM r mo := by
  rw [sizes_getD _ hP.1 hP.2.1] at h ⊢
  exact pm_step hY hP h
theorem pm_endD {N y r mo : Int} (hY : YearOf N y) (hP : PM N y r mo) (h : ¬ ([31, if leapB y = true then 29 else 28, 31, 30, 31, 30, 31, 31, 30, 31, 30, 31] : List Int).getD (mo - 1).toNat 0 ≤ r) : Civil N y mo (r + 1) := by
  rw [sizes_getD _ hP.1 hP.2.1] at h
  exact pm_end hY hP h
theorem of_allLt {d : Nat} : ∀ {l : List (PySem.Addr × PySem.Obj)}, PySem.W.AllLt d l → ∀ p ∈ l, p.1 < d
  | [], _, _, h => nomatch h
  | _ :: _, h, p, hp => by
    rcases List.mem_cons.mp hp with rfl | hp
    · exact h.1
    · exact of_allLt h.2 p hp
section
open PySem PySem.W PyProof.Rows PySem.Spec PySem.Calls
variable {prog : Program} {w : World} {A : Around} {E : Value → Shared → Prop} {s : Shared} {env : Env} {g : Heap} {L : Addr} {m : Str → Option Value} {news : List (Addr × Obj)}
theorem while_months {N y r0 : Int} {ty tr tm : Tok} {Q : Flow → Shared → Prop} (_hm : Mark N) {test : Expr} {body : List Stmt} {pos : Pos} (F : Fr g L s.heap m) (N' : News g L s.heap news) (_hy : m (Str.ofString "year") = some (.int y ty)) (hr : m (Str.ofString "rest") = some (.int r0 tr)) (hmo : m (Str.ofString "month") = some (.int 1 tm))
    (hY : YearOf N y) (e : r0 = N - jan y) (hE : PassesOwn (model prog w) A env E)
    (turn : ∀ a b t u h tk, PM N y a b → 1 ≤ b → b ≤ 12 → YearOf N y → Fr g L h (fun z => if z = Str.ofString "rest" then some (.int a t) else if z = Str.ofString "month" then some (.int b u) else m z) → News g L h news →
      wpAny (model prog w) A (isTrue test env (eval test env)) (fun c s₂ => if c = true then wpAny (model prog w) A (execs body env) (fun fl s₃ => W2 (PM N y) MM (Str.ofString "rest") (Str.ofString "month") g L m news s a b fl s₃) E s₂ else Q .next s₂) E { s with heap := h, toks := tk }) :
    wpAny (model prog w) A (exec (.While test body [] pos) env) Q E s :=
  while2 (PM N y) MM F N' hr hmo ⟨by omega, by omega, by have := hY.ge; omega, by rw [cum_1]; omega⟩ hE fun a b t u h tk hP => turn a b t u h tk hP hP.1 hP.2.1 hY
def LJ (y : Int) (g : Heap) (L : Addr) (m : Str → Option Value) (news : List (Addr × Obj)) (s : Shared) (fl : Flow) (s' : Shared) : Prop :=
  fl = .next ∧ ∃ h' tk, s' = { s with heap := h', toks := tk } ∧ Fr g L h' (fun z => if z = Str.ofString "long" then some (.bool (leapB y)) else m z) ∧ News g L h' news
theorem lj_end {y : Int} {b : Bool} {h' : Heap} {tk : Nat} (F : Fr g L h' (fun z => if z = Str.ofString "long" then some (.bool b) else m z)) (N : News g L h' news) (e : b = leapB y) : LJ y g L m news s .next { s with heap := h', toks := tk } := by
  subst e
  exact ⟨rfl, h', tk, rfl, F, N⟩
theorem join_long {y : Int} {ty : Tok} {stmt : Stmt} {Q : Flow → Shared → Prop} (_F : Fr g L s.heap m) (_N : News g L s.heap news) (_hy : m (Str.ofString "year") = some (.int y ty))
    (h1 : wpAny (model prog w) A (exec stmt env) (fun fl s' => LJ y g L m news s fl s') E s)
    (h2 : ∀ h' tk, Fr g L h' (fun z => if z = Str.ofString "long" then some (.bool (leapB y)) else m z) → News g L h' news → Q .next { s with heap := h', toks := tk }) : wpAny (model prog w) A (exec stmt env) Q E s :=
  wpAny_mono h1 (fun fl s' h => by
    obtain ⟨e, h', tk, e', F, Nw⟩ := h
    subst e; subst e'
    exact h2 h' tk F Nw) fun _ _ h => h
theorem ite_const {M : Model} {b : Bool} {a c : Int} {k k' : Nat} {p p' : Pos} {Q : Value → Shared → Prop} (h : Q (.int (if b = true then a else c) s.toks) { s with toks := s.toks + 1 }) :
    if b = true then wpAny M A (eval (.Constant (.int a) k p) env) Q E s else wpAny M A (eval (.Constant (.int c) k' p') env) Q E s := by
  cases b
  · simp only [Bool.false_eq_true, if_false] at h ⊢; exact wpAny_Constant_int h
  · simp only [if_true] at h ⊢; exact wpAny_Constant_int h
end
end
section
open PySem PySem.W PyProof.Rows PySem.Spec PySem.Calls
local macro_rules | `(tactic| walk_at "zz0") => `(tactic| skip)
local macro_rules | `(tactic| walk_at "zz1") => `(tactic| skip)
local macro_rules | `(tactic| walk_at "zz2") => `(tactic| skip)
local macro_rules | `(tactic| walk_at "zz3") => `(tactic| skip)
local macro_rules | `(tactic| walk_at "binaryOp Add float float") => `(tactic| (refine w_add_ff (by first | assumption | exact half_c05 | exact half_epoch) (by first | assumption | exact half_c05 | exact half_epoch) (by omega) (by omega) ?_; intro z9 hz9))
local macro_rules | `(tactic| walk_at "binaryOp Sub float float") => `(tactic| (refine w_sub_ff (by first | assumption | exact half_c05 | exact half_epoch) (by first | assumption | exact half_c05 | exact half_epoch) (by omega) (by omega) ?_; intro z9 hz9))
local macro_rules | `(tactic| walk_at "binaryOp Add float int") => `(tactic| (refine w_add_fi (by first | assumption | exact half_epoch) (by omega) (by omega) (by omega) (by omega) ?_; intro z9 hz9))
local macro_rules | `(tactic| walk_at "binaryOp Add int float") => `(tactic| (refine w_add_if (by first | assumption | exact half_c05) (by omega) (by omega) (by omega) (by omega) ?_; intro z9 hz9))
local macro_rules | `(tactic| walk_at "inplaceOp Add int float") => `(tactic| (refine w_iadd_if (by assumption) (by omega) (by omega) (by omega) (by omega) ?_; intro z9 hz9))
local macro_rules | `(tactic| walk_at "binaryOp Sub float int") => `(tactic| (refine w_sub_fi (by first | assumption | exact half_epoch) (by omega) (by omega) (by omega) (by omega) ?_; intro z9 hz9))
local macro_rules | `(tactic| walk_at "binaryOp Mult int float") => `(tactic| (refine w_mul_if (by assumption) (by omega) (by omega) (by omega) (by omega) ?_; intro z9 hz9))
local macro_rules | `(tactic| walk_at "binaryOp Mult float int") => `(tactic| (refine w_mul_fi (by assumption) (by omega) (by omega) (by omega) (by omega) ?_; intro z9 hz9))
local macro_rules | `(tactic| walk_at "binaryOp Div float int") => `(tactic| (refine w_div_fi (by assumption) (by omega) (by omega) (by omega) (by omega) (by omega) rfl ?_; intro D9 z9 hD9 hz9))
local macro_rules | `(tactic| walk_at "binaryOp Div int int") => `(tactic| (refine w_div_ii (by omega) (by omega) (by omega) (by omega) rfl ?_; intro z9 hz9))
local macro_rules | `(tactic| walk_at "binaryOp Mod float int") => `(tactic| (refine w_mod_fi (by assumption) (by omega) (by omega) (by omega) (by omega) rfl ?_; intro D9 z9 hD9 hz9))
local macro_rules | `(tactic| walk_at "binaryOp Mod int int") => `(tactic| (refine w_mod_ii (by omega) ?_))
local macro_rules | `(tactic| walk_at "binaryOp FloorDiv int int") => `(tactic| (refine w_floordiv_ii (by omega) (by omega) (by omega) (by omega) ?_))
local macro_rules | `(tactic| walk_at "call builtin:math.floor") => `(tactic| (refine w_floor (by first | assumption | exact flo_half (by assumption)) rfl ?_))
local macro_rules | `(tactic| walk_at "call builtin:math.trunc") => `(tactic| (refine w_trunc (by assumption) (by omega) rfl ?_; intro D9 hD9))
local macro_rules | `(tactic| walk_at "call type:int") => `(tactic| (refine w_int (by assumption) (by omega) rfl ?_; intro D9 hD9))
local macro_rules | `(tactic| walk_at "compareOp Lt float int") => `(tactic| (refine w_lt_fi (by assumption) ?_))
local macro_rules | `(tactic| walk_at "compareOp Eq float int") => `(tactic| (refine w_eq_fi (by assumption) ?_))
local macro_rules | `(tactic| walk_at "compareOp NotEq float float") => `(tactic| (refine w_ne_ff (by assumption) (by assumption) ?_))
local macro_rules | `(tactic| k_room) => `(tactic| ktr_room)
local macro_rules | `(tactic| k_units) => `(tactic| ktr_units)
local macro_rules | `(tactic| walk_at "binaryOp Div int int") => `(tactic| (refine w_div_12 (by omega) (by omega) rfl ?_))
local macro_rules | `(tactic| walk_at "binaryOp Add float int") => `(tactic| (first | refine w_add_12a (by omega) (by omega) ?_ | refine w_add_12b (by omega) (by omega) ?_))
local macro_rules | `(tactic| walk_at "call builtin:math.floor") => `(tactic| (refine w_floor (q12_floor (by omega) (by omega) (by omega) (by omega) (by omega)) rfl ?_))
local macro_rules | `(tactic| walk_at "eval Call") => `(tactic| ((with_reducible show wpAny _ _ (eval (Expr.Call (Expr.Name _ _) _ [] _) _) _ _ _); k_dflt (refine Call_ ?_)))
local macro_rules | `(tactic| walk_at "compareOp In int ref") => `(tactic| k_dflt (refine' w_in30 ?k1 ?k2 ?_; (case k1 => k_asm); (case k2 => k_asm); intro b9))
local macro_rules | `(tactic| walk_at "call ref") => `(tactic| k_dflt (refine' Ctr.use (C_ljan (by omega) (by omega)) ?k1 ?k2 ?k3 ?k4 ?k5 ?kK ?kd ?ku ?_; (case k1 => k_asm); (case k2 => k_asm); (case k3 => k_asm); (case k4 => k_asm); (case k5 => k_asm); (case kK => first | exact rfl | assumption); (case kd => ktr_room); (case ku => ktr_units); intro v9 h9 tk9 P9 F9 N9; obtain ⟨_, j9, hj9, e9⟩ := P9; subst e9; (try dsimp only); (try k_fold)))
local macro_rules | `(tactic| walk_at "exec While Compare cons nil") => `(tactic| ((with_reducible show wpAny _ _ (exec (Stmt.While (Expr.Compare _ [CmpOp.Gt] _ _) _ _ _) _) _ _ _); k_dflt (refine' while_down ?k0 ?k1 ?k2 ?k3 ?k4 ?k5 ?_; (case k0 => assumption); (case k1 => k_asm); (case k2 => k_asm); (case k3 => exact rfl); (case k4 => (unfold PD; omega)); (case k5 => with_unfolding_all passes_own)); (intro y9 t9 h9 tk9 hP9 hp9 hp8 F9 N9; (try dsimp only); try k_fold)))
local macro_rules | `(tactic| walk_at "exec While Compare cons nil") => `(tactic| ((with_reducible show wpAny _ _ (exec (Stmt.While (Expr.Compare _ [CmpOp.LtE] _ _) _ _ _) _) _ _ _); k_dflt (refine' while_up ?k0 ?k1 ?k2 ?k3 ?k4 ?k5 ?_; (case k0 => assumption); (case k1 => k_asm); (case k2 => k_asm); (case k3 => exact rfl); (case k4 => (unfold PU; omega)); (case k5 => with_unfolding_all passes_own)); (intro y9 t9 h9 tk9 hP9 hp7 hp9 hp8 F9 N9; (try dsimp only); try k_fold)))
local macro_rules | `(tactic| walk_at "exec While Compare cons nil") => `(tactic| ((with_reducible show wpAny _ _ (exec (Stmt.While (Expr.Compare _ [CmpOp.GtE] _ _) _ _ _) _) _ _ _); k_dflt (refine' while_months ?k0 ?k1 ?k2 ?k3 ?k4 ?k5 ?k6 ?k7 ?k8 ?_; (case k0 => assumption); (case k1 => k_asm); (case k2 => k_asm); (case k3 => exact rfl); (case k4 => exact rfl); (case k5 => exact rfl); (case k6 => exact ⟨by omega, by omega, by omega, by omega⟩); (case k7 => omega); (case k8 => with_unfolding_all passes_own)); (intro r9 o9 t9 u9 h9 tk9 hP9 hp9 hp8 hp7 F9 N9; (try dsimp only); try k_fold)))
local macro_rules | `(tactic| walk_at "exec Assign") => `(tactic| ((with_reducible show wpAny _ _ (exec (Stmt.Assign [Expr.Name (Str.ofString "long") _] _ _) _) _ _ _); (fail_if_success (with_reducible show wpAny _ _ _ (fun fl s' => LJ _ _ _ _ _ _ fl s') _ _)); k_dflt (refine' join_long ?k1 ?k2 ?k3 ?_ ?_; (case k1 => k_asm); (case k2 => k_asm); (case k3 => exact rfl)); rotate_left; (intro h9 tk9 F9 N9; (try dsimp only); try k_fold); rotate_left))
local macro_rules | `(tactic| walk_at "ite") => `(tactic| (with_reducible refine ite_const ?_))
theorem C_ldate {t u : Tok} {N near : Int} (hm : MarkD near N) : Ctr3 10 186 [.int N t, .int near u] fun y m d => Civil N y m d := by
  have hmN : Mark N := ⟨⟩
  have n0 := hm.n0
  have n1 := hm.n1
  unfold Ctr3
  k_fill
  intro w mean mg mb dp un gd cn cs a ccd cl outer A₀ base h₀ L m news s Q E B F X N' T hk hd hu hret
  refine wpAny_call ?_
  k_dflt cell_enter
  k_steps
  all_goals (first
    | (refine w1_end (by assumption) (by assumption) (fun _ h => h) (by rfl) (by intro z h1; simp only [if_neg h1]) (pd_step hm (by assumption) (by assumption) (by assumption)).1 (pd_step hm (by assumption) (by assumption) (by assumption)).2)
    | (refine w1_end (by assumption) (by assumption) (fun _ h => h) (by rfl) (by intro z h1; simp only [if_neg h1]) (pu_step hm (by assumption) (by assumption) (by assumption)).1 (pu_step hm (by assumption) (by assumption) (by assumption)).2)
    | (refine lj_end (by assumption) (by assumption) (by first | exact lb1 (by assumption) (by assumption) | exact lb2 (by assumption) (by assumption) | exact lb3 (by assumption)))
    | (refine w2_end (by assumption) (by assumption) (fun _ h => h) (by rfl) (by rfl) (by intro z h1 h2; simp only [if_neg h1, if_neg h2]) (pm_stepD (by assumption) (by assumption) (by assumption)).1 (pm_stepD (by assumption) (by assumption) (by assumption)).2)
    | (refine' hret _ _ _ _ _ _ _ _ _ _ ?eP ?eF ?eN ?eA; (case eF => k_asm); (case eN => first | k_asm | (refine' cb_drop ?cbN ?cbS; (case cbN => assumption); (case cbS => kcj_all))); (case eA => exact of_allLt (And.right (by assumption))); (case eP => exact pm_endD (by assumption) (by assumption) (by assumption))))
end
section
open PySem PySem.W PyProof.Rows PySem.Spec PySem.Calls
section
open PySem PySem.W PyProof.Rows PySem.Spec PySem.Calls PySem.Builtin PySem.Builtin._datetime PySem.Builtin.Time
theorem sub_date_date : isSubtype (.type "datetime.date") (.type "datetime.date") = pure true := by rw [isSubtype_type]; kernel_rfl
theorem sub_date_dt : isSubtype (.type "datetime.date") (.type "datetime.datetime") = pure false := by rw [isSubtype_type]; kernel_rfl
theorem mro_date : mroOf (.type "datetime.date") = pure [.type "datetime.date", .type "object"] := by rw [mroOf_type]; kernel_rfl
theorem lookup_date_new : typeLookup (.type "datetime.date") "__new__" = pure (some (.builtin "datetime.date.__new__")) := by rw [typeLookup_type, builtinLookup_eq_fast]; kernel_rfl
theorem slot_date_init : Slot "datetime.date" "__init__" "object.__init__" :=
  .of (owner := "object") (n := "__init__") (by rw [typeLookup_type, builtinLookup_eq_fast]; kernel_rfl) (by decide +kernel) (by decide +kernel) (by decide +kernel)
    (by first | exact .inl (by decide +kernel) | exact .inr (by decide +kernel)) (by rw [isSubtype_type]; kernel_rfl)
theorem called_date : TypeCalled "datetime.date" "datetime.date.__new__" "object.__init__" :=
  ⟨by decide +kernel, by decide +kernel, ⟨_, _, mro_date⟩, madeBy_type mro_date lookup_date_new (by decide +kernel), by decide +kernel, sub_date_date, slot_date_init⟩
theorem typeCall_date (a b c : Value) : checkTypeCall "datetime.date" ⟨[a, b, c], []⟩ = pure () := by kernel_rfl
theorem newCall_date (a b c : Value) : checkBuiltinCall "datetime.date.__new__" ⟨[.type "datetime.date", a, b, c], []⟩ = pure () := by kernel_rfl
theorem entry_date_new : entryFor table "datetime.date.__new__" = some Builtin.«datetime.date.__new__» := entryFor_of_tree (by kernel_rfl)
theorem newNe_date : (some "datetime.date.__new__" != some "object.__new__") = true := by decide +kernel
theorem args_init_4 (o a b c : Value) : argsOk "object.__init__" ⟨[o, a, b, c], []⟩ := by
  unfold argsOk; rw [signature?_of (id := "object.__init__") (n := ['_', '_', 't', 'i', 'n', 'i', '_', '_']) (o := ['t', 'c', 'e', 'j', 'b', 'o']) (by kernel_rfl) F.owner_object]; kernel_rfl
theorem w_dtCInt {M : Model} {A : Around} {E : Value → Shared → Prop} {s : Shared} {i : Int} {t : Tok} {Q : Int → Shared → Prop} (h1 : 0 ≤ i) (h2 : i < 20000) (h : Q i s) : wpAny M A (dtCInt (.int i t)) Q E s := by
  unfold dtCInt asIndex
  refine wpAny_bind (wpAny_bind (wpAny_pure (wpAny_pure ?_)))
  try dsimp only
  rw [if_neg (by simp only [Bool.or_eq_true, decide_eq_true_eq]; omega)]
  try dsimp only
  rw [if_neg (by omega)]
  try dsimp only
  rw [if_neg (by omega)]
  exact wpAny_pure h
theorem w_checkDate {M : Model} {A : Around} {E : Value → Shared → Prop} {s : Shared} {y m d : Int} {Q : Unit → Shared → Prop} (y0 : 1 ≤ y) (y1 : y ≤ 9999) (m0 : 1 ≤ m) (m1 : m ≤ 12) (d0 : 1 ≤ d) (d1 : d ≤ daysInMonth y m) (h : Q () s) : wpAny M A (checkDate y m d) Q E s := by
  unfold checkDate
  rw [if_neg (by simp only [Bool.or_eq_true, decide_eq_true_eq]; omega)]
  try dsimp only
  rw [if_neg (by simp only [Bool.or_eq_true, decide_eq_true_eq]; omega)]
  try dsimp only
  rw [if_neg (by simp only [Bool.or_eq_true, decide_eq_true_eq]; omega)]
  exact wpAny_pure h
theorem date_new_meets {y m d : Int} (t u v : Tok) (y0 : 1 ≤ y) (y1 : y ≤ 9999) (m0 : 1 ≤ m) (m1 : m ≤ 12) (d0 : 1 ≤ d) (d1 : d ≤ daysInMonth y m) (d2 : d ≤ 31) :
    Meets (Builtin.«datetime.date.__new__» ⟨[.type "datetime.date", .int y t, .int m u, .int d v], []⟩)
      (fun _ R s => R (.ok (.ret (.ref s.heap.objs.size))) { s with heap := s.heap.push { cls := .type "datetime.date", data := .fields #[rawInt y, rawInt m, rawInt d] } }) :=
  .of_wp fun prog w A R s hs => by
    obtain ⟨hp, g, dr, tk, os⟩ := s
    have f1 := sub_date_date
    have f2 := sub_date_dt
    wp_walk using w_dtCInt (i := y) (by omega) (by omega), w_dtCInt (i := m) (by omega) (by omega), w_dtCInt (i := d) (by omega) (by omega), w_checkDate y0 y1 m0 m1 d0 d1
    exact ⟨_, rfl, hs⟩
theorem call_date {prog : Program} {w : World} {A : Around} {E : Value → Shared → Prop} {s : Shared} {y m d : Int} {t u v : Tok} {Q : Value → Shared → Prop} (y0 : 1 ≤ y) (y1 : y ≤ 9999) (m0 : 1 ≤ m) (m1 : m ≤ 12) (d0 : 1 ≤ d) (d1 : d ≤ daysInMonth y m) (d2 : d ≤ 31)
    (h : Q (.ref s.heap.objs.size) { s with heap := s.heap.push { cls := .type "datetime.date", data := .fields #[rawInt y, rawInt m, rawInt d] } }) :
    wpAny (model prog w) A (call (.type "datetime.date") [.int y t, .int m u, .int d v]) Q E s :=
  callType_new called_date newNe_date (typeCall_date _ _ _) (newCall_date _ _ _) (fun obj => args_init_4 obj _ _ _) entry_date_new (date_new_meets t u v y0 y1 m0 m1 d0 d1 d2)
    ⟨⟨_, Heap.get?_push_size _ rfl, rfl⟩, h⟩
end
end
section
open PySem PySem.W PyProof.Rows PySem.Spec PySem.Calls
section
open PySem PySem.W PyProof.Rows PySem.Spec PySem.Calls PySem.Builtin PySem.Builtin._datetime PySem.Builtin.Time
abbrev dateObj (y m d : Int) : Obj := { cls := .type "datetime.date", data := .fields #[rawInt y, rawInt m, rawInt d] }
abbrev isoObj (y k d : Int) (t u v : Tok) : Obj := { cls := .type "datetime.IsoCalendarDate", data := .seq #[.int y t, .int k u, .int d v] }
theorem plainAttrs_date : PlainAttrs "datetime.date" :=
  ⟨⟨"object.__getattribute__", by rw [typeLookup_type, builtinLookup_eq_fast]; kernel_rfl, by decide +kernel⟩, by rw [typeLookup_type, builtinLookup_eq_fast]; kernel_rfl⟩
theorem slot_date_iso : Slot "datetime.date" "isocalendar" "datetime.date.isocalendar" :=
  .of (owner := "datetime.date") (n := "isocalendar") (by rw [typeLookup_type, builtinLookup_eq_fast]; kernel_rfl) (by decide +kernel) (by decide +kernel) (by decide +kernel)
    (by first | exact .inl (by decide +kernel) | exact .inr (by decide +kernel)) (by rw [isSubtype_type]; kernel_rfl)
theorem type_date_iso : typeOf (.builtin "datetime.date.isocalendar") = pure (.type "method_descriptor") := by show builtinType _ = _; rw [builtinType_eq_fast]; kernel_rfl
theorem entry_date_iso : entryFor table "datetime.date.isocalendar" = some Builtin.«datetime.date.isocalendar» := entryFor_of_tree (by kernel_rfl)
theorem args_date_iso (a : Value) : argsOk "datetime.date.isocalendar" ⟨[a], []⟩ := by unfold argsOk; kernel_rfl
theorem iso_meets {D : Addr} {y m d iy iw iD : Int} (hi : isoCalendarOf y m d = (iy, iw, iD)) :
    Meets (Builtin.«datetime.date.isocalendar» ⟨[.ref D], []⟩)
      (fun _ R s => s.heap.get? D = some (dateObj y m d) ∧ R (.ok (.ret (.ref s.heap.objs.size))) { s with heap := s.heap.push (isoObj iy iw iD s.toks (s.toks + 1) (s.toks + 1 + 1)), toks := s.toks + 1 + 1 + 1 }) :=
  .of_wp fun prog w A R s hs => by
    obtain ⟨hp, g, dr, tk, os⟩ := s
    obtain ⟨ho, hs⟩ := hs
    have f1 := sub_date_date
    have hT : (⟨hp, g, dr, tk, os⟩ : Shared).TypeIs (.ref D) "datetime.date" := ⟨_, ho, rfl⟩
    wp_walk
    refine ⟨_, rfl, ?_⟩
    rw [hi]
    exact hs
theorem slot_iso_ne : Slot "datetime.IsoCalendarDate" (cmpInfo .NotEq).2.1 "tuple.__ne__" :=
  .of (owner := "tuple") (n := "__ne__") (by rw [typeLookup_type, builtinLookup_eq_fast]; kernel_rfl) (by decide +kernel) (by decide +kernel) (by decide +kernel)
    (by first | exact .inl (by decide +kernel) | exact .inr (by decide +kernel)) (by rw [isSubtype_type]; kernel_rfl)
theorem sub_tuple_iso : isSubtype (.type "tuple") (.type "datetime.IsoCalendarDate") = pure false := by rw [isSubtype_type]; kernel_rfl
theorem iso_ne_meets {I T : Addr} {a b c : Int} {t1 t2 t3 u1 u2 u3 : Tok} {n : Nat} :
    Meets (Builtin.«tuple.__ne__» ⟨[.ref I, .ref T], []⟩)
      (fun _ R s => s.heap.get? I = some (isoObj a b c t1 t2 t3) ∧ s.heap.get? T = some { cls := .type "tuple", data := .seq #[.int a u1, .int b u2, .int c u3] n } ∧ R (.ok (.ret (.bool false))) s) :=
  .of_wp fun prog w A R s hs => by
    obtain ⟨hp, g, dr, tk, os⟩ := s
    obtain ⟨hl, hb, hs⟩ := hs
    have f2 := AutoSeq1.sub_tuple_tuple
    have q1 : ∀ (x : Int) (t u : Tok) (E : Value → Shared → Prop) (Q : Bool → Shared → Prop), Q true ⟨hp, g, dr, tk, os⟩ → wpAny (model prog w) A.in1 (eqBool (.int x t) (.int x u)) Q E ⟨hp, g, dr, tk, os⟩ := fun x t u E Q h =>
      SeqAt.EqAt.int_int (A := A.in1) x t x u prog w E Q (by rw [beq_self_eq_true]; exact h)
    wp_walk using AutoSeq1.wpAny_loadPart' hl, AutoSeq1.wpAny_loadPart' hb, q1
    exact ⟨_, rfl, hs⟩
section
variable {prog : Program} {w : World} {A : Around} {E : Value → Shared → Prop} {s : Shared} {h₀ : Heap} {L : Addr} {m : Str → Option Value} {news : List (Addr × Obj)} {Q : Value → Shared → Prop}
theorem news_below (N : News h₀ L s.heap news) : ∀ p ∈ news, p.1 < s.heap.objs.size := fun p hp => Heap.lt_size (N p hp).1
theorem w_date {y mo d : Int} {t u v : Tok} (F : Fr h₀ L s.heap m) (N : News h₀ L s.heap news) (y0 : 1 ≤ y) (y1 : y ≤ 9999) (m0 : 1 ≤ mo) (m1 : mo ≤ 12) (d0 : 1 ≤ d) (d1 : d ≤ daysInMonth y mo) (d2 : d ≤ 31)
    (h : ∀ D h', Fr h₀ L h' m → News h₀ L h' ((D, dateObj y mo d) :: news) → (∀ p ∈ news, p.1 < D) → Q (.ref D) { s with heap := h' }) :
    wpAny (model prog w) A (call (.type "datetime.date") [.int y t, .int mo u, .int d v]) Q E s :=
  call_date y0 y1 m0 m1 d0 d1 d2 (h _ _ (F.push _) (N.push F _) (news_below N))
theorem w_getiso {D : Addr} {y mo d : Int} {pl : Sem Bool} {Q : Value × List Value → Shared → Prop} (N : News h₀ L s.heap news) (hm : (D, dateObj y mo d) ∈ news)
    (h : Q (.builtin "datetime.date.isocalendar", [.ref D]) s) : wpAny (model prog w) A (getMethod (.ref D) "isocalendar" pl) Q E s :=
  getMethod_builtin ⟨_, (N _ hm).1, rfl⟩ plainAttrs_date slot_date_iso type_date_iso (fun a e => by cases e; exact ⟨_, (N _ hm).1, rfl⟩) h
theorem w_iso {D : Addr} {y mo d iy iw iD : Int} (F : Fr h₀ L s.heap m) (N : News h₀ L s.heap news) (hm : (D, dateObj y mo d) ∈ news) (hi : isoCalendarOf y mo d = (iy, iw, iD))
    (h : ∀ I t1 t2 t3 h' tk', Fr h₀ L h' m → News h₀ L h' ((I, isoObj iy iw iD t1 t2 t3) :: news) → (∀ p ∈ news, p.1 < I) → Q (.ref I) { s with heap := h', toks := tk' }) :
    wpAny (model prog w) A (call (.builtin "datetime.date.isocalendar") [.ref D]) Q E s :=
  call_meets slot_date_iso ⟨_, (N _ hm).1, rfl⟩ entry_date_iso (args_date_iso _) (iso_meets hi) ⟨(N _ hm).1, h _ _ _ _ _ _ (F.push _) (N.push F _) (news_below N)⟩
theorem w_iso_ne {I T : Addr} {a b c a' b' c' : Int} {t1 t2 t3 u1 u2 u3 : Tok} {n : Nat} (hu : A.units < cLine) (N : News h₀ L s.heap news) (hI : (I, isoObj a b c t1 t2 t3) ∈ news) (hT : (T, ({ cls := .type "tuple", data := .seq #[.int a' u1, .int b' u2, .int c' u3] n } : Obj)) ∈ news)
    (ea : a = a') (eb : b = b') (ec : c = c') (h : Q (.bool false) s) : wpAny (model prog w) A (compareOp .NotEq (.ref I) (.ref T)) Q E s := by
  subst ea; subst eb; subst ec
  refine cmp_ofNotEq ?_
  have gI := (N _ hI).1
  have gT := (N _ hT).1
  exact SeqAt.rc_left_or (op := .NotEq) ⟨_, gI, rfl⟩ ⟨_, gT, rfl⟩ (by decide) sub_tuple_iso slot_iso_ne
    (call_meets slot_iso_ne ⟨_, gI, rfl⟩ F.entry_tuple_ne (F.args_tuple_ne_2 _ _) iso_ne_meets ⟨gI, gT, nofun, h⟩) (.inr hu)
end
end
end
section
open PySem PySem.W PyProof.Rows PySem.Spec PySem.Calls
section
open PySem.Builtin._datetime PySem.Builtin.Time
theorem jan_lt_succ (y : Int) : jan y + 365 ≤ jan (y + 1) := by rw [jan_succ]; split <;> omega
theorem jan_add (y : Int) : ∀ n : Nat, jan y + 365 * n ≤ jan (y + n)
  | 0 => by simp
  | n + 1 => by
    have h1 := jan_add y n
    have h2 := jan_lt_succ (y + n)
    have e : y + ((n + 1 : Nat) : Int) = y + n + 1 := by omega
    rw [e]; omega
theorem jan_mono {a b : Int} (h : a ≤ b) : jan a + 365 * (b - a) ≤ jan b := by
  have h1 := jan_add a (b - a).toNat
  have e : a + ((b - a).toNat : Int) = b := by omega
  rw [e] at h1
  omega
theorem cum_mono_all : ∀ l : Bool, ∀ i j : Fin 13, i ≤ j → cum l ((i.val : Int) + 1) ≤ cum l ((j.val : Int) + 1) := by decide +kernel
theorem cum_mono (l : Bool) {a b : Int} (h0 : 1 ≤ a) (h : a ≤ b) (h1 : b ≤ 13) : cum l a ≤ cum l b := by
  have q := cum_mono_all l ⟨(a - 1).toNat, by omega⟩ ⟨(b - 1).toNat, by omega⟩ (by show (a - 1).toNat ≤ (b - 1).toNat; omega)
  have e1 : (((a - 1).toNat : Nat) : Int) + 1 = a := by omega
  have e2 : (((b - 1).toNat : Nat) : Int) + 1 = b := by omega
  simp only [e1, e2] at q
  exact q
theorem cum_13 (l : Bool) : cum l 13 = 365 + (if l then 1 else 0) := by cases l <;> rfl
theorem civil_year {N y m d : Int} (h : Civil N y m d) : jan y ≤ N ∧ N < jan (y + 1) := by
  have h1 := cum_bd (leapB y) m
  have h2 := cum_mono (leapB y) (a := m + 1) (b := 13) (by have := h.m0; omega) (by have := h.m1; omega) (by omega)
  have h3 := h.num
  have h4 := h.d0
  have h5 := h.d1
  have h6 := cum_13 (leapB y)
  have h7 := jan_succ y
  omega
theorem year_one {N y y' : Int} (h : jan y ≤ N ∧ N < jan (y + 1)) (h' : jan y' ≤ N ∧ N < jan (y' + 1)) : y = y' := by
  rcases Int.lt_trichotomy y y' with q | q | q
  · have := jan_mono (a := y + 1) (b := y') (by omega); omega
  · exact q
  · have := jan_mono (a := y' + 1) (b := y) (by omega); omega
theorem civil_one {N y m d y' m' d' : Int} (h : Civil N y m d) (h' : Civil N y' m' d') : y = y' ∧ m = m' ∧ d = d' := by
  have e := year_one (civil_year h) (civil_year h')
  subst e
  have n1 := h.num
  have n2 := h'.num
  have a1 := h.d0
  have a2 := h'.d0
  have b1 := h.d1
  have b2 := h'.d1
  have em : m = m' := by
    rcases Int.lt_trichotomy m m' with q | q | q
    · have := cum_mono (leapB y) (a := m + 1) (b := m') (by have := h.m0; omega) (by omega) (by have := h'.m1; omega); omega
    · exact q
    · have := cum_mono (leapB y) (a := m' + 1) (b := m) (by have := h'.m0; omega) (by omega) (by have := h.m1; omega); omega
  subst em
  exact ⟨rfl, rfl, by omega⟩
theorem leap_time (y : Int) : timeIsLeap y = leapB y := by
  unfold timeIsLeap leapB
  rw [Bool.eq_iff_iff]
  simp
theorem before_cum (l : Bool) {m : Int} (m0 : 1 ≤ m) (m1 : m ≤ 12) : timeDaysBefore l m = cum l m := by
  have h : m = 1 ∨ m = 2 ∨ m = 3 ∨ m = 4 ∨ m = 5 ∨ m = 6 ∨ m = 7 ∨ m = 8 ∨ m = 9 ∨ m = 10 ∨ m = 11 ∨ m = 12 := by omega
  rcases h with rfl | rfl | rfl | rfl | rfl | rfl | rfl | rfl | rfl | rfl | rfl | rfl <;> cases l <;> rfl
theorem days_cum (y : Int) {m : Int} (m0 : 1 ≤ m) (m1 : m ≤ 12) : daysInMonth y m = cum (leapB y) (m + 1) - cum (leapB y) m := by
  have e := leap_time y
  unfold daysInMonth
  rw [e]
  have h : m = 1 ∨ m = 2 ∨ m = 3 ∨ m = 4 ∨ m = 5 ∨ m = 6 ∨ m = 7 ∨ m = 8 ∨ m = 9 ∨ m = 10 ∨ m = 11 ∨ m = 12 := by omega
  rcases h with rfl | rfl | rfl | rfl | rfl | rfl | rfl | rfl | rfl | rfl | rfl | rfl <;> cases leapB y <;> rfl
theorem ord_civil {N y m d : Int} (h : Civil N y m d) : toOrdinal y m d = N - 1721425 := by
  unfold toOrdinal
  rw [leap_time, before_cum _ h.m0 h.m1, h.num]
  unfold jan
  simp only
  omega
theorem monday_is (y : Int) : isoWeek1Monday y = mon y - 1721425 := by
  have e : toOrdinal y 1 1 = jan y - 1721425 := by
    unfold toOrdinal
    rw [leap_time, before_cum _ (by omega) (by omega), cum_1]
    unfold jan
    simp only
    omega
  unfold isoWeek1Monday weekdayOf mon
  simp only
  rw [e]
  split <;> omega
theorem mon_near (y : Int) : jan y - 3 ≤ mon y ∧ mon y ≤ jan y + 3 ∧ mon y % 7 = 0 := by unfold mon; omega
theorem iso_law {N y m d near place kept : Int} (h : Civil N y m d) (hN : N = mon near + 7 * (place - 1) + kept - 1) (p0 : 1 ≤ place) (p1 : place ≤ wks near) (k0 : 1 ≤ kept) (k1 : kept ≤ 7) : isoCalendarOf y m d = (near, place, kept) := by
  have hy := civil_year h
  have w := wks_mon near
  have q1 := mon_near near
  have q2 := mon_near (near + 1)
  have c : y = near - 1 ∨ y = near ∨ y = near + 1 := by
    by_cases q : y < near - 1
    · have := jan_mono (a := y + 1) (b := near) (by omega); omega
    · by_cases q' : near + 1 < y
      · have := jan_mono (a := near + 1) (b := y) (by omega); omega
      · omega
  unfold isoCalendarOf
  simp only [ord_civil h, monday_is, Int.fdiv_eq_ediv_of_nonneg _ (show (0 : Int) ≤ 7 by decide), Int.fmod_eq_emod_of_nonneg _ (show (0 : Int) ≤ 7 by decide)]
  rcases c with c | c | c
  · subst c
    have w2 := wks_mon (near - 1)
    have w3 := wks_bd (near - 1)
    have q3 := mon_near (near - 1)
    rw [Int.sub_add_cancel] at w2 hy
    rw [if_neg (by omega), if_pos (by
      simp only [Bool.and_eq_true, decide_eq_true_eq]
      rw [Int.sub_add_cancel]
      omega)]
    refine Prod.ext ?_ (Prod.ext ?_ ?_) <;> (try dsimp only) <;> omega
  · subst c
    have q3 := mon_near y
    rw [if_neg (by omega), if_neg (by
      simp only [Bool.and_eq_true, decide_eq_true_eq]
      omega)]
    refine Prod.ext ?_ (Prod.ext ?_ ?_) <;> (try dsimp only) <;> omega
  · subst c
    rw [if_pos (by omega)]
    refine Prod.ext ?_ (Prod.ext ?_ ?_) <;> (try dsimp only) <;> (try rw [Int.add_sub_cancel]) <;> omega
end
end
section
open PySem PySem.W PyProof.Rows PySem.Spec PySem.Calls
section
open PySem PySem.W PyProof.Rows PySem.Spec PySem.Calls PySem.Builtin PySem.Builtin._datetime PySem.Builtin.Time
structure MarkI (near place kept N : Int) : Prop where
  num : N = mon near + 7 * (place - 1) + kept - 1
  n0 : 2 ≤ near
  n1 : near ≤ 9000
  p0 : 1 ≤ place
  p1 : place ≤ wks near
  k0 : 1 ≤ kept
  k1 : kept ≤ 7
theorem mi_bd {near place kept N : Int} (h : MarkI near place kept N) : 1721426 ≤ N ∧ N < 5100000 ∧ jan (near - 1) ≤ N ∧ N < jan (near + 2) := by
  obtain ⟨h1, h2, h3, h4, h5, h6, h7⟩ := h
  have a1 := mon_near near
  have a2 := mon_near (near + 1)
  have a3 := wks_mon near
  have b1 := jan_mono (a := 2) (b := near) (by omega)
  have b2 := jan_mono (a := near + 1) (b := 9001) (by omega)
  have b3 : jan 2 = 1721791 := by decide
  have b4 : jan 9001 = 5008608 := by decide
  have c1 := jan_mono (a := near - 1) (b := near) (by omega)
  have c2 := jan_mono (a := near + 1) (b := near + 2) (by omega)
  omega
theorem mi_civil {near place kept N y m d : Int} (h : MarkI near place kept N) (hC : Civil N y m d) : 1 ≤ y ∧ y ≤ 9999 := by
  have hb := mi_bd h
  have hy := civil_year hC
  refine ⟨by have := hC.y0; omega, ?_⟩
  by_cases q : y ≤ 9999
  · exact q
  · have b2 := jan_mono (a := 9001) (b := y) (by omega)
    have b4 : jan 9001 = 5008608 := by decide
    omega
theorem cum_31_all : ∀ l : Bool, ∀ i : Fin 12, cum l ((i.val : Int) + 1 + 1) - cum l ((i.val : Int) + 1) ≤ 31 := by decide +kernel
theorem cum_31 (l : Bool) {m : Int} (m0 : 1 ≤ m) (m1 : m ≤ 12) : cum l (m + 1) - cum l m ≤ 31 := by
  have q := cum_31_all l ⟨(m - 1).toNat, by omega⟩
  have e1 : (((m - 1).toNat : Nat) : Int) + 1 = m := by omega
  simp only [e1] at q
  exact q
theorem mi_iso {near place kept N y m d : Int} (h : MarkI near place kept N) (hC : Civil N y m d) : isoCalendarOf y m d = (near, place, kept) :=
  iso_law hC h.num h.p0 h.p1 h.k0 h.k1
variable {prog : Program} {w : World} {A : Around} {E : Value → Shared → Prop} {s : Shared} {h₀ : Heap} {L : Addr} {m : Str → Option Value} {news : List (Addr × Obj)} {Q : Value → Shared → Prop}
theorem w_dateC {near place kept N y mo d : Int} {t u v : Tok} (hI : MarkI near place kept N) (hC : Civil N y mo d) (F : Fr h₀ L s.heap m) (N' : News h₀ L s.heap news)
    (h : ∀ D h', Fr h₀ L h' m → News h₀ L h' ((D, dateObj y mo d) :: news) → (∀ p ∈ news, p.1 < D) → Q (.ref D) { s with heap := h' }) :
    wpAny (model prog w) A (call (.type "datetime.date") [.int y t, .int mo u, .int d v]) Q E s := by
  have c := cum_31 (leapB y) hC.m0 hC.m1
  have c2 := hC.d1
  exact w_date F N' (mi_civil hI hC).1 (mi_civil hI hC).2 hC.m0 hC.m1 hC.d0 (by rw [days_cum y hC.m0 hC.m1]; omega) (by omega) h
theorem w_isoC {near place kept N y mo d : Int} {D : Addr} (hI : MarkI near place kept N) (hC : Civil N y mo d) (F : Fr h₀ L s.heap m) (N' : News h₀ L s.heap news) (hm : (D, dateObj y mo d) ∈ news)
    (h : ∀ I t1 t2 t3 h' tk', Fr h₀ L h' m → News h₀ L h' ((I, isoObj near place kept t1 t2 t3) :: news) → (∀ p ∈ news, p.1 < I) → Q (.ref I) { s with heap := h', toks := tk' }) :
    wpAny (model prog w) A (call (.builtin "datetime.date.isocalendar") [.ref D]) Q E s :=
  w_iso F N' hm (mi_iso hI hC) h
end
end
section
open PySem PySem.W PyProof.Rows PySem.Spec PySem.Calls
section
open PySem PySem.W PyProof.Rows PySem.Spec PySem.Calls
abbrev BackI (h₀ : Heap) (L : Addr) (m : Str → Option Value) (news : List (Addr × Obj)) (s : Shared) (Q : Value → Shared → Prop) (a b c : Int) : Prop :=
  ∀ (D : Addr) (t1 t2 t3 : Tok) (h' : Heap) (tk' : Nat), Fr h₀ L h' m → News h₀ L h' ((D, isoObj a b c t1 t2 t3) :: news) → (∀ p ∈ news, p.1 < D) → Q (.ref D) { s with heap := h', toks := tk' }
abbrev CtrI (d : Nat) (f : Addr) (vs : List Value) (a' b' c' : Int) : Prop :=
  ∀ (w : World) (mean : ExcName → Option Value) (mg mb : Str → Option Value) (dp un : Nat) (gd : Option (List Code)) (cn : Str) (cs : Scope) (a : Addr) (ccd : Value) (cl : List (Str × Addr)) (outer : List Env) (A₀ : Around) (base h₀ : Heap) (L : Addr) (m : Str → Option Value) (news : List (Addr × Obj)) (s : Shared) (Q : Value → Shared → Prop) (E : Value → Shared → Prop),
    Below A₀ base outer h₀ → Fr h₀ L s.heap m → (hd.heap_39 w.params).In h₀ → News h₀ L s.heap news → Top hd.view_39 (looseW hd.view_39 [Str.ofString "to_jd_gregorian", Str.ofString "from_jd_gregorian", Str.ofString "to_jd_iso", Str.ofString "from_jd_iso"]) mean mg mb h₀ → cs.kind = .function →
    dp + d < recursionLimit → un + 8 * d < cLine → BackI h₀ L m news s Q a' b' c' →
      wpAny (model PySem.Challenge.rw_bd6012_01.row.prog w) (ktrTop dp un gd cn cs L a ccd cl outer) (call (.ref f) vs) Q E s
theorem CtrI.use {d : Nat} {f : Addr} {vs : List Value} {a' b' c' : Int} (C : CtrI d f vs a' b' c') {w : World} {mean : ExcName → Option Value} {mg mb : Str → Option Value} {dp un : Nat} {gd : Option (List Code)} {cn : Str} {cs : Scope} {a : Addr} {ccd : Value} {cl : List (Str × Addr)} {outer : List Env} {A₀ : Around} {base h₀ : Heap} {L : Addr} {m : Str → Option Value} {news : List (Addr × Obj)} {s : Shared} {Q : Value → Shared → Prop} {E : Value → Shared → Prop}
    (B : Below A₀ base outer h₀) (F : Fr h₀ L s.heap m) (X : (hd.heap_39 w.params).In h₀) (N : News h₀ L s.heap news) (T : Top hd.view_39 (looseW hd.view_39 [Str.ofString "to_jd_gregorian", Str.ofString "from_jd_gregorian", Str.ofString "to_jd_iso", Str.ofString "from_jd_iso"]) mean mg mb h₀) (hk : cs.kind = .function)
    (hd : dp + d < recursionLimit) (hu : un + 8 * d < cLine) (hret : BackI h₀ L m news s Q a' b' c') :
    wpAny (model PySem.Challenge.rw_bd6012_01.row.prog w) (ktrTop dp un gd cn cs L a ccd cl outer) (call (.ref f) vs) Q E s :=
  C w mean mg mb dp un gd cn cs a ccd cl outer A₀ base h₀ L m news s Q E B F X N T hk hd hu hret
end
end
section
open PySem PySem.W PyProof.Rows PySem.Spec PySem.Calls
local macro_rules | `(tactic| walk_at "zz0") => `(tactic| skip)
local macro_rules | `(tactic| walk_at "binaryOp Add float float") => `(tactic| (refine w_add_ff (by first | assumption | exact half_c05 | exact half_epoch) (by first | assumption | exact half_c05 | exact half_epoch) (by omega) (by omega) ?_; intro z9 hz9))
local macro_rules | `(tactic| walk_at "binaryOp Sub float float") => `(tactic| (refine w_sub_ff (by first | assumption | exact half_c05 | exact half_epoch) (by first | assumption | exact half_c05 | exact half_epoch) (by omega) (by omega) ?_; intro z9 hz9))
local macro_rules | `(tactic| walk_at "binaryOp Add float int") => `(tactic| (refine w_add_fi (by first | assumption | exact half_epoch) (by omega) (by omega) (by omega) (by omega) ?_; intro z9 hz9))
local macro_rules | `(tactic| walk_at "binaryOp Add int float") => `(tactic| (refine w_add_if (by first | assumption | exact half_c05) (by omega) (by omega) (by omega) (by omega) ?_; intro z9 hz9))
local macro_rules | `(tactic| walk_at "inplaceOp Add int float") => `(tactic| (refine w_iadd_if (by assumption) (by omega) (by omega) (by omega) (by omega) ?_; intro z9 hz9))
local macro_rules | `(tactic| walk_at "binaryOp Sub float int") => `(tactic| (refine w_sub_fi (by first | assumption | exact half_epoch) (by omega) (by omega) (by omega) (by omega) ?_; intro z9 hz9))
local macro_rules | `(tactic| walk_at "binaryOp Mult int float") => `(tactic| (refine w_mul_if (by assumption) (by omega) (by omega) (by omega) (by omega) ?_; intro z9 hz9))
local macro_rules | `(tactic| walk_at "binaryOp Mult float int") => `(tactic| (refine w_mul_fi (by assumption) (by omega) (by omega) (by omega) (by omega) ?_; intro z9 hz9))
local macro_rules | `(tactic| walk_at "binaryOp Div float int") => `(tactic| (refine w_div_fi (by assumption) (by omega) (by omega) (by omega) (by omega) (by omega) rfl ?_; intro D9 z9 hD9 hz9))
local macro_rules | `(tactic| walk_at "binaryOp Div int int") => `(tactic| (refine w_div_ii (by omega) (by omega) (by omega) (by omega) rfl ?_; intro z9 hz9))
local macro_rules | `(tactic| walk_at "binaryOp Mod float int") => `(tactic| (refine w_mod_fi (by assumption) (by omega) (by omega) (by omega) (by omega) rfl ?_; intro D9 z9 hD9 hz9))
local macro_rules | `(tactic| walk_at "binaryOp Mod int int") => `(tactic| (refine w_mod_ii (by omega) ?_))
local macro_rules | `(tactic| walk_at "binaryOp FloorDiv int int") => `(tactic| (refine w_floordiv_ii (by omega) (by omega) (by omega) (by omega) ?_))
local macro_rules | `(tactic| walk_at "call builtin:math.floor") => `(tactic| (refine w_floor (by first | assumption | exact flo_half (by assumption)) rfl ?_))
local macro_rules | `(tactic| walk_at "call builtin:math.trunc") => `(tactic| (refine w_trunc (by assumption) (by omega) rfl ?_; intro D9 hD9))
local macro_rules | `(tactic| walk_at "call type:int") => `(tactic| (refine w_int (by assumption) (by omega) rfl ?_; intro D9 hD9))
local macro_rules | `(tactic| walk_at "compareOp Lt float int") => `(tactic| (refine w_lt_fi (by assumption) ?_))
local macro_rules | `(tactic| walk_at "compareOp Eq float int") => `(tactic| (refine w_eq_fi (by assumption) ?_))
local macro_rules | `(tactic| walk_at "compareOp NotEq float float") => `(tactic| (refine w_ne_ff (by assumption) (by assumption) ?_))
local macro_rules | `(tactic| k_room) => `(tactic| ktr_room)
local macro_rules | `(tactic| k_units) => `(tactic| ktr_units)
local macro_rules | `(tactic| walk_at "binaryOp Div int int") => `(tactic| (refine w_div_12 (by omega) (by omega) rfl ?_))
local macro_rules | `(tactic| walk_at "binaryOp Add float int") => `(tactic| (first | refine w_add_12a (by omega) (by omega) ?_ | refine w_add_12b (by omega) (by omega) ?_))
local macro_rules | `(tactic| walk_at "call builtin:math.floor") => `(tactic| (refine w_floor (q12_floor (by omega) (by omega) (by omega) (by omega) (by omega)) rfl ?_))
local macro_rules | `(tactic| walk_at "eval Call") => `(tactic| ((with_reducible show wpAny _ _ (eval (Expr.Call (Expr.Name _ _) _ [] _) _) _ _ _); k_dflt (refine Call_ ?_)))
local macro_rules | `(tactic| walk_at "compareOp In int ref") => `(tactic| k_dflt (refine' w_in30 ?k1 ?k2 ?_; (case k1 => k_asm); (case k2 => k_asm); intro b9))
local macro_rules | `(tactic| walk_at "call ref") => `(tactic| k_dflt (refine' Ctr3.use (C_fromjd (by assumption) (by omega) (by omega)) ?k1 ?k2 ?k3 ?k4 ?k5 ?kK ?kd ?ku ?_; (case k1 => k_asm); (case k2 => k_asm); (case k3 => k_asm); (case k4 => k_asm); (case k5 => k_asm); (case kK => first | exact rfl | assumption); (case kd => ktr_room); (case ku => ktr_units); intro D9 y9 m9 d9 t9 t8 t7 c9 h9 tk9 P9 F9 N9 l9; have hC9 := P9; (try k_lt l9); (try dsimp only); (try k_fold)))
local macro_rules | `(tactic| walk_at "call type:datetime.date") => `(tactic| k_dflt (refine' w_dateC ?k1 ?k2 ?k3 ?k4 ?_; (case k1 => assumption); (case k2 => assumption); (case k3 => k_asm); (case k4 => k_asm); intro D9 h9 F9 N9 l9; (try k_lt l9); (try dsimp only); (try k_fold)))
local macro_rules | `(tactic| walk_at "getMethod ref") => `(tactic| k_dflt (refine' w_getiso ?k1 ?k2 ?_; (case k1 => k_asm); (case k2 => k_mem)))
local macro_rules | `(tactic| walk_at "call builtin:datetime.date.isocalendar") => `(tactic| k_dflt (refine' w_isoC ?k1 ?k2 ?k3 ?k4 ?k5 ?_; (case k1 => assumption); (case k2 => assumption); (case k3 => k_asm); (case k4 => k_asm); (case k5 => k_mem); intro I9 t9 t8 t7 h9 tk9 F9 N9 l9; (try k_lt l9); (try dsimp only); (try k_fold)))
theorem C_fromjdiso {x : UInt64} {t : Tok} {N near place kept : Int} (hI : MarkI near place kept N) (hx : Half x (2 * N - 1)) : CtrI 30 137 [.float x t] near place kept := by
  have hb := mi_bd hI
  have n1 : 1721426 ≤ N := by omega
  have n2 : N ≤ 6000000 := by omega
  unfold CtrI
  k_fill
  intro w mean mg mb dp un gd cn cs a ccd cl outer A₀ base h₀ L m news s Q E B F X N' T hk hd hu hret
  refine wpAny_call ?_
  k_dflt cell_enter
  k_steps
  all_goals (refine' hret _ _ _ _ _ _ ?eF ?eN ?eA; (case eF => k_asm); (case eN => first | k_asm | (refine' cb_drop ?cbN ?cbS; (case cbN => assumption); (case cbS => kcj_all))); (case eA => first | assumption | exact of_allLt (And.right (And.right (by assumption)))))
end
section
open PySem PySem.W PyProof.Rows PySem.Spec PySem.Calls
section
open PySem PySem.W PyProof.Rows PySem.Spec PySem.Calls PySem.Builtin
theorem tup_eq_meets {I T : Addr} {a b c : Int} {t1 t2 t3 u1 u2 u3 : Tok} {n n' : Nat} :
    Meets (Builtin.«tuple.__eq__» ⟨[.ref I, .ref T], []⟩)
      (fun _ R s => s.heap.get? I = some { cls := .type "tuple", data := .seq #[.int a t1, .int b t2, .int c t3] n' } ∧ s.heap.get? T = some { cls := .type "tuple", data := .seq #[.int a u1, .int b u2, .int c u3] n } ∧ R (.ok (.ret (.bool true))) s) :=
  .of_wp fun prog w A R s hs => by
    obtain ⟨hp, g, dr, tk, os⟩ := s
    obtain ⟨hl, hb, hs⟩ := hs
    have f2 := AutoSeq1.sub_tuple_tuple
    have q1 : ∀ (x : Int) (t u : Tok) (E : Value → Shared → Prop) (Q : Bool → Shared → Prop), Q true ⟨hp, g, dr, tk, os⟩ → wpAny (model prog w) A.in1 (eqBool (.int x t) (.int x u)) Q E ⟨hp, g, dr, tk, os⟩ := fun x t u E Q h =>
      SeqAt.EqAt.int_int (A := A.in1) x t x u prog w E Q (by rw [beq_self_eq_true]; exact h)
    wp_walk using AutoSeq1.wpAny_loadPart' hl, AutoSeq1.wpAny_loadPart' hb, q1
    exact ⟨_, rfl, hs⟩
theorem w_tup_eq {prog : Program} {w : World} {A : Around} {E : Value → Shared → Prop} {s : Shared} {h₀ : Heap} {L : Addr} {news : List (Addr × Obj)} {Q : Value → Shared → Prop} {I T : Addr} {N N' a b c a' b' c' : Int} {t1 t2 t3 u1 u2 u3 : Tok} {n n' : Nat} (hu : A.units < cLine) (Nw : News h₀ L s.heap news)
    (hI : (I, ({ cls := .type "tuple", data := .seq #[.int a t1, .int b t2, .int c t3] n' } : Obj)) ∈ news) (hT : (T, ({ cls := .type "tuple", data := .seq #[.int a' u1, .int b' u2, .int c' u3] n } : Obj)) ∈ news)
    (hC : Civil N a b c) (hC' : Civil N' a' b' c') (e : N = N') (h : Q (.bool true) s) : wpAny (model prog w) A (compareOp .Eq (.ref I) (.ref T)) Q E s := by
  subst e
  obtain ⟨ea, eb, ec⟩ := civil_one hC hC'
  subst ea; subst eb; subst ec
  refine cmp_ofEq ?_
  have gI := (Nw _ hI).1
  have gT := (Nw _ hT).1
  exact wpAny_richCompare_same_room (op := .Eq) ⟨_, gI, rfl⟩ ⟨_, gT, rfl⟩ F.slot_tuple_eq
    (call_meets F.slot_tuple_eq ⟨_, gI, rfl⟩ F.entry_tuple_eq (F.args_tuple_eq_2 _ _) tup_eq_meets ⟨gI, gT, nofun, h⟩) hu
theorem w_mod_sym {prog : Program} {w : World} {A : Around} {E : Value → Shared → Prop} {s : Shared} {n y : Int} {t u : Tok} {Q : Value → Shared → Prop} (h : ∀ r, 0 ≤ r → r < wks y → Q (.int r s.toks) { s with toks := s.toks + 1 }) :
    wpAny (model prog w) A (binaryOp .Mod (.int n t) (.int (wks y) u)) Q E s := by
  have b := wks_bd y
  exact w_mod_ii (by omega) (h _ (Int.emod_nonneg _ (by omega)) (Int.emod_lt_of_pos _ (by omega)))
theorem markD_of {near place kept N N' : Int} (hI : MarkI near place kept N) (e : N' = N) : MarkD near N' := by
  subst e
  have hb := mi_bd hI
  exact ⟨by omega, by omega, hI.n0, hI.n1⟩
theorem w_pow108 {prog : Program} {w : World} {A : Around} {E : Value → Shared → Prop} {s : Shared} {t u : Tok} {Q : Value → Shared → Prop} (h : Q (.int 100000000 s.toks) { s with toks := s.toks + 1 }) :
    wpAny (model prog w) A (binaryOp .Pow (.int 10 t) (.int 8 u)) Q E s :=
  pow_int_small (by omega) (by omega) (by decide) (by
    have e : (10 : Int) ^ (8 : Int).toNat = 100000000 := by decide
    rw [e]; exact h)
theorem w_mod_big {prog : Program} {w : World} {A : Around} {E : Value → Shared → Prop} {s : Shared} {n : Int} {t u : Tok} {Q : Value → Shared → Prop} (h : ∀ r, 0 ≤ r → r < 200000000 → Q (.int r s.toks) { s with toks := s.toks + 1 }) :
    wpAny (model prog w) A (binaryOp .Mod (.int n t) (.int (2 * 100000000) u)) Q E s :=
  w_mod_ii (by omega) (h _ (Int.emod_nonneg _ (by omega)) (Int.emod_lt_of_pos _ (by omega)))
end
end
section
open PySem PySem.W PyProof.Rows PySem.Spec PySem.Calls
theorem C_tojdiso2 {t u v : Tok} {y k d : Int} (y1 : 2 ≤ y) (y2 : y ≤ 9000) (k1 : 1 ≤ k) (k2 : k ≤ wks y) (d1 : 1 ≤ d) (d2 : d ≤ 7) : Ctr 20 130 [.int y t, .int k u, .int d v] fun v => ∃ z t N, MarkI y k d N ∧ N = mon y + 7 * (k - 1) + d - 1 ∧ Half z (2 * N - 1) ∧ v = .float z t := by
  have wb := wks_bd y
  unfold Ctr
  intro w mean mg mb dp un gd cn cs a ccd cl outer A₀ base h₀ L m news s Q E B F X N T hk hd hu hret
  refine Ctr.use (C_tojdiso (y := y) (k := k) (d := d) (by omega) (by omega) (by omega) (by omega) (by omega) (by omega)) B F X N T hk hd hu ?_
  intro v h' tk' P F' N'
  obtain ⟨z, t, hz, e⟩ := P
  exact hret v h' tk' ⟨z, t, _, ⟨rfl, y1, y2, k1, k2, d1, d2⟩, rfl, half_to hz (by omega), e⟩ F' N'
theorem C_weeks2 {t : Tok} {y : Int} (y1 : -134217728 < y) (y2 : y < 134217728) : Ctr 20 144 [.int y t] fun v => ∃ t, 52 ≤ wks y ∧ wks y ≤ 53 ∧ 7 * wks y = mon (y + 1) - mon y ∧ v = .int (wks y) t := by
  unfold Ctr
  intro w mean mg mb dp un gd cn cs a ccd cl outer A₀ base h₀ L m news s Q E B F X N T hk hd hu hret
  refine Ctr.use (C_weeks y1 y2) B F X N T hk hd hu ?_
  intro v h' tk' P F' N'
  obtain ⟨t, e⟩ := P
  exact hret v h' tk' ⟨t, (wks_bd y).1, (wks_bd y).2, wks_mon y, e⟩ F' N'
theorem C_lmon2 {t : Tok} {y : Int} (y1 : -134217728 < y) (y2 : y < 134217728) : Ctr 8 179 [.int y t] fun v => ∃ t, -1099511627800 < mon y ∧ mon y < 1099511627800 ∧ v = .int (mon y) t := by
  unfold Ctr
  intro w mean mg mb dp un gd cn cs a ccd cl outer A₀ base h₀ L m news s Q E B F X N T hk hd hu hret
  refine Ctr.use (C_lmon y1 y2) B F X N T hk hd hu ?_
  intro v h' tk' P F' N'
  obtain ⟨t, e⟩ := P
  have b := mon_bd (y := y) (by omega) (by omega)
  exact hret v h' tk' ⟨t, b.1, b.2, e⟩ F' N'
theorem C_tojdiso3 {t u v : Tok} {y k d : Int} (y1 : -134217728 < y) (y2 : y < 134217728) (k1 : 0 < k) (k2 : k < 1048576) (d1 : -1048576 < d) (d2 : d < 1048576) : Ctr 20 130 [.int y t, .int k u, .int d v] fun v => ∃ z t, -1099511627800 < mon y ∧ mon y < 1099511627800 ∧ Half z (2 * (mon y + 7 * (k - 1) - 1 + d) - 1) ∧ v = .float z t := by
  unfold Ctr
  intro w mean mg mb dp un gd cn cs a ccd cl outer A₀ base h₀ L m news s Q E B F X N T hk hd hu hret
  refine Ctr.use (C_tojdiso (y := y) (k := k) (d := d) (by omega) (by omega) (by omega) (by omega) (by omega) (by omega)) B F X N T hk hd hu ?_
  intro v h' tk' P F' N'
  obtain ⟨z, t, hz, e⟩ := P
  have b := mon_bd (y := y) (by omega) (by omega)
  exact hret v h' tk' ⟨z, t, b.1, b.2, hz, e⟩ F' N'
theorem C_tojd28 {t u v : Tok} {y : Int} (y1 : -134217728 < y) (y2 : y < 134217728) : Ctr 6 116 [.int (y - 1) t, .int 12 u, .int 28 v] fun v => ∃ z t, -1099511627776 < jan y ∧ jan y < 1099511627776 ∧ mon y = jan y + 3 - (jan y + 3) % 7 ∧ Half z (2 * (jan y - 4) - 1) ∧ v = .float z t := by
  unfold Ctr
  intro w mean mg mb dp un gd cn cs a ccd cl outer A₀ base h₀ L m news s Q E B F X N T hk hd hu hret
  refine Ctr.use (C_tojd (y := y - 1) (m := 12) (d := 28) (by omega) (by omega) (by omega) (by omega) (by omega)) B F X N T hk hd hu ?_
  intro v h' tk' P F' N'
  obtain ⟨z, t, hz, e⟩ := P
  have b := jan_bd (y := y) (by omega) (by omega)
  have p := jan_prev y
  exact hret v h' tk' ⟨z, t, b.1, b.2, rfl, half_to hz (by omega), e⟩ F' N'
end
section
open PySem PySem.W PyProof.Rows PySem.Spec PySem.Calls
section
open PySem PySem.W PyProof.Rows PySem.Spec PySem.Calls
variable {prog : Program} {w : World} {A : Around} {E : Value → Shared → Prop} {Q : Flow → Shared → Prop} {s : Shared} {env : Env} {h₀ : Heap} {m : Str → Option Value} {news : List (Addr × Obj)}
structure TotOf (Y i T : Int) : Prop where
  eq : 7 * T = mon (Y + i) - mon Y
  lo : 0 ≤ T
  hi : T ≤ 53 * i
/-- the end of a turn of the law's loop -/
def LT1 (Y : Int) (h₀ : Heap) (L : Addr) (m : Str → Option Value) (news own : List (Addr × Obj)) (s : Shared) (i : Int) (fl : Flow) (s' : Shared) : Prop :=
  fl = .next ∧ ∃ T' t' h' tk' m' news', s' = { s with heap := h', toks := tk' } ∧ Fr h₀ L h' m' ∧ News h₀ L h' news' ∧ (∀ p ∈ news ++ own, p ∈ news') ∧ m' (Str.ofString "total") = some (.int T' t') ∧ (∀ z, z ≠ Str.ofString "k" → z ≠ Str.ofString "total" → z ≠ Str.ofString "weeks" → m' z = m z) ∧ TotOf Y (i + 1) T'
theorem lt1_end {Y : Int} {L : Addr} {own news' : List (Addr × Obj)} {i T' : Int} {t' : Tok} {h' : Heap} {tk' : Nat} {m' : Str → Option Value} (F : Fr h₀ L h' m') (N : News h₀ L h' news') (hn : ∀ p ∈ news ++ own, p ∈ news') (ht : m' (Str.ofString "total") = some (.int T' t')) (hm : ∀ z, z ≠ Str.ofString "k" → z ≠ Str.ofString "total" → z ≠ Str.ofString "weeks" → m' z = m z) (hT : TotOf Y (i + 1) T') :
    LT1 Y h₀ L m news own s i .next { s with heap := h', toks := tk' } := ⟨rfl, T', t', h', tk', m', news', rfl, F, N, hn, ht, hm, hT⟩
theorem tot_step {Y i T : Int} (hT : TotOf Y i T) (h : 7 * wks (Y + i) = mon (Y + i + 1) - mon (Y + i)) (h1 : 52 ≤ wks (Y + i)) (h2 : wks (Y + i) ≤ 53) : TotOf Y (i + 1) (T + wks (Y + i)) := by
  have a := hT.eq
  have b := hT.lo
  have c := hT.hi
  refine ⟨?_, by omega, by omega⟩
  rw [show Y + (i + 1) = Y + i + 1 by omega]
  omega
theorem kmap {x : Str} {u : Str → Option Value} {v : Value} {k : Int} {t : Tok} {z : Str} : (if z = Str.ofString "k" then some (Value.int k t) else kstB (fun z => if [Str.ofString "weeks"].contains z then u z else m z) [(Str.ofString "total", v)] z) = (if z = Str.ofString "k" then some (Value.int k t) else if z = Str.ofString "total" then some v else if z = Str.ofString "weeks" then u z else m z) := by
  by_cases h1 : z = Str.ofString "k"
  · simp only [if_pos h1]
  · simp only [if_neg h1, kstB]
    by_cases h2 : z = Str.ofString "total"
    · simp only [if_pos h2]
    · simp only [if_neg h2, List.contains_cons, List.contains_nil, Bool.or_false]
      by_cases h3 : z = Str.ofString "weeks"
      · subst h3; simp
      · simp [h3]
theorem kmap2 {u : Str → Option Value} {v : Value} {z : Str} : (if z = Str.ofString "k" then u z else kstB (fun z => if [Str.ofString "weeks"].contains z then u z else m z) [(Str.ofString "total", v)] z) = (if z = Str.ofString "k" then u z else if z = Str.ofString "total" then some v else if z = Str.ofString "weeks" then u z else m z) := by
  by_cases h1 : z = Str.ofString "k"
  · simp only [if_pos h1]
  · simp only [if_neg h1, kstB]
    by_cases h2 : z = Str.ofString "total"
    · simp only [if_pos h2]
    · simp only [if_neg h2, List.contains_cons, List.contains_nil, Bool.or_false]
      by_cases h3 : z = Str.ofString "weeks"
      · subst h3; simp
      · simp [h3]
theorem loop_total {r : Addr} {c Y : Int} {t₀ u₀ v₀ ty tt : Tok} {body : List Stmt} (hh : A.handled = none) (hr : IsRange s.heap r 0 (1 + c) 1 t₀ u₀ v₀) (b0 : 0 ≤ c) (b1 : c ≤ 9)
    (F : Fr h₀ env.locals s.heap m) (N : News h₀ env.locals s.heap news) (_hy : m (Str.ofString "year") = some (.int Y ty)) (ht : m (Str.ofString "total") = some (.int 0 tt))
    (turn : ∀ (i T : Int) (t tT : Tok) (u : Str → Option Value) h tk own, 0 ≤ i → i < 1 + c → TotOf Y i T →
      Fr h₀ env.locals h (fun z => if z = Str.ofString "k" then some (.int i t) else if z = Str.ofString "total" then some (.int T tT) else if z = Str.ofString "weeks" then u z else m z) → News h₀ env.locals h (news ++ own) →
      wpAny (model prog w) A (execs body env) (fun fl s' => LT1 Y h₀ env.locals m news own { s with heap := h, toks := tk } i fl s') E { s with heap := h, toks := tk })
    (done : ∀ (T : Int) (tT : Tok) (u : Str → Option Value) h tk, 7 * T = mon (Y + 1 + c) - mon Y → 0 ≤ T → T ≤ 530 → Fr h₀ env.locals h (fun z => if z = Str.ofString "k" then u z else if z = Str.ofString "total" then some (.int T tT) else if z = Str.ofString "weeks" then u z else m z) → News h₀ env.locals h news → Q .next { s with heap := h, toks := tk }) :
    wpAny (model prog w) A (pyIter (.ref r)) (fun it s₂ => LoopAtV prog w A h₀ env (Str.ofString "k") body Q E it s₂) E s := by
  refine kst_range (σ := Int × Tok) (fun _ => news) (fun c => [(Str.ofString "total", .int c.1 c.2)]) (fun _ => True) [Str.ofString "weeks"] (fun pre c => TotOf Y (pre.length : Int) c.1) (0, tt)
    hh hr (small_one (by omega) (by omega) (by omega) (by omega)) (rangeSize_nat 0 (1 + c)) F N trivial (by simpa using ht) ⟨by simp, by simp, by simp⟩ ?_ ?_
  · rintro ⟨T, tT⟩ pre k t u h tk own hk hlt hoff _ hT F₁ N₁
    have e : (fun y => if y = Str.ofString "k" then some (Value.int k t) else kstB (fun z => if [Str.ofString "weeks"].contains z then u z else m z) [(Str.ofString "total", .int T tT)] y) = fun z => if z = Str.ofString "k" then some (.int k t) else if z = Str.ofString "total" then some (.int T tT) else if z = Str.ofString "weeks" then u z else m z := by
      funext z
      exact kmap (x := z)
    rw [e] at F₁
    have hk2 : k = (pre.length : Int) := by omega
    rw [← hk2] at hT
    refine wpAny_mono (turn k T t tT u h tk own (by omega) (by omega) hT F₁ N₁) (fun fl s₃ p => ?_) fun _ _ x => x
    obtain ⟨e1, T', t', h', tk', m', news', e2, F', N', hn, ht', hm', hT'⟩ := p
    subst e1; subst e2
    refine InvEndN.intro F' N' (nx := news) ⟨(T', t'), rfl, trivial, by simpa using ht', ?_, ?_⟩ rfl (fun p hp => hn p (List.mem_append.mpr (.inl hp))) (fun p hp => hn p (List.mem_append.mpr (.inr hp)))
    · intro z h1 h2 h3
      refine hm' z h1 ?_ ?_
      · exact h2 _ (List.mem_cons_self)
      · intro e4; subst e4; simp at h3
    · show TotOf Y ((pre ++ [k]).length : Int) T'
      have : ((pre ++ [k]).length : Int) = k + 1 := by simp; omega
      rw [this]; exact hT'
  · rintro ⟨T, tT⟩ u h tk _ hT F₁ N₁
    have e : (fun y => if y = Str.ofString "k" then u y else kstB (fun z => if [Str.ofString "weeks"].contains z then u z else m z) [(Str.ofString "total", .int T tT)] y) = fun z => if z = Str.ofString "k" then u z else if z = Str.ofString "total" then some (.int T tT) else if z = Str.ofString "weeks" then u z else m z := by
      funext z
      exact kmap2
    rw [e] at F₁
    have hl : ((rangeKs 0 (1 + c - 0).toNat).length : Int) = 1 + c := by rw [rangeKs_length]; omega
    rw [hl] at hT
    have hq := hT.eq
    rw [show Y + (1 + c) = Y + 1 + c by omega] at hq
    exact done T tT u h tk hq hT.lo (by have := hT.hi; omega) F₁ N₁
end
end
end Mine
section
open Mine
open PySem PySem.W PyProof.Rows PySem.Spec PySem.Calls
local macro_rules | `(tactic| walk_at "binaryOp Add float float") => `(tactic| (refine w_add_ff (by first | assumption | exact half_c05 | exact half_epoch) (by first | assumption | exact half_c05 | exact half_epoch) (by omega) (by omega) ?_; intro z9 hz9))
local macro_rules | `(tactic| walk_at "binaryOp Sub float float") => `(tactic| (refine w_sub_ff (by first | assumption | exact half_c05 | exact half_epoch) (by first | assumption | exact half_c05 | exact half_epoch) (by omega) (by omega) ?_; intro z9 hz9))
local macro_rules | `(tactic| walk_at "binaryOp Add float int") => `(tactic| (refine w_add_fi (by first | assumption | exact half_epoch) (by omega) (by omega) (by omega) (by omega) ?_; intro z9 hz9))
local macro_rules | `(tactic| walk_at "binaryOp Add int float") => `(tactic| (refine w_add_if (by first | assumption | exact half_c05) (by omega) (by omega) (by omega) (by omega) ?_; intro z9 hz9))
local macro_rules | `(tactic| walk_at "inplaceOp Add int float") => `(tactic| (refine w_iadd_if (by assumption) (by omega) (by omega) (by omega) (by omega) ?_; intro z9 hz9))
local macro_rules | `(tactic| walk_at "binaryOp Sub float int") => `(tactic| (refine w_sub_fi (by first | assumption | exact half_epoch) (by omega) (by omega) (by omega) (by omega) ?_; intro z9 hz9))
local macro_rules | `(tactic| walk_at "binaryOp Mult int float") => `(tactic| (refine w_mul_if (by assumption) (by omega) (by omega) (by omega) (by omega) ?_; intro z9 hz9))
local macro_rules | `(tactic| walk_at "binaryOp Mult float int") => `(tactic| (refine w_mul_fi (by assumption) (by omega) (by omega) (by omega) (by omega) ?_; intro z9 hz9))
local macro_rules | `(tactic| walk_at "binaryOp Div float int") => `(tactic| (refine w_div_fi (by assumption) (by omega) (by omega) (by omega) (by omega) (by omega) rfl ?_; intro D9 z9 hD9 hz9))
local macro_rules | `(tactic| walk_at "binaryOp Div int int") => `(tactic| (refine w_div_ii (by omega) (by omega) (by omega) (by omega) rfl ?_; intro z9 hz9))
local macro_rules | `(tactic| walk_at "binaryOp Mod float int") => `(tactic| (refine w_mod_fi (by assumption) (by omega) (by omega) (by omega) (by omega) rfl ?_; intro D9 z9 hD9 hz9))
local macro_rules | `(tactic| walk_at "binaryOp Mod int int") => `(tactic| (refine w_mod_ii (by omega) ?_))
local macro_rules | `(tactic| walk_at "binaryOp FloorDiv int int") => `(tactic| (refine w_floordiv_ii (by omega) (by omega) (by omega) (by omega) ?_))
local macro_rules | `(tactic| walk_at "call builtin:math.floor") => `(tactic| (refine w_floor (by first | assumption | exact flo_half (by assumption)) rfl ?_))
local macro_rules | `(tactic| walk_at "call builtin:math.trunc") => `(tactic| (refine w_trunc (by assumption) (by omega) rfl ?_; intro D9 hD9))
local macro_rules | `(tactic| walk_at "call type:int") => `(tactic| (refine w_int (by assumption) (by omega) rfl ?_; intro D9 hD9))
local macro_rules | `(tactic| walk_at "compareOp Lt float int") => `(tactic| (refine w_lt_fi (by assumption) ?_))
local macro_rules | `(tactic| walk_at "compareOp Eq float int") => `(tactic| (refine w_eq_fi (by assumption) ?_))
local macro_rules | `(tactic| walk_at "compareOp NotEq float float") => `(tactic| (refine w_ne_ff (by assumption) (by assumption) ?_))
local macro_rules | `(tactic| k_room) => `(tactic| ktr_room)
local macro_rules | `(tactic| k_units) => `(tactic| ktr_units)
local macro_rules | `(tactic| walk_at "binaryOp Div int int") => `(tactic| (refine w_div_12 (by omega) (by omega) rfl ?_))
local macro_rules | `(tactic| walk_at "binaryOp Add float int") => `(tactic| (first | refine w_add_12a (by omega) (by omega) ?_ | refine w_add_12b (by omega) (by omega) ?_))
local macro_rules | `(tactic| walk_at "call builtin:math.floor") => `(tactic| (refine w_floor (q12_floor (by omega) (by omega) (by omega) (by omega) (by omega)) rfl ?_))
local macro_rules | `(tactic| walk_at "eval Call") => `(tactic| ((with_reducible show wpAny _ _ (eval (Expr.Call (Expr.Name _ _) _ [] _) _) _ _ _); k_dflt (refine Call_ ?_)))
local macro_rules | `(tactic| walk_at "compareOp In int ref") => `(tactic| k_dflt (refine' w_in30 ?k1 ?k2 ?_; (case k1 => k_asm); (case k2 => k_asm); intro b9))
local macro_rules | `(tactic| walk_at "call ref") => `(tactic| k_dflt (refine' Ctr.use (C_nweeks (by assumption) (by omega) (by omega) (by omega) (by omega) (by omega) (by omega) (by omega) ) ?k1 ?k2 ?k3 ?k4 ?k5 ?kK ?kd ?ku ?_; (case k1 => k_asm); (case k2 => k_asm); (case k3 => k_asm); (case k4 => k_asm); (case k5 => k_asm); (case kK => first | exact rfl | assumption); (case kd => ktr_room); (case ku => ktr_units); intro v9 h9 tk9 P9 F9 N9; obtain ⟨z9, _, D9, hD9, hz9, e9⟩ := P9; subst e9; (try dsimp only); (try k_fold)))
local macro_rules | `(tactic| walk_at "call ref") => `(tactic| k_dflt (refine' Ctr.use (C_tojd28 (by omega) (by omega)) ?k1 ?k2 ?k3 ?k4 ?k5 ?kK ?kd ?ku ?_; (case k1 => k_asm); (case k2 => k_asm); (case k3 => k_asm); (case k4 => k_asm); (case k5 => k_asm); (case kK => first | exact rfl | assumption); (case kd => ktr_room); (case ku => ktr_units); intro v9 h9 tk9 P9 F9 N9; obtain ⟨z9, _, hj9, hj8, hj7, hz9, e9⟩ := P9; subst e9; (try dsimp only); (try k_fold)))
local macro_rules | `(tactic| walk_at "call ref") => `(tactic| k_dflt (refine' Ctr3.use (C_fromjd (by assumption) (by omega) (by omega)) ?k1 ?k2 ?k3 ?k4 ?k5 ?kK ?kd ?ku ?_; (case k1 => k_asm); (case k2 => k_asm); (case k3 => k_asm); (case k4 => k_asm); (case k5 => k_asm); (case kK => first | exact rfl | assumption); (case kd => ktr_room); (case ku => ktr_units); intro D9 y9 m9 d9 t9 t8 t7 c9 h9 tk9 P9 F9 N9 l9; have hC9 := P9; (try k_lt l9); (try dsimp only); (try k_fold)))
local macro_rules | `(tactic| walk_at "call ref") => `(tactic| k_dflt (refine' CtrI.use (C_fromjdiso (by assumption) (by assumption)) ?k1 ?k2 ?k3 ?k4 ?k5 ?kK ?kd ?ku ?_; (case k1 => k_asm); (case k2 => k_asm); (case k3 => k_asm); (case k4 => k_asm); (case k5 => k_asm); (case kK => first | exact rfl | assumption); (case kd => ktr_room); (case ku => ktr_units); intro D9 t9 t8 t7 h9 tk9 F9 N9 l9; skip; (try k_lt l9); (try dsimp only); (try k_fold)))
local macro_rules | `(tactic| walk_at "call ref") => `(tactic| k_dflt (refine' Ctr3.use (C_ldate (markD_of (by assumption) (by omega))) ?k1 ?k2 ?k3 ?k4 ?k5 ?kK ?kd ?ku ?_; (case k1 => k_asm); (case k2 => k_asm); (case k3 => k_asm); (case k4 => k_asm); (case k5 => k_asm); (case kK => first | exact rfl | assumption); (case kd => ktr_room); (case ku => ktr_units); intro D9 y9 m9 d9 t9 t8 t7 c9 h9 tk9 P9 F9 N9 l9; have hC9 := P9; (try k_lt l9); (try dsimp only); (try k_fold)))
local macro_rules | `(tactic| walk_at "call ref") => `(tactic| k_dflt (refine' Ctr.use (C_tojdiso3 (by omega) (by omega) (by omega) (by omega) (by omega) (by omega)) ?k1 ?k2 ?k3 ?k4 ?k5 ?kK ?kd ?ku ?_; (case k1 => k_asm); (case k2 => k_asm); (case k3 => k_asm); (case k4 => k_asm); (case k5 => k_asm); (case kK => first | exact rfl | assumption); (case kd => ktr_room); (case ku => ktr_units); intro v9 h9 tk9 P9 F9 N9; obtain ⟨z9, _, hm9, hm8, hz9, e9⟩ := P9; subst e9; (try dsimp only); (try k_fold)))
local macro_rules | `(tactic| walk_at "call ref") => `(tactic| k_dflt (refine' Ctr.use (C_tojdiso2 (by omega) (by omega) (by omega) (by omega) (by omega) (by omega)) ?k1 ?k2 ?k3 ?k4 ?k5 ?kK ?kd ?ku ?_; (case k1 => k_asm); (case k2 => k_asm); (case k3 => k_asm); (case k4 => k_asm); (case k5 => k_asm); (case kK => first | exact rfl | assumption); (case kd => ktr_room); (case ku => ktr_units); intro v9 h9 tk9 P9 F9 N9; obtain ⟨z9, _, N9, hI9, hn9, hz9, e9⟩ := P9; subst e9; have hb9 := mi_bd hI9; have hb8 := hb9.1; have hb7 := hb9.2.1; clear hb9; (try dsimp only); (try k_fold)))
local macro_rules | `(tactic| walk_at "call ref") => `(tactic| k_dflt (refine' Ctr.use (C_weeks2 (by omega) (by omega)) ?k1 ?k2 ?k3 ?k4 ?k5 ?kK ?kd ?ku ?_; (case k1 => k_asm); (case k2 => k_asm); (case k3 => k_asm); (case k4 => k_asm); (case k5 => k_asm); (case kK => first | exact rfl | assumption); (case kd => ktr_room); (case ku => ktr_units); intro v9 h9 tk9 P9 F9 N9; obtain ⟨_, hw9, hw8, hw7, e9⟩ := P9; subst e9; (try dsimp only); (try k_fold)))
local macro_rules | `(tactic| walk_at "call ref") => `(tactic| k_dflt (refine' Ctr.use (C_lmon2 (by omega) (by omega)) ?k1 ?k2 ?k3 ?k4 ?k5 ?kK ?kd ?ku ?_; (case k1 => k_asm); (case k2 => k_asm); (case k3 => k_asm); (case k4 => k_asm); (case k5 => k_asm); (case kK => first | exact rfl | assumption); (case kd => ktr_room); (case ku => ktr_units); intro v9 h9 tk9 P9 F9 N9; obtain ⟨_, hm9, hm8, e9⟩ := P9; subst e9; (try dsimp only); (try k_fold)))
local macro_rules | `(tactic| walk_at "binaryOp Mod int int") => `(tactic| ((with_reducible refine w_mod_sym ?_); intro r9 hr9 hr8))
local macro_rules | `(tactic| walk_at "compareOp NotEq ref ref") => `(tactic| k_dflt (refine' w_iso_ne ?k0 ?k1 ?k2 ?k3 ?k4 ?k5 ?k6 ?_; (case k0 => k_units); (case k1 => k_asm); (case k2 => k_mem); (case k3 => k_mem); (case k4 => rfl); (case k5 => rfl); (case k6 => rfl)))
local macro_rules | `(tactic| walk_at "compareOp Eq ref ref") => `(tactic| k_dflt (refine' w_tup_eq ?k0 ?k1 ?k2 ?k3 ?k4 ?k5 ?k6 ?_; (case k0 => k_units); (case k1 => k_asm); (case k2 => k_mem); (case k3 => k_mem); (case k4 => assumption); (case k5 => assumption); (case k6 => omega)))
local macro_rules | `(tactic| walk_at "binaryOp Pow int int") => `(tactic| (with_reducible refine w_pow108 ?_))
local macro_rules | `(tactic| walk_at "binaryOp Mod int int") => `(tactic| ((with_reducible refine w_mod_big ?_); intro r9 hr9 hr8))
local macro_rules | `(tactic| walk_at "pyIter ref") => `(tactic| ((with_reducible show wpAny _ _ (pyIter (Value.ref _)) (fun it s₂ => LoopAtV _ _ _ _ _ _ _ _ _ it s₂) _ _); k_dflt (refine' loop_total ?k1 ?k2 ?k3 ?k4 ?k5 ?k6 ?k7 ?k8 ?_ ?_; (case k1 => rfl); (case k2 => assumption); (case k3 => omega); (case k4 => omega); (case k5 => k_asm); (case k6 => k_asm); (case k7 => exact rfl); (case k8 => exact rfl)); (intro i9 T9 t9 t8 u9 h9 tk9 o9 hi9 hi8 hT9 F9 N9; have hT8 := hT9.lo; have hT7 := hT9.hi; (try dsimp only); try k_fold); rotate_left; (intro T9 t8 u9 h9 tk9 hT9 hT8 hT7 F9 N9; (try dsimp only); try k_fold); rotate_left))
theorem PySem.Challenge.cw_bd6012_01_holds : PySem.Challenge.rw_bd6012_01.Holds := by
  refine Mine.hd ?_
  w_strict (
  k_go0
  (all_goals try k_fold)
  k_steps
  all_goals (first
    | (exfalso; omega)
    | (refine lt1_end (by assumption) (by assumption) (fun _ h => h) (by rfl) (by intro z h1 h2 h3; simp only [if_neg h1, if_neg h2, if_neg h3]) (tot_step (by assumption) (by assumption) (by assumption) (by assumption)))))
end
