import PyProof.Rows.All
import Wide.All
import OpenK.AllK
import Wide.FinOn
import PySem.Challenge.RW_bd5017_02
set_option Elab.async false
set_option linter.unusedVariables false
section
open PySem PySem.W PyProof.Rows
namespace Mine
set_option maxRecDepth 100000 in
set_option maxHeartbeats 16000000 in
open_top hd for PySem.Challenge.rw_bd5017_02
end Mine
end
section
open PySem PySem.W PyProof.Rows PySem.Calls PySem.Spec
set_option linter.unusedVariables false
set_option exponentiation.threshold 100
namespace Mine
open PySem.Float64

/-- x is k quarters, exactly -/
def Q4 (x : UInt64) (k : Int) : Prop := Float64.isFinite x = true ∧ val x = k * 2 ^ 1072

theorem isFinite_of {x : UInt64} {a : Bool} {m : Nat} {e : Int} (h : decode x = .fin a m e) : Float64.isFinite x = true := by unfold Float64.isFinite; rw [h]
theorem fin_of {x : UInt64} (h : Float64.isFinite x = true) : ∃ a m e, decode x = .fin a m e := by
  unfold Float64.isFinite at h
  split at h
  · rename_i a m e hd; exact ⟨a, m, e, hd⟩
  · cases h

/-- each n 2^k with n below 2^53 is a magnitude -/
theorem V_has (n k : Nat) (hn : n < 2 ^ 53) (hk : 52 ≤ k) (hk2 : k ≤ 1200) : ∃ t, t < infMag ∧ V t = n * 2 ^ k := by
  by_cases h0 : n = 0
  · subst h0
    exact ⟨0, by decide, by rw [V_zero]; omega⟩
  · have hl1 := Nat.log2_self_le h0
    have hl2 := @Nat.lt_log2_self n
    have hL : n.log2 < 53 := (Nat.log2_lt h0).mpr hn
    generalize n.log2 = L at *
    have e1 : 2 ^ 52 = 2 ^ L * 2 ^ (52 - L) := by rw [← Nat.pow_add]; congr 1; omega
    have e2 : 2 ^ 53 = 2 ^ (L + 1) * 2 ^ (52 - L) := by rw [← Nat.pow_add]; congr 1; omega
    have hp := Nat.two_pow_pos (52 - L)
    have q1 : 2 ^ 52 ≤ n * 2 ^ (52 - L) := by rw [e1]; exact Nat.mul_le_mul_right _ hl1
    have q2 : n * 2 ^ (52 - L) < 2 ^ 53 := by rw [e2]; exact Nat.mul_lt_mul_of_pos_right hl2 hp
    refine ⟨(k - (52 - L)) * 2 ^ 52 + n * 2 ^ (52 - L), ?_, ?_⟩
    · have hi : infMag = 2047 * 2 ^ 52 := rfl
      rw [hi]
      omega
    · rw [V_at (Nat.le_of_lt q2) (.inl q1), Nat.mul_assoc, ← Nat.pow_add]
      congr 2
      omega

theorem dist_zero {a b : Nat} (h : dist a b = 0) : a = b := by unfold dist at h; omega
theorem dist_self (a : Nat) : dist a a = 0 := by unfold dist; omega

theorem big_gap (W D : Nat) (hD : 0 < D) (hD2 : D ≤ 2 ^ 1074) (hW : W < D * 2 ^ 1600) : ¬ D * ((2 ^ 54 - 1) * 2 ^ 2045) ≤ 2 * W := by
  intro h
  have e : (2 : Nat) ^ 1601 ≤ (2 ^ 54 - 1) * 2 ^ 2045 := by
    calc (2 : Nat) ^ 1601 ≤ 2 ^ 2045 := Nat.pow_le_pow_right (by decide) (by decide)
      _ ≤ (2 ^ 54 - 1) * 2 ^ 2045 := Nat.le_mul_of_pos_left _ (by decide)
  have h2 : D * 2 ^ 1601 ≤ D * ((2 ^ 54 - 1) * 2 ^ 2045) := Nat.mul_le_mul_left D e
  have e3 : (2 : Nat) ^ 1601 = 2 * 2 ^ 1600 := by rw [Nat.pow_succ, Nat.mul_comm]
  rw [e3] at h2
  generalize (2 : Nat) ^ 1600 = Z at *
  generalize D * ((2 ^ 54 - 1) * 2 ^ 2045) = Y at *
  rw [Nat.mul_left_comm] at h2
  omega

/-- what is right and can be said exactly is exact -/
theorem right_exact {r : UInt64} {neg : Bool} {W D : Nat} (R : Right r neg W D) (hD : 0 < D) (hD2 : D ≤ 2 ^ 1074) {t' : Nat} (ht' : t' < infMag) (hV : D * V t' = W) (hs : W < D * 2 ^ 1600) :
    Float64.isFinite r = true ∧ val r = sgn neg (V t') := by
  obtain ⟨t, rfl, hle, hover, hnear⟩ := R
  have ht : t < infMag := by
    rcases Nat.lt_or_ge t infMag with h | h
    · exact h
    · exact absurd (hover.mp (Nat.le_antisymm hle h)) (big_gap W D hD hD2 hs)
  have hn := (hnear ht t').1
  rw [hV, dist_self] at hn
  have e := dist_zero (Nat.le_zero.mp hn)
  have e2 : V t = V t' := by
    rw [← hV] at e
    exact (Nat.eq_of_mul_eq_mul_left hD e).symm
  obtain ⟨m, e', hd, hv⟩ := decode_pack neg ht
  exact ⟨isFinite_of hd, by rw [val_pack neg ht, e2]⟩

theorem lt_pow_aux (n : Nat) (hn : n < 2 ^ 53) : n * 2 ^ 1072 < 1 * 2 ^ 1600 := by
  rw [Nat.one_mul]
  calc n * 2 ^ 1072 < 2 ^ 53 * 2 ^ 1072 := Nat.mul_lt_mul_of_pos_right hn (Nat.two_pow_pos _)
    _ ≤ 2 ^ 1600 := by rw [← Nat.pow_add]; exact Nat.pow_le_pow_right (by decide) (by decide)

theorem sgn_of (k : Int) (z : Nat) : sgn (decide (k < 0)) (k.natAbs * z) = k * (z : Int) := by
  rw [sgn_mul]
  congr 1
  unfold sgn
  by_cases h : k < 0
  · simp [h]; omega
  · simp [h]; omega

theorem right_q4 {r : UInt64} {k : Int} (R : Right r (decide (k < 0)) (k.natAbs * 2 ^ 1072) 1) (hk : k.natAbs < 2 ^ 53) : Q4 r k := by
  obtain ⟨t, ht, hV⟩ := V_has k.natAbs 1072 hk (by decide) (by decide)
  have q := right_exact R (by decide) (Nat.one_le_two_pow) ht (by rw [Nat.one_mul]; exact hV) (lt_pow_aux _ hk)
  refine ⟨q.1, ?_⟩
  rw [q.2, hV, sgn_of, Int.natCast_pow]
  rfl

theorem q4_ofInt (n : Int) (hn : n.natAbs < 2 ^ 51) : Q4 (ofInt n) (4 * n) := by
  have R := ofInt_right n
  have e1 : n.natAbs * 2 ^ 1074 = (4 * n).natAbs * 2 ^ 1072 := by
    rw [Int.natAbs_mul, show (2 : Nat) ^ 1074 = 4 * 2 ^ 1072 by rw [show (4 : Nat) = 2 ^ 2 by rfl, ← Nat.pow_add]]
    show _ = 4 * n.natAbs * 2 ^ 1072
    generalize (2 : Nat) ^ 1072 = Z
    ac_rfl
  have e2 : decide (n < 0) = decide (4 * n < 0) := decide_eq_decide.mpr (by omega)
  rw [e1, e2] at R
  exact right_q4 R (by omega)

theorem isFinite_zero (b : Bool) : Float64.isFinite (zero b) = true ∧ val (zero b) = 0 := by
  cases b <;> exact ⟨by decide +kernel, by decide +kernel⟩

theorem q4_add {x y : UInt64} {a b : Int} (hx : Q4 x a) (hy : Q4 y b) (h : (a + b).natAbs < 2 ^ 53) : Q4 (Float64.add x y) (a + b) := by
  obtain ⟨sx, mx, ex, dx⟩ := fin_of hx.1
  obtain ⟨sy, my, ey, dy⟩ := fin_of hy.1
  have R := add_right dx dy
  rw [hx.2, hy.2, ← Int.add_mul] at R
  have hp : (0 : Int) < 2 ^ 1072 := Int.pow_pos (by decide)
  by_cases h0 : a + b = 0
  · rw [h0] at R ⊢
    rw [R.1 (Int.zero_mul _)]
    exact ⟨(isFinite_zero _).1, by rw [(isFinite_zero _).2, Int.zero_mul]⟩
  · have R2 := R.2 (fun e => h0 ((Int.mul_eq_zero.mp e).resolve_right (Int.ne_of_gt hp)))
    have e1 : ((a + b) * 2 ^ 1072).natAbs = (a + b).natAbs * 2 ^ 1072 := by rw [Int.natAbs_mul, Int.natAbs_pow]; rfl
    have e2 : decide ((a + b) * 2 ^ 1072 < 0) = decide (a + b < 0) := by
      refine decide_eq_decide.mpr ⟨fun q => ?_, fun q => Int.mul_neg_of_neg_of_pos q hp⟩
      rcases Int.lt_or_le (a + b) 0 with g | g
      · exact g
      · exact absurd q (Int.not_lt.mpr (Int.mul_nonneg g (Int.le_of_lt hp)))
    rw [e1, e2] at R2
    exact right_q4 R2 h

theorem q4_neg {y : UInt64} {b : Int} (hy : Q4 y b) : Q4 (Float64.neg y) (-b) := by
  obtain ⟨sy, my, ey, dy⟩ := fin_of hy.1
  exact ⟨isFinite_of (neg_decode dy), by rw [neg_val dy, hy.2, Int.neg_mul]⟩
theorem q4_sub {x y : UInt64} {a b : Int} (hx : Q4 x a) (hy : Q4 y b) (h : (a - b).natAbs < 2 ^ 53) : Q4 (Float64.sub x y) (a - b) := by
  have := q4_add hx (q4_neg hy) (by rw [← Int.sub_eq_add_neg]; exact h)
  rw [← Int.sub_eq_add_neg] at this
  unfold Float64.sub
  exact this

theorem val_sign {x : UInt64} {a : Bool} {m : Nat} {e : Int} (h : decode x = .fin a m e) (h0 : val x ≠ 0) : a = decide (val x < 0) := by
  have q := val_eq h
  cases a with
  | false =>
    have : 0 ≤ val x := by rw [q]; unfold sgn; rw [if_neg (by decide)]; exact Int.natCast_nonneg _
    exact (decide_eq_false (by omega)).symm
  | true =>
    have : val x ≤ 0 := by rw [q]; unfold sgn; rw [if_pos rfl]; exact Int.neg_nonpos_of_nonneg (Int.natCast_nonneg _)
    exact (decide_eq_true (by omega)).symm

theorem q4_mul {x y : UInt64} {a n : Int} (hx : Q4 x a) (hy : Q4 y (4 * n)) (h : (a * n).natAbs < 2 ^ 53) : Q4 (Float64.mul x y) (a * n) := by
  obtain ⟨sx, mx, ex, dx⟩ := fin_of hx.1
  obtain ⟨sy, my, ey, dy⟩ := fin_of hy.1
  have R := mul_right dx dy
  have e1 : (val x).natAbs * (val y).natAbs = 2 ^ 1074 * ((a * n).natAbs * 2 ^ 1072) := by
    rw [hx.2, hy.2, Int.natAbs_mul, Int.natAbs_mul, Int.natAbs_mul, Int.natAbs_mul, Int.natAbs_pow, show (2 : Nat) ^ 1074 = 4 * 2 ^ 1072 by rw [show (4 : Nat) = 2 ^ 2 by rfl, ← Nat.pow_add]]
    show a.natAbs * 2 ^ 1072 * (4 * n.natAbs * 2 ^ 1072) = _
    generalize (2 : Nat) ^ 1072 = Z
    ac_rfl
  rw [e1] at R
  obtain ⟨t, ht, hV⟩ := V_has (a * n).natAbs 1072 h (by decide) (by decide)
  have q := right_exact R (Nat.two_pow_pos _) (Nat.le_refl _) ht (by rw [hV]) (by
    have := lt_pow_aux _ h
    rw [Nat.one_mul] at this
    exact Nat.mul_lt_mul_of_pos_left this (Nat.two_pow_pos _))
  refine ⟨q.1, ?_⟩
  rw [q.2, hV]
  have hp : (0 : Int) < 2 ^ 1072 := Int.pow_pos (by decide)
  by_cases h0 : a * n = 0
  · rw [h0]
    simp [sgn]
  · have ha : a ≠ 0 := fun e => h0 (by rw [e, Int.zero_mul])
    have hn : n ≠ 0 := fun e => h0 (by rw [e, Int.mul_zero])
    have vx : val x ≠ 0 := by rw [hx.2]; exact Int.mul_ne_zero ha (Int.ne_of_gt hp)
    have vy : val y ≠ 0 := by rw [hy.2]; exact Int.mul_ne_zero (by omega) (Int.ne_of_gt hp)
    have s1 := val_sign dx vx
    have s2 := val_sign dy vy
    have k1 : (val x < 0) ↔ a < 0 := by
      rw [hx.2]
      refine ⟨fun q => ?_, fun q => Int.mul_neg_of_neg_of_pos q hp⟩
      rcases Int.lt_or_le a 0 with g | g
      · exact g
      · exact absurd q (Int.not_lt.mpr (Int.mul_nonneg g (Int.le_of_lt hp)))
    have k2 : (val y < 0) ↔ n < 0 := by
      rw [hy.2]
      refine ⟨fun q => ?_, fun q => Int.mul_neg_of_neg_of_pos (by omega) hp⟩
      rcases Int.lt_or_le n 0 with g | g
      · exact g
      · exact absurd q (Int.not_lt.mpr (Int.mul_nonneg (by omega) (Int.le_of_lt hp)))
    have e3 : (sx != sy) = decide (a * n < 0) := by
      rw [s1, s2]
      rcases Int.lt_or_gt_of_ne ha with ga | ga <;> rcases Int.lt_or_gt_of_ne hn with gn | gn
      · have := Int.mul_pos_of_neg_of_neg ga gn
        simp [k1, k2, ga, gn]; omega
      · have := Int.mul_neg_of_neg_of_pos ga gn
        have : ¬ n < 0 := by omega
        simp [k1, k2, ga, this]; omega
      · have := Int.mul_neg_of_pos_of_neg ga gn
        have : ¬ a < 0 := by omega
        simp [k1, k2, gn, this]; omega
      · have := Int.mul_pos ga gn
        have : ¬ a < 0 := by omega
        have : ¬ n < 0 := by omega
        simp [k1, k2, *]; omega
    rw [e3, sgn_of, Int.natCast_pow]
    rfl

/-- an int by four -/
theorem q4_quarter (n : Int) (hn : n.natAbs < 2 ^ 51) : Q4 (ofFrac (decide (n < 0) != decide ((4 : Int) < 0)) n.natAbs (4 : Int).natAbs) n := by
  have e0 : (decide (n < 0) != decide ((4 : Int) < 0)) = decide (n < 0) := by simp
  rw [e0]
  have R : Right (ofFrac (decide (n < 0)) n.natAbs (4 : Int).natAbs) (decide (n < 0)) (n.natAbs * 2 ^ 1072) 1 :=
    ofFrac_right (by decide) (by
      rw [show (2 : Nat) ^ 1074 = 2 ^ 1072 * 4 by rw [show (4 : Nat) = 2 ^ 2 by rfl, ← Nat.pow_add]]
      show n.natAbs * (2 ^ 1072 * 4) * 1 = n.natAbs * 2 ^ 1072 * 4
      rw [Nat.mul_one, Nat.mul_assoc]) (by decide)
  exact right_q4 R (by omega)

theorem pow_split (e : Int) (he : -1074 ≤ e) (hle : e < 0) : (2 : Nat) ^ (e + 1074).toNat * 2 ^ (-e).toNat = 2 ^ 1074 := by
  rw [← Nat.pow_add]; congr 1; omega
theorem pow_split' (e : Int) (he : 0 ≤ e) : (2 : Nat) ^ (e + 1074).toNat = 2 ^ e.toNat * 2 ^ 1074 := by
  rw [← Nat.pow_add]; congr 1; omega

/-- floor by the value -/
theorem floor_val {x : UInt64} (hf : Float64.isFinite x = true) : Flt.toInt floorOf x = (val x).fdiv (2 ^ 1074) := by
  obtain ⟨a, m, e, hd⟩ := fin_of hf
  have hge := decode_ge hd
  have hv := val_eq hd
  unfold Flt.toInt
  rw [hd]
  show floorOf a m e = _
  unfold floorOf
  have hp : ((2 : Int) ^ 1074) ≠ 0 := Int.ne_of_gt (Int.pow_pos (by decide))
  by_cases he : e ≥ 0
  · rw [if_pos he, hv, pow_split' e he, ← Nat.mul_assoc, sgn_mul, sgn_mul, Int.natCast_pow, Int.natCast_pow]
    show _ = (sgn a m * 2 ^ e.toNat * 2 ^ 1074).fdiv (2 ^ 1074)
    rw [Int.mul_fdiv_cancel _ hp]
  · rw [if_neg he, hv, sgn_mul]
    have e1 := pow_split e hge (by omega)
    have e2 : ((2 : Int) ^ 1074) = ((2 ^ (e + 1074).toNat : Nat) : Int) * ((2 ^ (-e).toNat : Nat) : Int) := by
      rw [← Int.natCast_mul, e1, Int.natCast_pow]; rfl
    rw [e2]
    have hpos : (0 : Int) < ((2 ^ (e + 1074).toNat : Nat) : Int) := Int.ofNat_lt.mpr (Nat.two_pow_pos _)
    have hpos2 : (0 : Int) ≤ ((2 ^ (-e).toNat : Nat) : Int) := Int.natCast_nonneg _
    have L1 : (sgn a m).fdiv (2 ^ (-e).toNat) = sgn a m / ((2 ^ (-e).toNat : Nat) : Int) := by
      rw [Int.fdiv_eq_ediv_of_nonneg _ (Int.le_of_lt (Int.pow_pos (by decide))), Int.natCast_pow]; rfl
    rw [L1, Int.fdiv_eq_ediv_of_nonneg _ (Int.mul_nonneg (Int.le_of_lt hpos) hpos2), Int.mul_comm (sgn a m) ((2 ^ (e + 1074).toNat : Nat) : Int), Int.mul_ediv_mul_of_pos _ _ hpos]

theorem fdiv_q4 (k : Int) : (k * 2 ^ 1072).fdiv (2 ^ 1074) = k / 4 := by
  rw [Int.fdiv_eq_ediv_of_nonneg _ (Int.le_of_lt (Int.pow_pos (by decide)))]
  have e : (2 : Int) ^ 1074 = 2 ^ 1072 * 4 := by rw [show (4 : Int) = 2 ^ 2 by rfl, ← Int.pow_add]
  rw [e, Int.mul_comm k, Int.mul_ediv_mul_of_pos _ _ (Int.pow_pos (by decide))]

theorem q4_floor {x : UInt64} {k : Int} (h : Q4 x k) : Flt.toInt floorOf x = k / 4 := by
  rw [floor_val h.1, h.2, fdiv_q4]
theorem neg_floorOf {x : UInt64} {a : Bool} {m : Nat} {e : Int} (h : decode x = .fin a m e) : floorOf (!a) m e = Flt.toInt floorOf (Float64.neg x) := by
  unfold Flt.toInt
  rw [neg_decode h]
theorem q4_ceil {x : UInt64} {k : Int} (h : Q4 x k) : Flt.toInt ceilOf x = -((-k) / 4) := by
  obtain ⟨a, m, e, hd⟩ := fin_of h.1
  have q := q4_floor (q4_neg h)
  rw [← neg_floorOf hd] at q
  unfold Flt.toInt
  rw [hd]
  show -floorOf (!a) m e = _
  rw [q]
theorem q4_trunc {x : UInt64} {k : Int} (h : Q4 x k) (hk : 0 ≤ k) : Flt.toInt truncOf x = k / 4 := by
  obtain ⟨a, m, e, hd⟩ := fin_of h.1
  have hv := val_eq hd
  have q := q4_floor h
  have q2 := q4_floor (q4_neg h)
  rw [← neg_floorOf hd] at q2
  have hp : (0 : Int) < 2 ^ 1072 := Int.pow_pos (by decide)
  unfold Flt.toInt at q ⊢
  rw [hd] at q ⊢
  show truncOf a m e = _
  replace q : floorOf a m e = k / 4 := q
  unfold truncOf
  cases a with
  | false => exact q
  | true =>
    have h1 : val x ≤ 0 := by rw [hv]; unfold sgn; rw [if_pos rfl]; exact Int.neg_nonpos_of_nonneg (Int.natCast_nonneg _)
    have h2 : 0 ≤ val x := by rw [h.2]; exact Int.mul_nonneg hk (Int.le_of_lt hp)
    have h3 : k = 0 := by
      have : val x = 0 := Int.le_antisymm h1 h2
      rw [h.2] at this
      exact (Int.mul_eq_zero.mp this).resolve_right (Int.ne_of_gt hp)
    subst h3
    unfold ceilOf
    rw [if_pos rfl, q2]
    rfl

/-- the floor of a quotient of ints, rounded, is the quotient -/
theorem quot_floor (n d : Nat) (hn : n < 2 ^ 40) (hd : 0 < d) (hd2 : d < 2 ^ 10) : Float64.isFinite (ofFrac false n d) = true ∧ Flt.toInt floorOf (ofFrac false n d) = ((n / d : Nat) : Int) := by
  have R : Right (ofFrac false n d) false (n * 2 ^ 1074) d := ofFrac_right hd (by rw [Nat.mul_assoc]) hd
  have hq := Nat.div_add_mod n d
  have hr := Nat.mod_lt n hd
  generalize hQ : n / d = q at *
  generalize hM : n % d = r at *
  have hqn : q ≤ n := by rw [← hQ]; exact Nat.div_le_self _ _
  obtain ⟨t1, ht1, hV1⟩ := V_has q 1074 (by omega) (by decide) (by decide)
  obtain ⟨t2, ht2, hV2⟩ := V_has ((q + 1) * 2 ^ 11 - 1) 1063 (by omega) (by decide) (by decide)
  obtain ⟨t, hrr, hle, hover, hnear⟩ := R
  have hW : n * 2 ^ 1074 < d * 2 ^ 1600 := by
    calc n * 2 ^ 1074 < 2 ^ 40 * 2 ^ 1074 := Nat.mul_lt_mul_of_pos_right hn (Nat.two_pow_pos _)
      _ ≤ 2 ^ 1600 := by rw [← Nat.pow_add]; exact Nat.pow_le_pow_right (by decide) (by decide)
      _ ≤ d * 2 ^ 1600 := Nat.le_mul_of_pos_left _ hd
  have ht : t < infMag := by
    rcases Nat.lt_or_ge t infMag with h | h
    · exact h
    · exact absurd (hover.mp (Nat.le_antisymm hle h)) (big_gap _ _ hd (Nat.le_trans (Nat.le_of_lt hd2) (Nat.pow_le_pow_right (by decide) (by decide))) hW)
  rw [hrr]
  obtain ⟨m, e', hdec, hv⟩ := decode_pack false ht
  have hfin := isFinite_of hdec
  refine ⟨hfin, ?_⟩
  rw [floor_val hfin, val_pack false ht]
  have n1 := (hnear ht t1).1
  have n2 := (hnear ht t2).1
  rw [hV1] at n1
  rw [hV2] at n2
  have ep : (2 : Nat) ^ 1074 = 2 ^ 11 * 2 ^ 1063 := by rw [← Nat.pow_add]
  have hZ : 0 < (2 : Nat) ^ 1063 := Nat.two_pow_pos _
  have hs : sgn false (V t) = ((V t : Nat) : Int) := by unfold sgn; rw [if_neg (by decide)]
  rw [hs]
  have e3 : ((2 : Int) ^ 1074) = ((2 ^ 1074 : Nat) : Int) := by rw [Int.natCast_pow]; rfl
  rw [e3]
  generalize V t = v at *
  have bounds : q * 2 ^ 1074 ≤ v ∧ v < (q + 1) * 2 ^ 1074 := by
    rw [ep] at n1 n2 ⊢
    generalize (2 : Nat) ^ 1063 = Z at *
    have x1 : n * (2 ^ 11 * Z) = d * (q * (2 ^ 11 * Z)) + r * (2 ^ 11 * Z) := by rw [← hq, Nat.add_mul, Nat.mul_assoc]
    have x2 : d * ((q + 1) * (2 ^ 11 * Z)) = d * (q * (2 ^ 11 * Z)) + d * (2 ^ 11 * Z) := by rw [← Nat.mul_add, Nat.add_mul, Nat.one_mul]
    have x3 : d * (((q + 1) * 2 ^ 11 - 1) * Z) + d * Z = d * ((q + 1) * (2 ^ 11 * Z)) := by
      rw [← Nat.mul_add]
      refine congrArg (d * ·) ?_
      show ((q + 1) * 2 ^ 11 - 1) * Z + Z = (q + 1) * (2 ^ 11 * Z)
      rw [← Nat.mul_assoc, Nat.sub_mul, Nat.one_mul]
      have : 1 * Z ≤ (q + 1) * 2 ^ 11 * Z := Nat.mul_le_mul_right Z (by omega)
      rw [Nat.one_mul] at this
      exact Nat.sub_add_cancel this
    constructor
    · rcases Nat.lt_or_ge v (q * (2 ^ 11 * Z)) with h | h
      · exfalso
        have y : d * v < d * (q * (2 ^ 11 * Z)) := Nat.mul_lt_mul_of_pos_left h hd
        unfold dist at n1
        omega
      · exact h
    · rcases Nat.lt_or_ge v ((q + 1) * (2 ^ 11 * Z)) with h | h
      · exact h
      · exfalso
        have y : d * ((q + 1) * (2 ^ 11 * Z)) ≤ d * v := Nat.mul_le_mul_left d h
        have z1 : r * (2 ^ 11 * Z) + 2 ^ 11 * Z ≤ d * (2 ^ 11 * Z) := by
          have := Nat.mul_le_mul_right (2 ^ 11 * Z) (Nat.succ_le_of_lt hr)
          rw [Nat.succ_mul] at this
          exact this
        have z2 : d * Z < 2 ^ 10 * Z := Nat.mul_lt_mul_of_pos_right hd2 hZ
        have z4 : 0 < d * Z := Nat.mul_pos hd hZ
        have z3 : 2 ^ 11 * Z = 2 * (2 ^ 10 * Z) := by rw [← Nat.mul_assoc]
        generalize 2 ^ 11 * Z = X at *
        generalize 2 ^ 10 * Z = X2 at *
        generalize n * X = A at *
        generalize d * (q * X) = B at *
        generalize r * X = C at *
        generalize d * X = D at *
        generalize d * ((q + 1) * X) = E at *
        generalize d * (((q + 1) * 2 ^ 11 - 1) * Z) = G at *
        generalize d * Z = H at *
        generalize d * v = J at *
        clear n1 hover hnear
        unfold dist at n2
        omega
  have hpz : (0 : Int) < ((2 ^ 1074 : Nat) : Int) := Int.ofNat_lt.mpr (Nat.two_pow_pos _)
  rw [Int.fdiv_eq_ediv_of_nonneg _ (Int.le_of_lt hpz), ← Int.natCast_ediv]
  have hdiv : v / 2 ^ 1074 = q := by
    clear hover hnear n1 n2 hV1 hV2 ep hW e3 hpz
    generalize (2 : Nat) ^ 1074 = Y at *
    exact Nat.div_eq_of_lt_le bounds.1 bounds.2
  rw [hdiv]
end Mine
end
section
open PySem PySem.W PyProof.Rows PySem.Calls PySem.Spec PyProof.Rows.LCg
set_option linter.unusedVariables false
set_option maxRecDepth 100000
namespace Mine

/-! ### contracts -/
abbrev Led := List (Addr × Obj)
/-- no address stands in both -/
def Apart (a b : Led) : Prop := ∀ p ∈ a, ∀ q ∈ b, @Ne Nat p.1 q.1
/-- what a call hands back: the ledger with the new objects ahead -/
abbrev Ret (h₀ : Heap) (L : Addr) (m : Str → Option Value) (news : Led) (s : Shared) (Q : Value → Shared → Prop) (Post : Led → Value → Prop) : Prop :=
  ∀ (v : Value) (add : Led) (h' : Heap) (tk' : Nat), Fr h₀ L h' m → News h₀ L h' (add ++ news) → Apart add news → Post add v → Q v { s with heap := h', toks := tk' }
abbrev Ret0 (h₀ : Heap) (L : Addr) (m : Str → Option Value) (news : Led) (s : Shared) (Q : Value → Shared → Prop) (Post : Value → Prop) : Prop :=
  ∀ (v : Value) (h' : Heap) (tk' : Nat), Fr h₀ L h' m → News h₀ L h' news → Post v → Q v { s with heap := h', toks := tk' }

/-- a def that makes nothing that stays -/
def Ctr0 (prog : Program) (w : World) (K : Frag) (d : Nat) (f : Addr) (vs : List Value) (Post : Value → Prop) : Prop :=
  ∀ (p : Program) (loose : List Str) (mean : ExcName → Option Value) (mg mb : Str → Option Value) (dp un : Nat) (gd : Option (List Code)) (cn : Str) (cs : Scope) (a : Addr) (ccd : Value) (cl : List (Str × Addr)) (outer : List Env) (A₀ : Around) (base h₀ : Heap) (L : Addr) (m : Str → Option Value) (news : Led) (s : Shared) (Q E : Value → Shared → Prop),
    Below A₀ base outer h₀ → Fr h₀ L s.heap m → K.In h₀ → News h₀ L s.heap news → Top p loose mean mg mb h₀ → cs.kind = .function → dp + d < recursionLimit → un + (8 * d + 80) < cLine →
    Ret0 h₀ L m news s Q Post →
    wpAny (model prog w) (ktrTop dp un gd cn cs L a ccd cl outer) (call (.ref f) vs) Q E s
/-- a def that hands back new objects, and reads those of the ledger -/
def Ctr (prog : Program) (w : World) (K : Frag) (d : Nat) (f : Addr) (vs : List Value) (Pre : Led → Prop) (Post : Led → Value → Prop) : Prop :=
  ∀ (p : Program) (loose : List Str) (mean : ExcName → Option Value) (mg mb : Str → Option Value) (dp un : Nat) (gd : Option (List Code)) (cn : Str) (cs : Scope) (a : Addr) (ccd : Value) (cl : List (Str × Addr)) (outer : List Env) (A₀ : Around) (base h₀ : Heap) (L : Addr) (m : Str → Option Value) (news : Led) (s : Shared) (Q E : Value → Shared → Prop),
    Below A₀ base outer h₀ → Fr h₀ L s.heap m → K.In h₀ → News h₀ L s.heap news → Top p loose mean mg mb h₀ → cs.kind = .function → dp + d < recursionLimit → un + (8 * d + 80) < cLine → Pre news →
    Ret h₀ L m news s Q Post →
    wpAny (model prog w) (ktrTop dp un gd cn cs L a ccd cl outer) (call (.ref f) vs) Q E s

/-! ### cells, rows, leaves as data -/
def cellD : Option Int → Dat
  | none => .none
  | some i => .int i
def rowD (cs : List (Option Int)) : Dat := .list (cs.map cellD)
def leafD (rows : List (List (Option Int))) : Dat := .list (rows.map rowD)
def chunk (xs : List (Option Int)) (k : Nat) : List (List (Option Int)) := (List.range k).map fun i => (xs.drop (7 * i)).take 7
def dayNs (n : Nat) : List (Option Int) := (List.range n).map fun (i : Nat) => some ((i : Int) + 1)
/-- the helper's days, and its leaf -/
def daysL (lp n : Nat) : List (Option Int) := List.replicate lp none ++ dayNs n ++ List.replicate 7 none
def leafL (lp n : Nat) : List (List (Option Int)) := chunk (daysL lp n) ((lp + n + 6) / 7)

theorem datAll_rep (news : Led) (k : Nat) : DatAll news (List.replicate k Value.none) ((List.replicate k (none : Option Int)).map cellD) := by
  induction k with
  | zero => exact .nil
  | succ k ih => exact .cons .none ih
theorem datAll_map_ints {news : Led} : ∀ {vs : List Value} {ns : List Int}, IntsAre vs ns → DatAll news vs ((ns.map some).map cellD)
  | _, _, .nil => .nil
  | _, _, .cons i t h => .cons (.int _ _) (datAll_map_ints h)
theorem DatAll.drop' {news : Led} : ∀ {vs : List Value} {ds : List Dat}, DatAll news vs ds → ∀ k : Nat, DatAll news (vs.drop k) (ds.drop k)
  | _, _, h, 0 => by simpa using h
  | _, _, .nil, _ + 1 => .nil
  | _, _, .cons _ h, k + 1 => DatAll.drop' h k
theorem DatAll.take' {news : Led} : ∀ {vs : List Value} {ds : List Dat}, DatAll news vs ds → ∀ k : Nat, DatAll news (vs.take k) (ds.take k)
  | _, _, _, 0 => .nil
  | _, _, .nil, _ + 1 => .nil
  | _, _, .cons x h, k + 1 => .cons x (DatAll.take' h k)

/-! ### list rules over the ledger -/
section
variable {prog : Program} {w : World} {A : Around} {E : Value → Shared → Prop} {s : Shared} {h₀ : Heap} {L : Addr} {m : Str → Option Value} {news : Led}

theorem foldl_rep (v : Value) (n : Nat) (acc : Array Value) : List.foldl (fun x1 x2 => x1 ++ x2) acc (List.replicate n #[v]) = acc ++ (List.replicate n v).toArray := by
  induction n generalizing acc with
  | zero => simp
  | succ n ih =>
    rw [List.replicate_succ, List.foldl_cons, ih]
    apply Array.ext'
    simp [List.replicate_succ]

theorem m_mul1 {l : Addr} {v : Value} {k : Nat} {x : Int} {u : Tok} {Q : Value → Shared → Prop} (F : Fr h₀ L s.heap m) (N : News h₀ L s.heap news) (hl : (l, listOf [v].toArray k) ∈ news) (h0 : 0 ≤ x) (h1 : x ≤ 10000)
    (h : ∀ D h', Fr h₀ L h' m → News h₀ L h' ((D, listOf (List.replicate x.toNat v).toArray 0) :: news) → (∀ p ∈ news, p.1 < D) → Q (.ref D) { s with heap := h' }) :
    wpAny (model prog w) A (binaryOp .Mult (.ref l) (.int x u)) Q E s := by
  refine mul_list F N (N.get hl) (by omega) (by omega) (by simp; omega) fun h' F' N' => ?_
  refine h _ h' F' ?_ fun p hp => Heap.lt_size (N p hp).1
  have e : List.foldl (fun x1 x2 => x1 ++ x2) #[] (List.replicate (if ([v].toArray).isEmpty = true then 0 else x.toNat) [v].toArray) = (List.replicate x.toNat v).toArray := by
    have := foldl_rep v x.toNat #[]
    simpa using this
  rw [e] at N'
  exact N'
theorem m_mul1r {l : Addr} {v : Value} {k : Nat} {x : Int} {u : Tok} {Q : Value → Shared → Prop} (F : Fr h₀ L s.heap m) (N : News h₀ L s.heap news) (hl : (l, listOf [v].toArray k) ∈ news) (h0 : 0 ≤ x) (h1 : x ≤ 10000)
    (h : ∀ D h', Fr h₀ L h' m → News h₀ L h' ((D, listOf (List.replicate x.toNat v).toArray 0) :: news) → (∀ p ∈ news, p.1 < D) → Q (.ref D) { s with heap := h' }) :
    wpAny (model prog w) A (binaryOp .Mult (.int x u) (.ref l)) Q E s := by
  refine mul_list_r F N (N.get hl) (by omega) (by omega) (by simp; omega) fun h' F' N' => ?_
  refine h _ h' F' ?_ fun p hp => Heap.lt_size (N p hp).1
  have e : List.foldl (fun x1 x2 => x1 ++ x2) #[] (List.replicate (if ([v].toArray).isEmpty = true then 0 else x.toNat) [v].toArray) = (List.replicate x.toNat v).toArray := by
    have := foldl_rep v x.toNat #[]
    simpa using this
  rw [e] at N'
  exact N'
theorem m_add {l b : Addr} {vs ws : List Value} {k j : Nat} {Q : Value → Shared → Prop} (F : Fr h₀ L s.heap m) (N : News h₀ L s.heap news) (hl : (l, listOf vs.toArray k) ∈ news) (hb : (b, listOf ws.toArray j) ∈ news)
    (hsz : vs.length + ws.length ≤ 100000)
    (h : ∀ D h', Fr h₀ L h' m → News h₀ L h' ((D, listOf (vs ++ ws).toArray 0) :: news) → (∀ p ∈ news, p.1 < D) → Q (.ref D) { s with heap := h' }) :
    wpAny (model prog w) A (binaryOp .Add (.ref l) (.ref b)) Q E s := by
  refine add_lists (hsz := by rw [sizeLine_eq]; omega) F N ⟨_, N.get hl, rfl, k, rfl⟩ ⟨_, N.get hb, rfl, j, rfl⟩ fun h' F' N' => ?_
  exact h _ h' F' N' fun p hp => Heap.lt_size (N p hp).1

theorem m_listRange {r : Addr} {a b : Int} {t u v : Tok} {n : Nat} {Q : Value → Shared → Prop} (hh : A.handled = none) (F : Fr h₀ L s.heap m) (N : News h₀ L s.heap news)
    (hr : IsRange s.heap r a b 1 t u v) (hsmall : Builtin.Range.small a b 1 = true) (hn : Builtin.Range.rangeSize a b 1 = (n : Int)) (hlen : n ≤ 2 ^ 24)
    (h : ∀ D h' tk ys c, Fr h₀ L h' m → News h₀ L h' ((D, listOf (List.toArray ys) c) :: news) → (∀ p ∈ news, p.1 < D) → IntsAre ys (rangeKs a n) → Q (.ref D) { s with heap := h', toks := tk }) :
    wpAny (model prog w) A (call (.type "list") [.ref r]) Q E s := by
  refine call_list_range hh hr hsmall hn hlen fun h' tk acc' c' hk hS' hacc => ?_
  have hD0 : h₀.get? s.heap.objs.size = none := next_is_new F
  have hDL : s.heap.objs.size ≠ L := Nat.ne_of_gt F.ns.lt
  refine h _ h' tk acc'.toList c' (F.keeps hk) ?_ (fun p hp => Heap.lt_size (N p hp).1) ?_
  · intro p hp
    rcases List.mem_cons.mp hp with rfl | hp
    · exact ⟨by simpa using hS', hDL, hD0⟩
    · exact ⟨hk _ _ (N p hp).1, (N p hp).2⟩
  · obtain ⟨h1, h2⟩ := hacc
    have key : ∀ (ys : List Value) (a : Int), (∀ i v, ys[i]? = some v → ∃ t, v = Value.int (a + (i : Nat) * 1) t) → IntsAre ys (rangeKs a ys.length) := by
      intro ys
      induction ys with
      | nil => intro a _; exact .nil
      | cons y ys ih =>
        intro a hy
        obtain ⟨t, ht⟩ := hy 0 y rfl
        have e : rangeKs a (y :: ys).length = a :: rangeKs (a + 1) ys.length := by
          unfold rangeKs
          rw [List.length_cons, List.range_succ_eq_map, List.map_cons, List.map_map]
          congr 1
          · simp
          · apply List.map_congr_left
            intro i _
            simp only [Function.comp]
            omega
        rw [e, ht]
        have e0 : a + ((0 : Nat) : Int) * 1 = a := by omega
        rw [e0]
        refine .cons _ _ (ih (a + 1) fun i v hv => ?_)
        obtain ⟨t', ht'⟩ := hy (i + 1) v (by simpa using hv)
        refine ⟨t', ?_⟩
        rw [ht']
        congr 1
        omega
    have := key acc'.toList a (fun i v hv => h2 i v (by simpa using hv))
    rw [Array.length_toList, h1] at this
    exact this
end

/-! ### a comprehension over a range by steps -/

section
variable {prog : Program} {w : World} {A : Around} {E : Value → Shared → Prop} {s : Shared} {h₀ : Heap} {L : Addr} {m : Str → Option Value} {env : Env}

/-- the turns by an invariant -/
theorem rest_inv {elt : Expr} {x : Str} {scope : Scope} {cl : List (Str × Addr)} {S : Led → Prop} {P : Nat → Value → Prop} {Fin : List Value → Led → Prop} {n : Nat} (J : Nat → List Value → Led → Prop)
    (turn : ∀ i ys news v I oI C oC D m₂ h tk (E' : Value → Shared → Prop), i < n → J i ys news → P i v → NsObj oC m₂ → m₂ x = some v → Fr h₀ L h m → News h₀ L h ((I, oI) :: (C, oC) :: (D, lst ys) :: news) → Off3 I C D news → ((@Ne Nat I C) ∧ (@Ne Nat I D) ∧ (@Ne Nat C D)) →
      wpAny (model prog w) A (eval elt (compEnvC scope cl C env)) (CompEnd h₀ L m { s with heap := h, toks := tk } I oI C oC D (lst ys) S (fun y news' => J (i + 1) (ys ++ [y]) news')) E' { s with heap := h, toks := tk })
    (fin : ∀ ys news, J n ys news → Fin ys news) : ∀ (k i : Nat) (ys : List Value) (news : Led), i + k = n → J i ys news → CompRest prog w A h₀ L m env elt x scope cl s S P Fin k i ys news := by
  intro k
  induction k with
  | zero =>
    intro i ys news e hJ
    obtain rfl : i = n := e
    exact CompRest.zero (fin _ _ hJ)
  | succ k ih =>
    intro i ys news e hJ
    refine CompRest.succ fun v I oI C oC D m₂ h tk E' hP hC hx F N off ne => ?_
    refine wpAny_mono (turn i ys news v I oI C oC D m₂ h tk E' (by omega) hJ hP hC hx F N off ne) (fun y s' he => ?_) fun _ _ e => e
    obtain ⟨h', tk', news', e', F', N', off', hS', hj⟩ := he
    exact ⟨h', tk', news', e', F', N', off', hS', ih (i + 1) (ys ++ [y]) news' (by omega) hj⟩

def SrcStep (prog : Program) (w : World) (A : Around) (h₀ : Heap) (L : Addr) (m : Str → Option Value) (env : Env) (elt : Expr) (x : Str) (scope : Scope) (cl : List (Str × Addr)) (Fin : Shared → List Value → Led → Prop) (xv : Value) (s₁ : Shared) : Prop :=
  ∃ r a b c t u v n news, xv = .ref r ∧ A.handled = none ∧ Fr h₀ L s₁.heap m ∧ News h₀ L s₁.heap news ∧ IsRange s₁.heap r a b c t u v ∧ Builtin.Range.small a b c = true ∧ Builtin.Range.rangeSize a b c = ((n : Nat) : Int) ∧ n ≤ sizeLine ∧
    ∀ s₂ : Shared, (∃ h, s₂ = { s₁ with heap := h }) → CompRest prog w A h₀ L m env elt x scope cl s₂ (fun _ => True) (fun i v => ∃ t, v = .int (a + (i : Int) * c) t) (Fin s₂) n 0 [] news

theorem ListComp_step {elt iter : Expr} {x : Str} {px : Pos} {scope : Scope} {cl : List (Str × Addr)} {pos : Pos} {Q : Value → Shared → Prop} (F₀ : Fr h₀ L s.heap m)
    (hclos : closureFor scope env = pure cl) (hcell : ∀ y ∈ scope.names, y.2 ≠ .cell) (hkind : scope.kind = .function)
    (hnames : ∀ y ∈ scope.names, y.2 = .local → scope.names.lookup y.1 = some .local) (hx : scope.names.lookup x = some .local)
    (h : wpAny (model prog w) A (eval iter env) (SrcStep prog w A h₀ L m env elt x scope cl (fun s₂ => FinE h₀ L m s₂ Q)) E s)
    (hs : ∀ x, foldedSetIterable iter env x = pure x := by intro _; rfl) :
    wpAny (model prog w) A (eval (.ListComp elt [⟨.Name x px, iter, [], 0⟩] scope pos) env) Q E s := by
  rw [eval_ListComp]
  refine wpAny_comprehension_free (use := none) rfl hs hclos hkind hnames (wpAny_mono h (fun xv s₁ h₁ => ?_) fun _ _ e => e)
  obtain ⟨r, a, b, c, t, u, v, n, news, rfl, hh, F, N, hr, hsm, hn, hsz, R⟩ := h₁
  refine wpAny_pyIter_range hr hsm ?_
  have W : Walks prog w A s₁.heap.objs.size [s₁.heap.objs.size] [s₁.heap.objs.size] n (fun i v => ∃ t, v = .int (a + (i : Int) * c) t) (fun i h => IsRangeIter h s₁.heap.objs.size (a + (i : Nat) * c) ((n : Int) - (i : Nat)) c) := Walks.range hh _ a c n
  refine block_U (S := fun _ => True) W hsz (fun i h st => ⟨_, st⟩) (fun i h h' o nw st e e' _ _ _ => ?_) hcell hkind hx (by show IsRangeIter _ _ _ _ _; rw [hn]; simpa using Heap.get?_push_size _ rfl) (fun b hb => ?_)
    (F.keeps fun _ _ e => Heap.get?_push_of_some _ e) (N.grown fun _ _ e => Heap.get?_push_of_some _ e) (Nat.ne_of_lt F.ns.lt) (next_is_new F) (fun p hp => Nat.ne_of_lt (Heap.lt_size (N p hp).1)) trivial (R _ ⟨_, rfl⟩) ?_
  · have st' : h.get? s₁.heap.objs.size = some _ := st
    show h'.get? s₁.heap.objs.size = some _
    rw [e', ← e]; exact st'
  · rw [List.mem_singleton.mp hb]
    show s₁.heap.objs.size < (s₁.heap.push _).objs.size
    rw [Heap.size_push]; exact Nat.lt_succ_self _
  · intro D C h tk m' ys news' F' N' o1 hn' hC₀ hD₀ hCL hDL hCD offC fin
    refine ⟨m', hn', fun h'' hs'' => fin D h'' tk (F'.change hs'' hCL hC₀) (fun p hp => ?_) o1⟩
    refine ⟨hs''.extBut _ _ ?_ (N' p hp).1, (N' p hp).2⟩
    rcases List.mem_cons.mp hp with rfl | hp
    · exact Ne.symm hCD
    · exact offC p hp
end

end Mine
namespace Mine
theorem fmod_lit (x : Int) (n : Nat) : x.fmod (no_index (OfNat.ofNat n)) = x % (OfNat.ofNat n) := Int.fmod_eq_emod_of_nonneg _ (Int.natCast_nonneg n)
theorem fdiv_lit (x : Int) (n : Nat) : x.fdiv (no_index (OfNat.ofNat n)) = x / (OfNat.ofNat n) := Int.fdiv_eq_ediv_of_nonneg _ (Int.natCast_nonneg n)
theorem range_size {a b : Int} {n : Nat} (h : b - a = (n : Int)) : Builtin.Range.rangeSize a b 1 = (n : Int) := by
  unfold Builtin.Range.rangeSize
  simp only [show (1 : Int) > 0 by decide, if_true]
  split <;> omega
theorem fitsLong {x : Int} (h1 : -(2 ^ 62) ≤ x) (h2 : x ≤ 2 ^ 62) : Builtin.Range.rangeFitsLong x = true := by
  unfold Builtin.Range.rangeFitsLong
  simp
  omega
theorem range_small_of {a b c : Int} (h1 : -1000000 ≤ a ∧ a ≤ 1000000) (h2 : -1000000 ≤ b ∧ b ≤ 1000000) (h3 : 0 < c ∧ c ≤ 1000) (h4 : -10000000 ≤ Builtin.Range.rangeSize a b c ∧ Builtin.Range.rangeSize a b c ≤ 10000000) : Builtin.Range.small a b c = true := by
  unfold Builtin.Range.small
  rw [fitsLong (by omega) (by omega), fitsLong (by omega) (by omega), fitsLong (by omega) (by omega), fitsLong (by omega) (by omega), if_pos h3.1, fitsLong (by omega) (by omega)]
  simp
theorem range_small {a b : Int} (h1 : -1000000 ≤ a ∧ a ≤ 1000000) (h2 : -1000000 ≤ b ∧ b ≤ 1000000) : Builtin.Range.small a b 1 = true := by
  refine range_small_of h1 h2 (by decide) ?_
  unfold Builtin.Range.rangeSize
  simp only [show (1 : Int) > 0 by decide, if_true]
  split <;> omega
theorem range_small7 {a b : Int} (h1 : -1000000 ≤ a ∧ a ≤ 1000000) (h2 : -1000000 ≤ b ∧ b ≤ 1000000) : Builtin.Range.small a b 7 = true := by
  refine range_small_of h1 h2 (by decide) ?_
  unfold Builtin.Range.rangeSize
  simp only [show (7 : Int) > 0 by decide, if_true]
  split <;> omega
theorem range_size7 {b : Int} {n : Nat} (h0 : 0 ≤ b) (h : (b + 6) / 7 = (n : Int)) : Builtin.Range.rangeSize 0 b 7 = (n : Int) := by
  unfold Builtin.Range.rangeSize
  simp only [show (7 : Int) > 0 by decide, if_true]
  split <;> omega
end Mine
namespace Mine
theorem pick7 (vs : List Value) (i : Nat) {a b : Int} (ha : a = 7 * (i : Int)) (hb : b = 7 * (i : Int) + 7) : kms_pick vs (some a) (some b) = (vs.drop (7 * i)).take 7 := by
  subst ha hb
  unfold kms_pick
  have e1 : kms_lo (some (7 * (i : Int))) vs.length = min (7 * i) vs.length := by
    unfold kms_lo
    simp only
    rw [if_neg (by omega)]
    omega
  have e2 : kms_hi (some (7 * (i : Int) + 7)) vs.length = min (7 * i + 7) vs.length := by
    unfold kms_hi
    simp only
    rw [if_neg (by omega)]
    omega
  rw [e1, e2, kmk_drop_min]
  have e3 : (vs.drop (7 * i)).length = vs.length - 7 * i := List.length_drop
  rcases Nat.le_total (7 * i + 7) vs.length with h | h
  · congr 1
    omega
  · rw [List.take_of_length_le (by omega), List.take_of_length_le (by omega)]

/-- the end of an element: one new list on the ledger -/
def RowEnd (h₀ : Heap) (L : Addr) (m : Str → Option Value) (led : Led) (ws : List Value) (s₁ : Shared) (y : Value) (s' : Shared) : Prop :=
  ∃ D' h' tk' c, y = .ref D' ∧ s' = { s₁ with heap := h', toks := tk' } ∧ Fr h₀ L h' m ∧ News h₀ L h' ((D', listOf ws.toArray c) :: led) ∧ ∀ p ∈ led, @LT.lt Nat _ p.1 D'

theorem chunk_succ (xs : List (Option Int)) (k : Nat) : chunk xs (k + 1) = chunk xs k ++ [(xs.drop (7 * k)).take 7] := by
  unfold chunk
  rw [List.range_succ, List.map_append]
  rfl

section
variable {prog : Program} {w : World} {A : Around} {E : Value → Shared → Prop} {s : Shared} {h₀ : Heap} {L : Addr} {m : Str → Option Value} {env : Env}
/-- [xs[i:i + 7] for i in range(0, b, 7)] -/
theorem comp7 {elt : Expr} {x : Str} {scope : Scope} {cl : List (Str × Addr)} {Q : Value → Shared → Prop} {r : Addr} {b : Int} {t u v : Tok} {n : Nat} {base : Led} {vs : List Value} {xs : List (Option Int)}
    (hh : A.handled = none) (F : Fr h₀ L s.heap m) (N : News h₀ L s.heap base) (hr : IsRange s.heap r 0 b 7 t u v) (hb : 0 ≤ b ∧ b ≤ 10000) (hn : (b + 6) / 7 = (n : Int)) (hx : DatAll [] vs (xs.map cellD))
    (turn : ∀ (i : Nat) (rows : Led) ys t I oI C oC D m₂ h tk (E' : Value → Shared → Prop), i < n → NsObj oC m₂ → m₂ x = some (.int (0 + (i : Int) * 7) t) → Fr h₀ L h m → News h₀ L h ((I, oI) :: (C, oC) :: (D, lst ys) :: (base ++ rows)) →
      wpAny (model prog w) A (eval elt (compEnvC scope cl C env)) (RowEnd h₀ L m ((I, oI) :: (C, oC) :: (D, lst ys) :: (base ++ rows)) ((vs.drop (7 * i)).take 7) { s with heap := h, toks := tk }) E' { s with heap := h, toks := tk })
    (fin : ∀ D h tk ys rows, Fr h₀ L h m → News h₀ L h ((D, lst ys) :: (rows ++ base)) → Apart ((D, lst ys) :: rows) base → DatAll rows ys ((chunk xs n).map rowD) → Q (.ref D) { s with heap := h, toks := tk }) :
    SrcStep prog w A h₀ L m env elt x scope cl (fun s₂ => FinE h₀ L m s₂ Q) (.ref r) s := by
  refine ⟨r, 0, b, 7, t, u, v, n, base, rfl, hh, F, N, hr, range_small7 (by omega) (by omega), range_size7 hb.1 hn, by rw [sizeLine_eq]; omega, ?_⟩
  rintro _ ⟨g, rfl⟩
  refine rest_inv (n := n) (fun i ys nw => ∃ rows, nw = base ++ rows ∧ Apart rows base ∧ DatAll rows ys ((chunk xs i).map rowD)) ?_ ?_ n 0 [] base (by omega) ⟨[], by simp, fun _ hp => absurd hp List.not_mem_nil, .nil⟩
  · rintro i ys _ v I oI C oC D m₂ h tk E' hi ⟨rows, rfl, ha, hd⟩ ⟨t', rfl⟩ hC hx' F' N' off ne
    refine wpAny_mono (turn i rows ys t' I oI C oC D m₂ h tk E' hi hC hx' F' N') (fun y s' he => ?_) fun _ _ e => e
    obtain ⟨D', h', tk', c, rfl, rfl, F₂, N₂, lt⟩ := he
    refine ⟨h', tk', base ++ ((D', listOf ((vs.drop (7 * i)).take 7).toArray c) :: rows), rfl, F₂, fun p hp => N₂ p ?_, ?_, trivial, _, rfl, ?_, ?_⟩
    · simp only [List.mem_cons, List.mem_append] at hp ⊢
      rcases hp with h | h | h | h | h | h
      · exact .inr (.inl h)
      · exact .inr (.inr (.inl h))
      · exact .inr (.inr (.inr (.inl h)))
      · exact .inr (.inr (.inr (.inr (.inl h))))
      · exact .inl h
      · exact .inr (.inr (.inr (.inr (.inr h))))
    · refine Off3.of fun p hp => ?_
      have o3 := off.mem
      have l1 := lt (I, oI) (by simp)
      have l2 := lt (C, oC) (by simp)
      have l3 := lt (D, lst ys) (by simp)
      simp only [List.mem_cons, List.mem_append] at hp
      rcases hp with h | rfl | h
      · exact o3 p (List.mem_append_left _ h)
      · exact ⟨Nat.ne_of_gt l1, Nat.ne_of_gt l2, Nat.ne_of_gt l3⟩
      · exact o3 p (List.mem_append_right _ h)
    · intro p hp q hq
      rcases List.mem_cons.mp hp with rfl | hp
      · exact Nat.ne_of_gt (lt q (by simp [hq]))
      · exact ha p hp q hq
    · rw [chunk_succ, List.map_append]
      refine DatAll.append (hd.mono fun p hp => List.mem_cons_of_mem _ hp) (.one (.list (List.mem_cons_self) ?_))
      rw [List.map_take, List.map_drop]
      exact DatAll.take' (DatAll.drop' (hx.mono fun _ hp => absurd hp List.not_mem_nil) _) _
  · rintro ys _ ⟨rows, rfl, ha, hd⟩ D h tk F' N' o1
    refine fin D h tk ys rows F' (fun p hp => N' p ?_) ?_ hd
    · simp only [List.mem_cons, List.mem_append] at hp ⊢
      rcases hp with h | h | h
      · exact .inl h
      · exact .inr (.inr h)
      · exact .inr (.inl h)
    · have off1 : ∀ (l : Led), Off1 D l → ∀ p ∈ l, @Ne Nat p.1 D := by
        intro l
        induction l with
        | nil => intro _ p hp; exact nomatch hp
        | cons a l ih =>
          intro o p hp
          rcases List.mem_cons.mp hp with rfl | hp
          · exact o.1
          · exact ih o.2 p hp
      intro p hp q hq
      rcases List.mem_cons.mp hp with rfl | hp
      · exact Ne.symm (off1 _ o1 q (List.mem_append_left _ hq))
      · exact ha p hp q hq
end

/-- all of the ledger stands below d -/
def Bnd (d : Addr) (l : Led) : Prop := ∀ p ∈ l, p.1 < d
theorem Bnd.ne {d e : Addr} {l : Led} (h : Bnd d l) (k : @LE.le Nat _ d e) : ∀ p ∈ l, p.1 ≠ e := fun p hp => Nat.ne_of_lt (Nat.lt_of_lt_of_le (h p hp) k)
theorem Bnd.lt {d e : Addr} {l : Led} (h : Bnd d l) (k : @LE.le Nat _ d e) : ∀ p ∈ l, p.1 < e := fun p hp => Nat.lt_of_lt_of_le (h p hp) k
end Mine
namespace Mine
theorem rangeKs_days (N : Nat) : (rangeKs 1 N).map some = dayNs N := by
  unfold rangeKs dayNs
  rw [List.map_map]
  apply List.map_congr_left
  intro i _
  simp only [Function.comp]
  congr 1
  omega
theorem days_all {vs : List Value} {N : Nat} (h : IntsAre vs (rangeKs 1 N)) (lp : Nat) : DatAll [] (List.replicate lp Value.none ++ vs ++ List.replicate (Int.toNat 7) Value.none) ((daysL lp N).map cellD) := by
  unfold daysL
  rw [List.map_append, List.map_append, ← rangeKs_days]
  exact ((datAll_rep [] lp).append (datAll_map_ints h)).append (datAll_rep [] 7)
end Mine
namespace Mine
theorem pick7' (vs : List Value) (i : Nat) : kms_pick vs (some (0 + (i : Int) * 7)) (some (0 + (i : Int) * 7 + 7)) = (vs.drop (7 * i)).take 7 := pick7 vs i (by omega) (by omega)
theorem News.sub {h₀ h : Heap} {L : Addr} {a b : Led} (N : News h₀ L h a) (s : ∀ p ∈ b, p ∈ a) : News h₀ L h b := fun p hp => N p (s p hp)
theorem Apart.sub {a b c : Led} (A : Apart a b) (s : ∀ p ∈ c, p ∈ b) : Apart a c := fun p hp q hq => A p hp q (s q hq)
end Mine
end
section
open PySem PySem.W PyProof.Rows PySem.Calls PySem.Spec PyProof.Rows.LCg
set_option linter.unusedVariables false
set_option maxRecDepth 100000
namespace Mine
open PySem.Builtin PySem.Builtin._datetime

theorem mro_date : mroOf (.type "datetime.date") = pure [.type "datetime.date", .type "object"] := by rw [mroOf_type]; kernel_rfl
theorem lookup_date_new : typeLookup (.type "datetime.date") "__new__" = pure (some (.builtin "datetime.date.__new__")) := by rw [typeLookup_type, builtinLookup_eq_fast]; kernel_rfl
theorem sub_date : isSubtype (.type "datetime.date") (.type "datetime.date") = pure true := by rw [isSubtype_type]; kernel_rfl
theorem sub_date_dt : isSubtype (.type "datetime.date") (.type "datetime.datetime") = pure false := by rw [isSubtype_type]; kernel_rfl
theorem slot_date_init : Slot "datetime.date" "__init__" "object.__init__" :=
  .of (owner := "object") (n := "__init__") (by rw [typeLookup_type, builtinLookup_eq_fast]; kernel_rfl) (by decide +kernel) (by decide +kernel) (by decide +kernel)
    (by first | exact .inl (by decide +kernel) | exact .inr (by decide +kernel)) (by rw [isSubtype_type]; kernel_rfl)
theorem slot_date_weekday : Slot "datetime.date" "weekday" "datetime.date.weekday" :=
  .of (owner := "datetime.date") (n := "weekday") (by rw [typeLookup_type, builtinLookup_eq_fast]; kernel_rfl) (by decide +kernel) (by decide +kernel) (by decide +kernel)
    (by first | exact .inl (by decide +kernel) | exact .inr (by decide +kernel)) (by rw [isSubtype_type]; kernel_rfl)
theorem called_date : TypeCalled "datetime.date" "datetime.date.__new__" "object.__init__" :=
  ⟨by decide +kernel, by decide +kernel, ⟨_, _, mro_date⟩, madeBy_type mro_date lookup_date_new (by decide +kernel), by decide +kernel, sub_date, slot_date_init⟩
theorem typeCall_date (a b c : Value) : checkTypeCall "datetime.date" ⟨[a, b, c], []⟩ = pure () := by kernel_rfl
theorem newCall_date (a b c : Value) : checkBuiltinCall "datetime.date.__new__" ⟨[.type "datetime.date", a, b, c], []⟩ = pure () := by kernel_rfl
theorem entry_date_new : entryFor table "datetime.date.__new__" = some Builtin.«datetime.date.__new__» := entryFor_of_tree (by kernel_rfl)
theorem entry_date_weekday : entryFor table "datetime.date.weekday" = some Builtin.«datetime.date.weekday» := entryFor_of_tree (by kernel_rfl)
theorem args_date_weekday (a : Value) : argsOk "datetime.date.weekday" ⟨[a], []⟩ := by unfold argsOk; kernel_rfl
theorem args_oinit_4 (a b c d : Value) : argsOk "object.__init__" ⟨[a, b, c, d], []⟩ := by unfold argsOk; kernel_rfl
theorem newNe_date : (some "datetime.date.__new__" != some "object.__new__") = true := by decide +kernel

theorem cint {i : Int} {t : Tok} (h1 : -1000000 ≤ i) (h2 : i ≤ 1000000) : dtCInt (.int i t) = pure i := by
  unfold dtCInt
  show (do let i ← (pure i : Sem Int); _) = _
  rw [pure_bind]
  have a1 : ¬ ((decide (i ≥ 2 ^ 63) || decide (i < -(2 ^ 63 : Int))) = true) := by
    rw [Bool.or_eq_true, decide_eq_true_eq, decide_eq_true_eq]
    omega
  have a2 : ¬ (i ≥ 2 ^ 31) := by omega
  have a3 : ¬ (i < -(2 ^ 31 : Int)) := by omega
  rw [if_neg a1, if_neg a2, if_neg a3]
theorem bindInts {y m d : Int} {t u v : Tok} (h1 : 1 ≤ y) (h2 : y ≤ 9999) (h3 : 1 ≤ m) (h4 : m ≤ 12) (h5 : 1 ≤ d) (h6 : d ≤ 31) :
    dtBindInts "datetime.date.__new__" "function" ["year", "month", "day"] 3 [.int y t, .int m u, .int d v] [] = pure [some y, some m, some d] := by
  unfold dtBindInts
  have e1 := cint (t := t) (show -1000000 ≤ y by omega) (show y ≤ 1000000 by omega)
  have e2 := cint (t := u) (show -1000000 ≤ m by omega) (show m ≤ 1000000 by omega)
  have e3 := cint (t := v) (show -1000000 ≤ d by omega) (show d ≤ 1000000 by omega)
  simp [e1, e2, e3, dtBind]

theorem dim28 (y : Int) {m : Int} (h3 : 1 ≤ m) (h4 : m ≤ 12) : 28 ≤ daysInMonth y m := by
  have : m = 1 ∨ m = 2 ∨ m = 3 ∨ m = 4 ∨ m = 5 ∨ m = 6 ∨ m = 7 ∨ m = 8 ∨ m = 9 ∨ m = 10 ∨ m = 11 ∨ m = 12 := by omega
  rcases this with h | h | h | h | h | h | h | h | h | h | h | h <;> subst h <;> unfold daysInMonth <;> split <;> decide
theorem meets_date_new {y m d : Int} {t u v : Tok} (h1 : 1 ≤ y) (h2 : y ≤ 9999) (h3 : 1 ≤ m) (h4 : m ≤ 12) (h5 : 1 ≤ d) (h6 : d ≤ 28) :
    Meets (Builtin.«datetime.date.__new__» ⟨[.type "datetime.date", .int y t, .int m u, .int d v], []⟩)
      (fun _ R s => R (.ok (.ret (.ref s.heap.objs.size))) { s with heap := s.heap.push { cls := .type "datetime.date", data := .fields #[rawInt y, rawInt m, rawInt d] } }) := by
  refine Meets.of_wp fun prog w A R s hs => ?_
  have b := bindInts (t := t) (u := u) (v := v) h1 h2 h3 h4 h5 (show d ≤ 31 by omega)
  unfold Builtin.«datetime.date.__new__» dtNewClass
  have s1 := sub_date
  have s2 := sub_date_dt
  repeat (any_goals (first | assumption | wp_step))
  have d28 := dim28 y h3 h4
  rw [if_neg (by rw [Bool.or_eq_true, decide_eq_true_eq, decide_eq_true_eq]; omega)]
  repeat (any_goals (first | assumption | wp_step))
  exact ⟨_, rfl, hs⟩

theorem meets_weekday {a : Addr} {y m d : Int} {t u v : Tok} : 
    Meets (Builtin.«datetime.date.weekday» ⟨[.ref a], []⟩)
      (fun _ R s => s.heap.get? a = some { cls := .type "datetime.date", data := .fields #[.int y t, .int m u, .int d v] } ∧ R (.ok (.ret (.int (weekdayOf (toOrdinal y m d)) s.toks))) { s with toks := s.toks + 1 }) := by
  refine Meets.of_wp fun prog w A R s hs => ?_
  obtain ⟨ho, hs⟩ := hs
  show wpAny _ _ (do let (y, m, d) ← dateParts (← selfOnly _ ⟨[.ref a], []⟩); retInt (weekdayOf (toOrdinal y m d))) _ _ s
  unfold dateParts dateParts? selfOnly
  have s1 := sub_date
  repeat (any_goals (first | assumption | wp_step))
  exact ⟨_, rfl, hs⟩

section
variable {prog : Program} {w : World} {A : Around} {E : Value → Shared → Prop} {s : Shared} {h₀ : Heap} {L : Addr} {m : Str → Option Value} {news : Led}
abbrev dateObj (y m d : Int) : Obj := { cls := .type "datetime.date", data := .fields #[rawInt y, rawInt m, rawInt d] }
theorem m_date {y mo d : Int} {t u v : Tok} {Q : Value → Shared → Prop} (F : Fr h₀ L s.heap m) (N : News h₀ L s.heap news) (h1 : 1 ≤ y) (h2 : y ≤ 9999) (h3 : 1 ≤ mo) (h4 : mo ≤ 12) (h5 : 1 ≤ d) (h6 : d ≤ 28)
    (h : ∀ D h', Fr h₀ L h' m → News h₀ L h' ((D, dateObj y mo d) :: news) → (∀ p ∈ news, p.1 < D) → Q (.ref D) { s with heap := h' }) :
    wpAny (model prog w) A (call (.type "datetime.date") [.int y t, .int mo u, .int d v]) Q E s := by
  refine callType_new called_date newNe_date (typeCall_date _ _ _) (newCall_date _ _ _) (fun obj => args_oinit_4 obj _ _ _) entry_date_new (meets_date_new h1 h2 h3 h4 h5 h6) ?_
  exact ⟨⟨_, Heap.get?_push_size _ rfl, rfl⟩, h _ _ (F.push _) (N.push F _ rfl) fun p hp => Heap.lt_size (N p hp).1⟩
theorem plainAttrs_date : PlainAttrs "datetime.date" :=
  ⟨⟨"object.__getattribute__", by rw [typeLookup_type, builtinLookup_eq_fast]; kernel_rfl, by decide +kernel⟩, by rw [typeLookup_type, builtinLookup_eq_fast]; kernel_rfl⟩
theorem type_weekday : typeOf (.builtin "datetime.date.weekday") = pure (.type "method_descriptor") := by kernel_rfl
theorem m_weekdayM {D : Addr} {y mo d : Int} {pl : Sem Bool} {Q : Value × List Value → Shared → Prop} (N : News h₀ L s.heap news) (hm : (D, dateObj y mo d) ∈ news) (h : Q (.builtin "datetime.date.weekday", [.ref D]) s) :
    wpAny (model prog w) A (getMethod (.ref D) "weekday" pl) Q E s :=
  getMethod_builtin ⟨_, N.get hm, rfl⟩ plainAttrs_date slot_date_weekday type_weekday (fun a e => by cases e; exact ⟨_, N.get hm, rfl⟩) h
theorem m_weekday {D : Addr} {y mo d : Int} {Q : Value → Shared → Prop} (N : News h₀ L s.heap news) (hm : (D, dateObj y mo d) ∈ news)
    (h : ∀ k t, 0 ≤ k → k ≤ 6 → Q (.int k t) { s with toks := s.toks + 1 }) :
    wpAny (model prog w) A (call (.builtin "datetime.date.weekday") [.ref D]) Q E s := by
  refine call_meets slot_date_weekday ⟨_, N.get hm, rfl⟩ entry_date_weekday (args_date_weekday _) (meets_weekday (y := y) (m := mo) (d := d) (t := 0) (u := 0) (v := 0)) ?_
  refine ⟨N.get hm, h _ _ ?_ ?_⟩ <;> (unfold weekdayOf; omega)
end
end Mine
end
section
open PySem PySem.W PyProof.Rows PySem.Calls PySem.Spec PyProof.Rows.LCg
set_option linter.unusedVariables false
set_option maxRecDepth 100000
namespace Mine
section
variable {prog : Program} {w : World} {A : Around} {E : Value → Shared → Prop} {s : Shared} {K : Frag} {x C : Addr}

theorem entry_int_eq : entryFor table "int.__eq__" = some Builtin.«int.__eq__» := entryFor_of_tree (by kernel_rfl)
theorem kind_int_eq : builtinKind "int.__eq__" = some .slot := by decide +kernel
theorem split_int_eq : splitId "int.__eq__" = some ("int", "__eq__") := by decide +kernel
theorem bind_int_eq (self : Value) : bindSpecial (.builtin "int.__eq__") self = pure (.builtin "int.__eq__", [self]) := PySem.F.slot_int_eq.bind self
theorem args_int_eq (a b : Value) : argsOk "int.__eq__" ⟨[a, b], []⟩ := by unfold argsOk; kernel_rfl

theorem check_int_eq {M : Model} {A : Around} {s : Shared} {a b T : Value} {Q : Unit → Shared → Prop} (h1 : Looks M s.heap (typeOf a) T) (h2 : Looks M s.heap (isSubtype T (.type "int")) true) (h : Q () s) :
    wpAny M A (checkBuiltinCall "int.__eq__" ⟨[a, b], []⟩) Q E s := by
  unfold checkBuiltinCall
  simp only [kind_int_eq, split_int_eq]
  unfold isInstance
  refine wpAny_bind (wpAny_bind (h1.here (h2.here ?_)))
  simp only [Bool.not_true, Bool.false_eq_true, if_false]
  have ok := args_int_eq a b
  cases hsig : Manifest.signature? "int.__eq__" with
  | none => exact wpAny_pure h
  | some sig =>
    simp only [argsOk, hsig] at ok
    have e : Bind.checkArgs "int.__eq__" sig ⟨[a, b], []⟩ = pure () := ok
    show wpAny M A (Bind.checkArgs "int.__eq__" sig ⟨[a, b], []⟩) Q E s
    rw [e]; exact wpAny_pure h

/-- an int compared with an object of an own class over int that keeps int's == -/
theorem m_eqOwn {n k : Int} {t tk : Tok} {dd : Option Addr} {sl : Array (Option Value)} {Q : Value → Shared → Prop} (X : K.In s.heap) (hu : A.units < cLine)
    (ho : K.lookup x = some ⟨.ref C, dd, .prim (.int k tk), sl⟩) (ht : typeIn K (.ref x) = some (.ref C)) (hs : subIn K (.ref C) (.type "int") = some true) (hf : findIn K (.ref C) "__eq__" = some (some (.builtin "int.__eq__")))
    (h : Q (.bool (k == n)) s) : wpAny (model prog w) A (compareOp .Eq (.int n t) (.ref x)) Q E s := by
  have hob : s.heap.get? x = some ⟨.ref C, dd, .prim (.int k tk), sl⟩ := X _ _ ho
  have L1 : Looks (model prog w) s.heap (typeOf (.ref x)) (.ref C) := looks_typeIn X ht
  have L2 : Looks (model prog w) s.heap (isSubtype (.ref C) (.type "int")) true := looks_subIn X hs
  have L3 : Looks (model prog w) s.heap (typeLookup (.ref C) "__eq__") (some (.builtin "int.__eq__")) := looks_findIn X hf
  show wpAny _ _ (richCompare .Eq (.int n t) (.ref x)) _ _ _
  unfold richCompare
  refine wpAny_holding (wpAny_bind (wpAny_cRoomFor hu ?_))
  show wpAny _ _ (do let ta ← typeOf (.int n t); _) _ _ _
  refine wpAny_bind (show wpAny _ _ (pure (Value.type "int") : Sem Value) _ _ _ from wpAny_pure ?_)
  refine wpAny_bind (L1.here ?_)
  refine wpAny_bind ?_
  show wpAny _ _ (isSubtype (.ref C) (.type "int")) _ _ _
  refine L2.here ?_
  simp only [if_true]
  have tail : wpAny (model prog w) A (call (.builtin "int.__eq__") [.ref x, .int n t]) (fun v s' => v = .bool (k == n) ∧ Q v s') E s := by
    refine wpAny_call (codeAny_call_builtin PySem.F.slot_int_eq.plain entry_int_eq (check_int_eq L1 L2 ?_))
    show wpAny _ _ (Builtin.Int.intBinary "__eq__" (fun x y => ret (.bool (x == y))) false ⟨[.ref x, .int n t], []⟩) _ _ _
    unfold Builtin.Int.intBinary slotArgs Builtin.Int.intOfSelf asInt?
    repeat (any_goals (first | assumption | wp_step))
    exact ⟨rfl, h⟩
  refine wpAny_bind ?_
  unfold tryCompare callSpecialIfBound? bindSpecialIfBound?
  have fin : wpAny (model prog w) A (call (.builtin "int.__eq__") ([.ref x] ++ [.int n t]) >>= fun v => pure (some v)) (fun r s' => r = some (Value.bool (k == n)) ∧ Q (.bool (k == n)) s') E s :=
    wpAny_bind (wpAny_mono tail (fun v s' h' => wpAny_pure ⟨by rw [h'.1], h'.1 ▸ h'.2⟩) fun _ _ h' => h')
  have both : wpAny (model prog w) A (holding [Value.ref x, Value.int n t] do
      let some (g, first) ← (do
        let some f ← specialOf (Value.ref x) "__eq__" | return none
        let bind : Sem (Option (Value × List Value)) := do return some (← bindSpecial f (Value.ref x))
        if (← ask).params.followText "special-get-raises" then bind
        else bind.tryCatch fun _ => do rule "special.get-raises-dropped"; pure none) | return none
      return some (← call g (first ++ [Value.int n t]))) (fun r s' => r = some (Value.bool (k == n)) ∧ Q (.bool (k == n)) s') E s := by
    refine wpAny_holding (wpAny_bind (wpAny_bind (wpAny_bind (L1.here (L3.here ?_)))))
    refine wpAny_bind (wpAny_askSetting (wpAny_ite ?_))
    split
    · exact wpAny_bind (wpAny_of_eq (bind_int_eq _) (wpAny_pure fin))
    · exact wpAny_tryCatch (wpAny_bind (wpAny_of_eq (bind_int_eq _) (wpAny_pure fin)))
  refine wpAny_bind (wpAny_mono both (fun r s' h' => ?_) fun _ _ h' => h')
  obtain ⟨rfl, hq⟩ := h'
  refine wpAny_pure (wpAny_bind (wpAny_rule (wpAny_pure hq)))
end
end Mine
namespace Mine
section
variable {prog : Program} {w : World} {A : Around} {E : Value → Shared → Prop} {s : Shared} {K : Frag}
theorem c0_use {d : Nat} {f : Addr} {vs : List Value} {Post : Value → Prop} {p : Program} {loose : List Str} {mean : ExcName → Option Value} {mg mb : Str → Option Value} {dp un : Nat} {gd : Option (List Code)} {cn : Str} {cs : Scope} {a : Addr} {ccd : Value} {cl : List (Str × Addr)} {outer : List Env} {A₀ : Around} {base h₀ : Heap} {L : Addr} {m : Str → Option Value} {news : Led} {s : Shared} {Q E : Value → Shared → Prop}
    (C : Ctr0 prog w K d f vs Post) (B : Below A₀ base outer h₀) (F : Fr h₀ L s.heap m) (X : K.In h₀) (N : News h₀ L s.heap news) (T : Top p loose mean mg mb h₀) (hk : cs.kind = .function) (hd : dp + d < recursionLimit) (hu : un + (8 * d + 80) < cLine)
    (ret : Ret0 h₀ L m news s Q Post) : wpAny (model prog w) (ktrTop dp un gd cn cs L a ccd cl outer) (call (.ref f) vs) Q E s := C p loose mean mg mb dp un gd cn cs a ccd cl outer A₀ base h₀ L m news s Q E B F X N T hk hd hu ret
theorem c_use {d : Nat} {f : Addr} {vs : List Value} {Pre : Led → Prop} {Post : Led → Value → Prop} {p : Program} {loose : List Str} {mean : ExcName → Option Value} {mg mb : Str → Option Value} {dp un : Nat} {gd : Option (List Code)} {cn : Str} {cs : Scope} {a : Addr} {ccd : Value} {cl : List (Str × Addr)} {outer : List Env} {A₀ : Around} {base h₀ : Heap} {L : Addr} {m : Str → Option Value} {news : Led} {s : Shared} {Q E : Value → Shared → Prop}
    (C : Ctr prog w K d f vs Pre Post) (B : Below A₀ base outer h₀) (F : Fr h₀ L s.heap m) (X : K.In h₀) (N : News h₀ L s.heap news) (T : Top p loose mean mg mb h₀) (hk : cs.kind = .function) (hd : dp + d < recursionLimit) (hu : un + (8 * d + 80) < cLine) (pre : Pre news)
    (ret : Ret h₀ L m news s Q Post) : wpAny (model prog w) (ktrTop dp un gd cn cs L a ccd cl outer) (call (.ref f) vs) Q E s := C p loose mean mg mb dp un gd cn cs a ccd cl outer A₀ base h₀ L m news s Q E B F X N T hk hd hu pre ret
theorem m_item_any {a : Addr} {l : List Value} {k : Int} {u : Tok} {value slice : PySem.Expr} {Q : Value → Shared → Prop} (ht : IsTup s.heap a l.toArray) (h0 : 0 ≤ k) (h1 : k < (l.length : Int)) (hl : l.length ≤ 1000)
    (h : ∀ v, v ∈ l → Q v s) (hs : subscripted slice false (.ref a) (.int k u) = operate [.ref a, .int k u] (getItem (.ref a) (.int k u)) := by with_unfolding_all rfl) :
    wpAny (model prog w) A (subscriptTail value slice (.ref a) (.int k u)) Q E s := by
  have hk : k.toNat < l.length := by omega
  refine item_tupleT ht (by omega) (by omega) (j := k.toNat) ?_ (List.getElem?_eq_getElem hk) (h _ (List.getElem_mem hk)) hs
  unfold seqIndex?
  simp only
  rw [if_pos (by simp; omega)]
  simp
  omega
theorem m_item_int {a : Addr} {l : List Value} {ns : List Int} {k : Int} {u : Tok} {value slice : PySem.Expr} {Q : Value → Shared → Prop} (ht : s.heap.IsList a l.toArray) (hi : IntsAre l ns) (h0 : 0 ≤ k) (h1 : k < (ns.length : Int)) (hl : ns.length ≤ 1000)
    (h : ∀ t, Q (.int (ns.getD k.toNat 0) t) s) (hs : subscripted slice false (.ref a) (.int k u) = operate [.ref a, .int k u] (getItem (.ref a) (.int k u)) := by with_unfolding_all rfl) :
    wpAny (model prog w) A (subscriptTail value slice (.ref a) (.int k u)) Q E s := by
  have hk : k.toNat < ns.length := by omega
  obtain ⟨t, ht'⟩ := hi.get k.toNat _ (List.getElem?_eq_getElem hk)
  refine tail_any ht.typeIs slot_list_getitem.lookup (wpAny_getItem_list ht h0 (by omega) (by simpa using ht') ?_) hs
  have := h t
  rw [List.getD_eq_getElem?_getD, List.getElem?_eq_getElem hk] at this
  exact this
end
end Mine
end
section
open PySem PySem.W PyProof.Rows PySem.Calls PySem.Spec PyProof.Rows.LCg
set_option linter.unusedVariables false
set_option exponentiation.threshold 100
set_option maxRecDepth 100000
namespace Mine
open PySem.Float64 in
theorem q4_c0 : Q4 4700144277945057280 6885702 := ⟨by decide +kernel, by decide +kernel⟩
theorem q4_c1 : Q4 4700589253736792064 7300118 := ⟨by decide +kernel, by decide +kernel⟩
theorem q4_c2 : Q4 4701007892789067776 7690006 := ⟨by decide +kernel, by decide +kernel⟩
theorem q4_c3 : Q4 4701801086275551232 8468842 := ⟨by decide +kernel, by decide +kernel⟩
theorem q4_c4 : Q4 4701119295650791424 7793758 := ⟨by decide +kernel, by decide +kernel⟩
theorem q4_c5 : Q4 4602678819172646912 2 := ⟨by decide +kernel, by decide +kernel⟩
theorem q4_c6 : Q4 4654419637352529920 6098 := ⟨by decide +kernel, by decide +kernel⟩
theorem q4_c7 : Q4 4645133162144333824 1461 := ⟨by decide +kernel, by decide +kernel⟩
theorem q4_c8 : Q4 4628996729495093248 118 := ⟨by decide +kernel, by decide +kernel⟩

/-- the month's part of the Gregorian day number: twelve months, three corrections, three days -/
def gPart (mo adj dd : Int) : UInt64 := Float64.add (Float64.add (Float64.ofFrac (decide (367 * mo - 362 < 0) != decide ((12 : Int) < 0)) (367 * mo - 362).natAbs (12 : Int).natAbs) (Float64.ofInt adj)) (Float64.ofInt dd)
def gOk (mo adj dd : Int) : Bool := Float64.isFinite (gPart mo adj dd) && (Flt.toInt Float64.floorOf (gPart mo adj dd) == (367 * mo - 362) / 12 + adj + dd)
theorem gOk_all : (([1, 2, 3, 4, 5, 6, 7, 8, 9, 10, 11, 12] : List Int).all fun mo => ([0, -1, -2] : List Int).all fun a => ([1, 21, 22] : List Int).all fun d => gOk mo a d) = true := by decide +kernel
theorem gPart_floor {mo adj dd : Int} (h1 : 1 ≤ mo) (h2 : mo ≤ 12) (ha : adj = 0 ∨ adj = -1 ∨ adj = -2) (hd : dd = 1 ∨ dd = 21 ∨ dd = 22) :
    Float64.isFinite (gPart mo adj dd) = true ∧ Flt.toInt Float64.floorOf (gPart mo adj dd) = (367 * mo - 362) / 12 + adj + dd := by
  have hm : mo ∈ ([1, 2, 3, 4, 5, 6, 7, 8, 9, 10, 11, 12] : List Int) := by
    simp only [List.mem_cons, List.not_mem_nil, or_false]
    omega
  have ha' : adj ∈ ([0, -1, -2] : List Int) := by simpa using ha
  have hd' : dd ∈ ([1, 21, 22] : List Int) := by simpa using hd
  have := List.all_eq_true.mp (List.all_eq_true.mp (List.all_eq_true.mp gOk_all mo hm) adj ha') dd hd'
  unfold gOk at this
  rw [Bool.and_eq_true, beq_iff_eq] at this
  exact this
/-- the Julian month's part -/
def jPart (n : Int) : UInt64 := Float64.mul 4629306380116972641 (Float64.ofInt n)
def jOk (n : Int) : Bool := Float64.isFinite (jPart n) && (Flt.toInt Float64.floorOf (jPart n) == 306001 * n / 10000)
theorem jOk_all : (([4, 5, 6, 7, 8, 9, 10, 11, 12, 13, 14, 15] : List Int).all jOk) = true := by decide +kernel
theorem jPart_floor {n : Int} (h1 : 4 ≤ n) (h2 : n ≤ 15) : Float64.isFinite (jPart n) = true ∧ Flt.toInt Float64.floorOf (jPart n) = 306001 * n / 10000 := by
  have hm : n ∈ ([4, 5, 6, 7, 8, 9, 10, 11, 12, 13, 14, 15] : List Int) := by
    simp only [List.mem_cons, List.not_mem_nil, or_false]
    omega
  have := List.all_eq_true.mp jOk_all n hm
  unfold jOk at this
  rw [Bool.and_eq_true, beq_iff_eq] at this
  exact this

theorem notNaN {x : UInt64} (h : Float64.isFinite x = true) : ¬ Float64.isNaN x = true := by
  obtain ⟨a, m, e, hd⟩ := fin_of h
  unfold Float64.isNaN
  rw [hd]
  exact Bool.false_ne_true
theorem notInf {x : UInt64} (h : Float64.isFinite x = true) : ¬ Float64.isInf x = true := by
  obtain ⟨a, m, e, hd⟩ := fin_of h
  unfold Float64.isInf
  rw [hd]
  exact Bool.false_ne_true

section
variable {prog : Program} {w : World} {A : Around} {E : Value → Shared → Prop} {s : Shared} {x : UInt64} {t : Tok} {k r n d : Int} {Q : Value → Shared → Prop}
theorem m_floorBy (hA : A.handled = none) (hf : Float64.isFinite x = true ∧ Flt.toInt Float64.floorOf x = r) (h : Q (.int r s.toks) { s with toks := s.toks + 1 }) :
    wpAny (model prog w) A (call (.builtin "math.floor") [.float x t]) Q E s :=
  Flt.call_floor_float hA (fun q => absurd q (notNaN hf.1)) (fun q => absurd q (notInf hf.1)) fun _ => hf.2.symm ▸ h
theorem m_floor (hA : A.handled = none) (q : Q4 x k) (h : Q (.int (k / 4) s.toks) { s with toks := s.toks + 1 }) : wpAny (model prog w) A (call (.builtin "math.floor") [.float x t]) Q E s :=
  m_floorBy hA ⟨q.1, q4_floor q⟩ h
theorem m_ceil (hA : A.handled = none) (q : Q4 x k) (h : Q (.int (-((-k) / 4)) s.toks) { s with toks := s.toks + 1 }) : wpAny (model prog w) A (call (.builtin "math.ceil") [.float x t]) Q E s :=
  Flt.call_ceil_float hA (fun z => absurd z (notNaN q.1)) (fun z => absurd z (notInf q.1)) fun _ => (q4_ceil q).symm ▸ h
theorem m_trunc (hA : A.handled = none) (q : Q4 x k) (hk : 0 ≤ k) (h : Q (.int (k / 4) s.toks) { s with toks := s.toks + 1 }) : wpAny (model prog w) A (call (.builtin "math.trunc") [.float x t]) Q E s :=
  Flt.call_trunc_float hA (fun z => absurd z (notNaN q.1)) (fun z => absurd z (notInf q.1)) fun _ => (q4_trunc q hk).symm ▸ h
theorem m_floorQuot (hA : A.handled = none) (h0 : 0 ≤ n ∧ n ≤ 1000000000) (h1 : 0 < d ∧ d ≤ 1000) (h : Q (.int (n / d) s.toks) { s with toks := s.toks + 1 }) :
    wpAny (model prog w) A (call (.builtin "math.floor") [.float (Float64.ofFrac (decide (n < 0) != decide (d < 0)) n.natAbs d.natAbs) t]) Q E s := by
  have e : (decide (n < 0) != decide (d < 0)) = false := by
    rw [decide_eq_false (by omega : ¬ n < 0), decide_eq_false (by omega : ¬ d < 0)]
    rfl
  rw [e]
  have q := quot_floor n.natAbs d.natAbs (by omega) (by omega) (by omega)
  refine m_floorBy hA ⟨q.1, ?_⟩ h
  rw [q.2, Int.natCast_ediv, Int.natAbs_of_nonneg h0.1, Int.natAbs_of_nonneg (Int.le_of_lt h1.1)]
theorem m_floorG {mo adj dd : Int} (hA : A.handled = none) (h1 : 1 ≤ mo) (h2 : mo ≤ 12) (ha : adj = 0 ∨ adj = -1 ∨ adj = -2) (hd : dd = 1 ∨ dd = 21 ∨ dd = 22)
    (h : Q (.int ((367 * mo - 362) / 12 + adj + dd) s.toks) { s with toks := s.toks + 1 }) :
    wpAny (model prog w) A (call (.builtin "math.floor") [.float (Float64.add (Float64.add (Float64.ofFrac (decide (367 * mo - 362 < 0) != decide ((12 : Int) < 0)) (367 * mo - 362).natAbs (12 : Int).natAbs) (Float64.ofInt adj)) (Float64.ofInt dd)) t]) Q E s :=
  m_floorBy hA (gPart_floor h1 h2 ha hd) h
theorem m_floorJ {n : Int} (hA : A.handled = none) (h1 : 4 ≤ n) (h2 : n ≤ 15) (h : Q (.int (306001 * n / 10000) s.toks) { s with toks := s.toks + 1 }) :
    wpAny (model prog w) A (call (.builtin "math.floor") [.float (Float64.mul 4629306380116972641 (Float64.ofInt n)) t]) Q E s :=
  m_floorBy hA (jPart_floor h1 h2) h
end

/-! ### what the defs reckon, in plain ints -/
def isleapB (y : Int) : Bool := y % 4 == 0 && (y % 100 != 0 || y % 400 == 0)
def gregJ (y m d : Int) : Int := 1721425 + 365 * (y - 1) + (y - 1) / 4 - (y - 1) / 100 + (y - 1) / 400 + ((367 * m - 362) / 12 + (if m ≤ 2 then 0 else if isleapB y = true then -1 else -2) + d)
def gregLen (y m : Int) : Int := if m = 2 then (if isleapB y = true then 29 else 28) else if m = 4 ∨ m = 6 ∨ m = 9 ∨ m = 11 then 30 else 31
def julJ (y m : Int) : Int := if m ≤ 2 then 1461 * (y - 1 + 4716) / 4 + 306001 * (m + 12 + 1) / 10000 + 1 - 1524 else 1461 * (y + 4716) / 4 + 306001 * (m + 1) / 10000 + 1 - 1524
def julLen (y m : Int) : Int := if m = 2 then (if y % 4 = 0 then 29 else 28) else if m = 4 ∨ m = 6 ∨ m = 9 ∨ m = 11 then 30 else 31
def copJ (y m : Int) : Int := 1 + (m - 1) * 30 + (y - 1) * 365 + y / 4 + 1825029
def copLen (y m : Int) : Int := if m ≤ 12 then 30 else if y % 4 = 3 then 6 else 5
def armJ (y m : Int) : Int := 1922502 + 365 * y + ((m - 1) * 30 + 1)
def armLen (y m : Int) : Int := if m = 13 then 5 else 30
def sarJ (y m : Int) : Int := 2117211 + 365 * (y - 533) + (y - 533) / 4 + ((m - 1) * 30 + 1)
def sarLen (y m : Int) : Int := if m = 13 then (if y % 4 = 0 then 6 else 5) else 30
def islJ (y m : Int) : Int := 1 + -((-(59 * (m - 1))) / 2) + (y - 1) * 354 + (3 + 11 * y) / 30 + 1948439
def islLen (y m : Int) : Int := if m % 2 = 1 then 30 else if m = 12 ∧ (y * 11 + 14) % 30 < 11 then 30 else 29
def indJ (y m : Int) : Int := gregJ (y + 78) 3 (if isleapB (y + 78) = true then 21 else 22) + (if m = 1 then 0 else (if isleapB (y + 78) = true then 31 else 30) + (if m ≤ 7 then (m - 2) * 31 else 155 + (m - 7) * 30))
def indLen (y m : Int) : Int := if 2 ≤ m ∧ m ≤ 6 then 31 else if m = 1 ∧ isleapB (y - 78) = true then 31 else 30

/-! ### the ends -/
def leafJ (j n : Int) : Dat := leafD (leafL ((j + 1) % 7).toNat n.toNat)
theorem leafJ_of (j n : Int) : leafD (leafL ((j % 7 + 1) % 7).toNat n.toNat) = leafJ j n := by
  unfold leafJ
  rw [show (j % 7 + 1) % 7 = (j + 1) % 7 by omega]
theorem q4_cast {x : UInt64} {a b : Int} (h : Q4 x a) (e : a = b) : Q4 x b := e ▸ h
theorem all_refs {l : List Value} {v : Value} (h : (l.all fun v => match v with | .ref _ => true | _ => false) = true) (m : v ∈ l) : ∃ a, v = .ref a := by
  have := List.all_eq_true.mp h v m
  cases v with
  | ref a => exact ⟨a, rfl⟩
  | _ => cases this
theorem months {m : Int} (h1 : 1 ≤ m) (h2 : m ≤ 12) : m = 1 ∨ m = 2 ∨ m = 3 ∨ m = 4 ∨ m = 5 ∨ m = 6 ∨ m = 7 ∨ m = 8 ∨ m = 9 ∨ m = 10 ∨ m = 11 ∨ m = 12 := by omega
theorem gLen1 {y m : Int} (h : 2 = m) : [0, 31, 28, 31, 30, 31, 30, 31, 31, 30, 31, 30, 31].getD m.toNat 0 + (if isleapB y = true then 1 else 0) = gregLen y m := by
  subst h
  unfold gregLen
  rw [if_pos rfl]
  split <;> rfl
theorem gLen2 {y m : Int} (h1 : 1 ≤ m) (h2 : m ≤ 12) (h : 2 ≠ m) : [0, 31, 28, 31, 30, 31, 30, 31, 31, 30, 31, 30, 31].getD m.toNat 0 + (if (2 == m) = true then 1 else 0) = gregLen y m := by
  rcases months h1 h2 with e | e | e | e | e | e | e | e | e | e | e | e <;> subst e <;> first | exact absurd rfl h | rfl
theorem gregLen_b (y m : Int) : 1 ≤ gregLen y m ∧ gregLen y m ≤ 31 := by unfold gregLen; (repeat' split) <;> omega
theorem julLen_b (y m : Int) : 1 ≤ julLen y m ∧ julLen y m ≤ 31 := by unfold julLen; (repeat' split) <;> omega
theorem copLen_b (y m : Int) : 1 ≤ copLen y m ∧ copLen y m ≤ 31 := by unfold copLen; (repeat' split) <;> omega
theorem armLen_b (y m : Int) : 1 ≤ armLen y m ∧ armLen y m ≤ 31 := by unfold armLen; (repeat' split) <;> omega
theorem sarLen_b (y m : Int) : 1 ≤ sarLen y m ∧ sarLen y m ≤ 31 := by unfold sarLen; (repeat' split) <;> omega
theorem islLen_b (y m : Int) : 1 ≤ islLen y m ∧ islLen y m ≤ 31 := by unfold islLen; (repeat' split) <;> omega
theorem indLen_b (y m : Int) : 1 ≤ indLen y m ∧ indLen y m ≤ 31 := by unfold indLen; (repeat' split) <;> omega
theorem gregJ1 {y m : Int} (d : Int) (h : m ≤ 2) : gregJ y m d = 1721425 + 365 * (y - 1) + (y - 1) / 4 - (y - 1) / 100 + (y - 1) / 400 + ((367 * m - 362) / 12 + 0 + d) := by unfold gregJ; rw [if_pos h]
theorem gregJ2 {y m : Int} (d : Int) (h : ¬ m ≤ 2) (h2 : isleapB y = true) : gregJ y m d = 1721425 + 365 * (y - 1) + (y - 1) / 4 - (y - 1) / 100 + (y - 1) / 400 + ((367 * m - 362) / 12 + -1 + d) := by unfold gregJ; rw [if_neg h, if_pos h2]
theorem gregJ3 {y m : Int} (d : Int) (h : ¬ m ≤ 2) (h2 : isleapB y = false) : gregJ y m d = 1721425 + 365 * (y - 1) + (y - 1) / 4 - (y - 1) / 100 + (y - 1) / 400 + ((367 * m - 362) / 12 + -2 + d) := by unfold gregJ; rw [if_neg h, if_neg (by rw [h2]; exact Bool.false_ne_true)]
end Mine
namespace Mine
theorem int_end {n N : Int} (e : n = N) (b : 1 ≤ N ∧ N ≤ 31) : n = N ∧ 1 ≤ n ∧ n ≤ 31 := by subst e; exact ⟨rfl, b⟩
end Mine
namespace Mine
theorem jl1 {y m : Int} (h : m = 2) (k : y.fmod 4 = 0) : 29 = julLen y m := by
  rw [fmod_lit] at k; unfold julLen; rw [if_pos h, if_pos k]
theorem jl2 {y m : Int} (h : m = 2) (k : y.fmod 4 ≠ 0) : 28 = julLen y m := by
  rw [fmod_lit] at k; unfold julLen; rw [if_pos h, if_neg k]
theorem any4 {m : Int} : ([4, 6, 9, 11].any fun x => x == m) = true ↔ (m = 4 ∨ m = 6 ∨ m = 9 ∨ m = 11) := by
  simp only [List.any_cons, List.any_nil, Bool.or_false, Bool.or_eq_true, beq_iff_eq]
  omega
theorem jl3 {y m : Int} (h : m ≠ 2) (k : ([4, 6, 9, 11].any fun x => x == m) = true) : 30 = julLen y m := by
  unfold julLen; rw [if_neg h, if_pos (any4.mp k)]
theorem jl4 {y m : Int} (h : m ≠ 2) (k : ([4, 6, 9, 11].any fun x => x == m) = false) : 31 = julLen y m := by
  unfold julLen; rw [if_neg h, if_neg (fun q => by rw [any4.mpr q] at k; cases k)]
theorem any6 {m : Int} (h1 : 1 ≤ m) (h2 : m ≤ 12) : ([1, 3, 5, 7, 9, 11].any fun x => x == m) = true ↔ m % 2 = 1 := by
  simp only [List.any_cons, List.any_nil, Bool.or_false, Bool.or_eq_true, beq_iff_eq]
  omega
theorem il1 {y m : Int} (h1 : 1 ≤ m) (h2 : m ≤ 12) (k : ([1, 3, 5, 7, 9, 11].any fun x => x == m) = true) : 30 = islLen y m := by
  unfold islLen; rw [if_pos ((any6 h1 h2).mp k)]
theorem il0 {m : Int} (h1 : 1 ≤ m) (h2 : m ≤ 12) (k : ([1, 3, 5, 7, 9, 11].any fun x => x == m) = false) : ¬ m % 2 = 1 := fun q => by
  rw [(any6 h1 h2).mpr q] at k; cases k
theorem il2 {y m : Int} (h1 : 1 ≤ m) (h2 : m ≤ 12) (k : ([1, 3, 5, 7, 9, 11].any fun x => x == m) = false) (e : m = 12) (l : (y * 11 + 14).fmod 30 < 11) : 30 = islLen y m := by
  rw [fmod_lit] at l; unfold islLen; rw [if_neg (il0 h1 h2 k), if_pos ⟨e, l⟩]
theorem il3 {y m : Int} (h1 : 1 ≤ m) (h2 : m ≤ 12) (k : ([1, 3, 5, 7, 9, 11].any fun x => x == m) = false) (e : m = 12) (l : ¬ (y * 11 + 14).fmod 30 < 11) : 29 = islLen y m := by
  rw [fmod_lit] at l; unfold islLen; rw [if_neg (il0 h1 h2 k), if_neg (fun q => l q.2)]
theorem il4 {y m : Int} (h1 : 1 ≤ m) (h2 : m ≤ 12) (k : ([1, 3, 5, 7, 9, 11].any fun x => x == m) = false) (e : m ≠ 12) : 29 = islLen y m := by
  unfold islLen; rw [if_neg (il0 h1 h2 k), if_neg (fun q => e q.1)]
end Mine
namespace Mine
theorem cl2 {y m : Int} (h : ¬ m ≤ 12) (k : (if y.fmod 4 = 3 then y.fmod 4 == 3 else y.fmod 4 == -1) = true) : 6 = copLen y m := by
  rw [fmod_lit] at k
  unfold copLen
  rw [if_neg h]
  split at k
  · rename_i e; rw [if_pos e]
  · rw [beq_iff_eq] at k; omega
theorem cl3 {y m : Int} (h : ¬ m ≤ 12) (k : (if y.fmod 4 = 3 then y.fmod 4 == 3 else y.fmod 4 == -1) = false) : 5 = copLen y m := by
  rw [fmod_lit] at k
  unfold copLen
  rw [if_neg h]
  split at k
  · rename_i e; rw [e] at k; cases k
  · rename_i e; rw [if_neg e]
theorem any5 {m : Int} : ([2, 3, 4, 5, 6].any fun x => x == m) = true ↔ (2 ≤ m ∧ m ≤ 6) := by
  simp only [List.any_cons, List.any_nil, Bool.or_false, Bool.or_eq_true, beq_iff_eq]
  omega
theorem nl1 {y m : Int} (k : ([2, 3, 4, 5, 6].any fun x => x == m) = true) : 31 = indLen y m := by unfold indLen; rw [if_pos (any5.mp k)]
theorem nl0 {m : Int} (k : ([2, 3, 4, 5, 6].any fun x => x == m) = false) : ¬ (2 ≤ m ∧ m ≤ 6) := fun q => by rw [any5.mpr q] at k; cases k
theorem nl2 {y m : Int} (k : ([2, 3, 4, 5, 6].any fun x => x == m) = false) (e : m = 1) (l : isleapB (y - 78) = true) : 31 = indLen y m := by unfold indLen; rw [if_neg (nl0 k), if_pos ⟨e, l⟩]
theorem nl3 {y m : Int} (k : ([2, 3, 4, 5, 6].any fun x => x == m) = false) (e : m = 1) (l : isleapB (y - 78) = false) : 30 = indLen y m := by unfold indLen; rw [if_neg (nl0 k), if_neg (fun q => by rw [q.2] at l; cases l)]
theorem nl4 {y m : Int} (k : ([2, 3, 4, 5, 6].any fun x => x == m) = false) (e : m ≠ 1) : 30 = indLen y m := by unfold indLen; rw [if_neg (nl0 k), if_neg (fun q => e q.1)]
theorem indJ_t {y m j : Int} (l : isleapB (y + 78) = true) (e : j = gregJ (y + 78) 3 (22 - if isleapB (y + 78) = true then 1 else 0)) : indJ y m = j + (if m = 1 then 0 else 31 + (if m ≤ 7 then (m - 2) * 31 else 155 + (m - 7) * 30)) := by
  unfold indJ
  rw [if_pos l] at e ⊢
  rw [if_pos l, e]
  rfl
theorem indJ_f {y m j : Int} (l : isleapB (y + 78) = false) (e : j = gregJ (y + 78) 3 (22 - if isleapB (y + 78) = true then 1 else 0)) : indJ y m = j + (if m = 1 then 0 else 30 + (if m ≤ 7 then (m - 2) * 31 else 155 + (m - 7) * 30)) := by
  have l' : ¬ isleapB (y + 78) = true := by rw [l]; exact Bool.false_ne_true
  unfold indJ
  rw [if_neg l'] at e ⊢
  rw [if_neg l', e]
  rfl
end Mine
end
section
open PySem PySem.W PyProof.Rows PySem.Calls PySem.Spec PyProof.Rows.LCg PyProof.Rows.LCt
set_option linter.unusedVariables false
set_option exponentiation.threshold 100
set_option maxRecDepth 100000
namespace Mine

theorem datAll_get {led : Led} : ∀ {vs : List Value} {ds : List Dat}, DatAll led vs ds → ∀ (i : Nat) (d : Dat), ds[i]? = some d → ∃ v, vs[i]? = some v ∧ DatIn led v d
  | _, _, .nil, i, d, h => by simp at h
  | _, _, .cons (v := v) x r, 0, d, h => by
    simp at h
    exact ⟨v, rfl, h ▸ x⟩
  | _, _, .cons x r, i + 1, d, h => by
    obtain ⟨v, a, b⟩ := datAll_get r i d (by simpa using h)
    exact ⟨v, by simpa using a, b⟩
theorem datAll_len {led : Led} {vs : List Value} {ds : List Dat} (h : DatAll led vs ds) : vs.length = ds.length := h.length
theorem datIn_list {led : Led} {v : Value} {ds : List Dat} (h : DatIn led v (.list ds)) : ∃ a vs k, v = .ref a ∧ (a, listOf (List.toArray vs) k) ∈ led ∧ DatAll led vs ds := by
  cases h with
  | list hm r => exact ⟨_, _, _, rfl, hm, r⟩
theorem datIn_cell {led : Led} {v : Value} {c : Option Int} (h : DatIn led v (cellD c)) : (v = .none ∧ c = none) ∨ ∃ i t, v = .int i t ∧ c = some i := by
  cases c with
  | none => cases h; exact .inl ⟨rfl, rfl⟩
  | some i => cases h; exact .inr ⟨_, _, rfl, rfl⟩
/-- cells refer to nothing -/
theorem datAll_free {led led' : Led} : ∀ {vs : List Value} {cs : List (Option Int)}, DatAll led vs (cs.map cellD) → DatAll led' vs (cs.map cellD)
  | _, [], .nil => .nil
  | _, c :: cs, .cons x r => by
    refine .cons ?_ (datAll_free r)
    rcases datIn_cell x with ⟨rfl, rfl⟩ | ⟨i, t, rfl, rfl⟩
    · exact .none
    · exact .int _ _

section
variable {prog : Program} {w : World} {A : Around} {E : Value → Shared → Prop} {s : Shared} {h₀ : Heap} {L : Addr} {m : Str → Option Value} {news led : Led}

/-- the place of an int among cells -/
theorem m_index {D : Addr} {vs : List Value} {cs : List (Option Int)} {c j : Nat} {k r : Int} {t : Tok} {Q : Value → Shared → Prop} (N : News h₀ L s.heap news) (hm : (D, listOf vs.toArray c) ∈ news) (hd : DatAll led vs (cs.map cellD))
    (hl : cs.length ≤ 1000) (h1 : cs[j]? = some (some k)) (h0 : ∀ i, i < j → cs[i]? ≠ some (some k)) (er : (j : Int) = r) (h : Q (.int r s.toks) { s with toks := s.toks + 1 }) :
    wpAny (model prog w) A (call (.builtin "list.index") [.ref D, .int k t]) Q E s := by
  subst er
  have hlen : vs.length = cs.length := by rw [hd.length, List.length_map]
  have hj : j < cs.length := (List.getElem?_eq_some_iff.mp h1).1
  have item : ∀ i, i < cs.length → ∃ v, vs[i]? = some v ∧ DatIn led v (cellD (cs[i]?.getD none)) := by
    intro i hi
    have e : (cs.map cellD)[i]? = some (cellD (cs[i]?.getD none)) := by
      rw [List.getElem?_map, List.getElem?_eq_getElem hi]; rfl
    exact datAll_get hd i _ e
  refine call_meets PySem.F.slot_list_index ⟨_, N.get hm, rfl⟩ PySem.F.entry_list_index (PySem.F.args_list_index_2 _ _)
    (PySem.SeqAt.list_indexAt D vs.toArray c none #[] (.int k t) (isInt k) j (by simp; omega) (by omega) ?_ ?_) ⟨N.get hm, fun y hy => ?_, h⟩
  · obtain ⟨v, hv, hc⟩ := item j hj
    rw [h1] at hc
    have e : vs.toArray[j]'(by simp; omega) = v := by
      have := (List.getElem?_eq_some_iff.mp hv).2
      simpa using this
    rw [e]
    cases hc
    simp [isInt]
  · intro i hi hlt
    obtain ⟨v, hv, hc⟩ := item i (by omega)
    have e : vs.toArray[i]'hi = v := by
      have := (List.getElem?_eq_some_iff.mp hv).2
      simpa using this
    rw [e]
    have hn := h0 i hlt
    have hi' : i < cs.length := by omega
    rw [List.getElem?_eq_getElem hi'] at hc hn
    rcases datIn_cell hc with ⟨rfl, _⟩ | ⟨n, t', rfl, en⟩
    · rfl
    · simp only [Option.getD_some] at en
      rw [en] at hn
      simp [isInt]
      intro q
      exact hn (by rw [q])
  · have hy' : y ∈ vs := by simpa using hy
    obtain ⟨i, hi, rfl⟩ := List.getElem_of_mem hy'
    obtain ⟨v, hv, hc⟩ := item i (by omega)
    rw [List.getElem?_eq_getElem hi] at hv
    cases hv
    rcases datIn_cell hc with ⟨e, _⟩ | ⟨n, t', e, _⟩
    · rw [e]; exact PySem.SeqAt.EqAt.none_int _ _
    · rw [e]; exact PySem.SeqAt.EqAt.int_int _ _ _ _

/-- an item of a list of the ledger, from the front or the end -/
theorem m_itemP {a : Addr} {l : List Value} {c : Nat} {k : Int} {u : Tok} {v : Value} {value slice : PySem.Expr} {Q : Value → Shared → Prop} (N : News h₀ L s.heap news) (hm : (a, listOf l.toArray c) ∈ news)
    (h0 : 0 ≤ k ∧ k ≤ 1000000) (hx : l[k.toNat]? = some v) (h : Q v s) (hs : subscripted slice false (.ref a) (.int k u) = operate [.ref a, .int k u] (getItem (.ref a) (.int k u)) := by with_unfolding_all rfl) :
    wpAny (model prog w) A (subscriptTail value slice (.ref a) (.int k u)) Q E s := by
  have hl : s.heap.IsList a l.toArray := ⟨_, N.get hm, rfl, c, rfl⟩
  exact tail_any hl.typeIs slot_list_getitem.lookup (wpAny_getItem_list hl h0.1 (by omega) (by simpa using hx) h) hs
theorem m_itemN {a : Addr} {l : List Value} {c : Nat} {k : Int} {u : Tok} {v : Value} {value slice : PySem.Expr} {Q : Value → Shared → Prop} (N : News h₀ L s.heap news) (hm : (a, listOf l.toArray c) ∈ news)
    (h0 : -1000000 ≤ k ∧ k < 0) (h1 : -(l.length : Int) ≤ k) (hx : l[(k + (l.length : Int)).toNat]? = some v) (h : Q v s) (hs : subscripted slice false (.ref a) (.int k u) = operate [.ref a, .int k u] (getItem (.ref a) (.int k u)) := by with_unfolding_all rfl) :
    wpAny (model prog w) A (subscriptTail value slice (.ref a) (.int k u)) Q E s := by
  have hl : s.heap.IsList a l.toArray := ⟨_, N.get hm, rfl, c, rfl⟩
  exact tail_any hl.typeIs slot_list_getitem.lookup (wpAny_getItem_list_neg hl h0.2 (by simp; omega) (by omega) (by simpa using hx) h) hs
end

section
variable {prog : Program} {w : World} {A : Around} {E : Value → Shared → Prop} {s : Shared} {h₀ : Heap} {L : Addr} {m : Str → Option Value} {env : Env}
theorem restT_inv {ct elt : Expr} {x : Str} {scope : Scope} {cl : List (Str × Addr)} {S : Led → Prop} {P : Nat → Value → Prop} {Fin : List Value → Led → Prop} {n : Nat} (J : Nat → List Value → Led → Prop)
    (turn : ∀ i ys news v I oI C oC D m₂ h tk (E' : Value → Shared → Prop), i < n → J i ys news → P i v → NsObj oC m₂ → m₂ x = some v → Fr h₀ L h m → News h₀ L h ((I, oI) :: (C, oC) :: (D, lst ys) :: news) → Off3 I C D news → ((@Ne Nat I C) ∧ (@Ne Nat I D) ∧ (@Ne Nat C D)) →
      wpAny (model prog w) A (isTrue ct (compEnvC scope cl C env) (eval ct (compEnvC scope cl C env))) (fun ok s' => if ok = true then
        wpAny (model prog w) A (eval elt (compEnvC scope cl C env)) (CompEnd h₀ L m { s with heap := h, toks := tk } I oI C oC D (lst ys) S (fun y news' => J (i + 1) (ys ++ [y]) news')) E' s'
        else CompEnd h₀ L m { s with heap := h, toks := tk } I oI C oC D (lst ys) S (fun _ news' => J (i + 1) ys news') Value.none s') E' { s with heap := h, toks := tk })
    (fin : ∀ ys news, J n ys news → Fin ys news) : ∀ (k i : Nat) (ys : List Value) (news : Led), i + k = n → J i ys news → CompRestT prog w A h₀ L m env ct elt x scope cl s S P Fin k i ys news := by
  intro k
  induction k with
  | zero =>
    intro i ys news e hJ
    obtain rfl : i = n := e
    exact CompRestT.zero (fin _ _ hJ)
  | succ k ih =>
    intro i ys news e hJ
    refine CompRestT.succ fun v I oI C oC D m₂ h tk E' hP hC hx F N off ne => ?_
    refine wpAny_mono (turn i ys news v I oI C oC D m₂ h tk E' (by omega) hJ hP hC hx F N off ne) (fun ok s' he => ?_) fun _ _ e => e
    have up : ∀ {R₁ R₂ : Value → Led → Prop} {y s'}, (∀ y nw, R₁ y nw → R₂ y nw) → CompEnd h₀ L m { s with heap := h, toks := tk } I oI C oC D (lst ys) S R₁ y s' → CompEnd h₀ L m { s with heap := h, toks := tk } I oI C oC D (lst ys) S R₂ y s' := by
      rintro R₁ R₂ y s' hr ⟨h', tk', news', e', F', N', off', hS', hj⟩
      exact ⟨h', tk', news', e', F', N', off', hS', hr _ _ hj⟩
    cases ok with
    | true =>
      simp only [if_true] at he ⊢
      exact wpAny_mono he (fun y s'' h'' => up (fun y nw hj => ih (i + 1) (ys ++ [y]) nw (by omega) hj) h'') fun _ _ e => e
    | false =>
      simp only [Bool.false_eq_true, if_false] at he ⊢
      exact up (fun y nw hj => ih (i + 1) ys nw (by omega) hj) he

/-- [x for x in SRC if x is not None] -/
theorem comp_some {x : Str} {p1 p2 p3 p4 : Pos} {kk : Nat} {scope : Scope} {cl : List (Str × Addr)} {Fin : Shared → List Value → Led → Prop} {ax : Addr} {k : Nat} {base led : Led} {vs : List Value} {cs : List (Option Int)}
    (hh : A.handled = none) (F : Fr h₀ L s.heap m) (N : News h₀ L s.heap base) (hm : (ax, listOf vs.toArray k) ∈ base) (hd : DatAll led vs (cs.map cellD)) (hl : cs.length ≤ 1000)
    (hk : ∀ C, (compEnvC scope cl C env).scope.kind = .function) (hx : ∀ C, (compEnvC scope cl C env).kindOf x = some .local) (hxd : (x == ("__debug__" : Str)) = false)
    (fin : ∀ g ys, DatAll [] ys ((cs.filter Option.isSome).map cellD) → Fin { s with heap := g } ys base) :
    CompSrcT prog w A h₀ L m env (.Compare (.Name x p1) [.IsNot] [.Constant .none kk p2] p3) (.Name x p4) x scope cl Fin (.ref ax) s := by
  have hlen : vs.length = cs.length := by rw [hd.length, List.length_map]
  refine CompSrcT.ledger hh F N hm (by rw [sizeLine_eq]; simp; omega) fun g => ?_
  refine restT_inv (n := vs.toArray.size) (fun i ys nw => nw = base ∧ DatAll [] ys (((cs.take i).filter Option.isSome).map cellD)) ?_ ?_ _ 0 [] base (by omega) ⟨rfl, .nil⟩
  · rintro i ys _ v I oI C oC D m₂ h tk E' hi ⟨rfl, hj⟩ hP hC hx' F' N' off ne
    have hi' : i < cs.length := by simp at hi; omega
    have e1 : (cs.map cellD)[i]? = some (cellD cs[i]) := by rw [List.getElem?_map, List.getElem?_eq_getElem hi']; rfl
    obtain ⟨v', hv', hc⟩ := datAll_get hd i _ e1
    have : v = v' := by
      have hP' : vs[i]? = some v := by simpa using hP
      rw [hv'] at hP'
      exact (Option.some.inj hP').symm
    subst this
    have ht : cs.take (i + 1) = cs.take i ++ [cs[i]] := by rw [List.take_add_one, List.getElem?_eq_getElem hi']; rfl
    have nm : ∀ (tk' : Nat) (R : Value → Shared → Prop), R v { { s with heap := g } with heap := h, toks := tk' } → ∀ p E'', wpAny (model prog w) A (eval (.Name x p) (compEnvC scope cl C env)) R E'' { { s with heap := g } with heap := h, toks := tk' } :=
      fun tk' R hR p E'' => LCgL.ld_own (s := { { s with heap := g } with heap := h, toks := tk' }) N' (List.mem_cons_of_mem _ List.mem_cons_self) hC hx' hR (hk C) (hx C) hxd
    refine wpAny_isTrue_Compare1 (nm tk _ ?_ p1 _)
    refine wpAny_Constant_none ?_
    rcases datIn_cell hc with ⟨rfl, en⟩ | ⟨n, t, rfl, en⟩
    · refine wpAny_isNot_self rfl (wpAny_truthy_bool ?_)
      simp only [Bool.false_eq_true, if_false]
      refine ⟨h, tk, _, rfl, F', N', off, ?_, rfl, ?_⟩
      · exact .inr ⟨_, hm, rfl, k, rfl⟩
      · rw [ht, List.filter_append, en]
        simpa using hj
    · refine wpAny_isNot_other rfl (by simp) (wpAny_truthy_bool ?_)
      simp only [if_true]
      refine nm tk _ ?_ p4 _
      refine ⟨h, tk, _, rfl, F', N', off, ?_, rfl, ?_⟩
      · exact .inr ⟨_, hm, rfl, k, rfl⟩
      · rw [ht, List.filter_append, List.map_append, en]
        exact hj.append (.one (.int _ _))
  · rintro ys _ ⟨rfl, hj⟩
    have e : cs.take vs.toArray.size = cs := List.take_of_length_le (by simp; omega)
    rw [e] at hj
    exact fin g ys hj
end
end Mine
namespace Mine
/-! ### the first row's place of 1, the last row's last day -/
def rowAt (lp n i : Nat) : List (Option Int) := ((leafL lp n)[i]?).getD []
def lastAt (lp n : Nat) : Nat := (leafL lp n).length - 1
def seen (lp n : Nat) : List (Option Int) := (rowAt lp n (lastAt lp n)).filter Option.isSome
def leafOk (lp n : Nat) : Bool :=
  decide (1 ≤ (leafL lp n).length) && decide ((leafL lp n).length ≤ 10) && ((rowAt lp n 0)[lp]? == some (some 1)) && ((List.range lp).all fun i => (rowAt lp n 0)[i]? == some none) && decide ((rowAt lp n 0).length ≤ 7) &&
    decide (1 ≤ (seen lp n).length) && ((seen lp n)[(seen lp n).length - 1]? == some (some (n : Int))) && ((leafL lp n).all fun r => decide (r.length ≤ 7))
theorem leafOk_all : ((List.range 7).all fun lp => (List.range 32).all fun n => n == 0 || leafOk lp n) = true := by decide +kernel
theorem leafOk_at {lp n : Nat} (h1 : lp < 7) (h2 : 1 ≤ n) (h3 : n ≤ 31) : leafOk lp n = true := by
  have a := List.all_eq_true.mp leafOk_all lp (List.mem_range.mpr h1)
  have b := List.all_eq_true.mp a n (List.mem_range.mpr (by omega))
  rw [Bool.or_eq_true, beq_iff_eq] at b
  exact b.resolve_left (by omega)
structure LeafF (lp n : Nat) : Prop where
  some : 1 ≤ (leafL lp n).length
  few : (leafL lp n).length ≤ 10
  row0 : (leafL lp n)[0]? = Option.some (rowAt lp n 0)
  rowN : (leafL lp n)[lastAt lp n]? = Option.some (rowAt lp n (lastAt lp n))
  one : (rowAt lp n 0)[lp]? = Option.some (Option.some 1)
  before : ∀ i, i < lp → (rowAt lp n 0)[i]? ≠ Option.some (Option.some 1)
  short0 : (rowAt lp n 0).length ≤ 7
  shortN : (rowAt lp n (lastAt lp n)).length ≤ 7
  seen1 : 1 ≤ (seen lp n).length
  last : (seen lp n)[(seen lp n).length - 1]? = Option.some (Option.some (n : Int))
theorem leafF {lp n : Nat} (h1 : lp < 7) (h2 : 1 ≤ n) (h3 : n ≤ 31) : LeafF lp n := by
  have h := leafOk_at h1 h2 h3
  unfold leafOk at h
  simp only [Bool.and_eq_true, decide_eq_true_eq, beq_iff_eq, List.all_eq_true] at h
  obtain ⟨⟨⟨⟨⟨⟨⟨a, b⟩, c⟩, d⟩, e⟩, f⟩, g⟩, k⟩ := h
  have at0 : ∀ i, i < (leafL lp n).length → (leafL lp n)[i]? = some (rowAt lp n i) := by
    intro i hi
    unfold rowAt
    rw [List.getElem?_eq_getElem hi]
    rfl
  have hN : lastAt lp n < (leafL lp n).length := by unfold lastAt; omega
  refine ⟨a, b, at0 0 (by omega), at0 _ hN, c, fun i hi q => ?_, e, ?_, f, g⟩
  · have := d i (List.mem_range.mpr hi)
    rw [this] at q
    cases q
  · have hm : rowAt lp n (lastAt lp n) ∈ leafL lp n := List.mem_of_getElem? (at0 _ hN)
    exact k _ hm
theorem cells_inj {a b : List (Option Int)} (h : a.map cellD = b.map cellD) : a = b := by
  induction a generalizing b with
  | nil => cases b with
    | nil => rfl
    | cons y b => cases h
  | cons x a ih =>
    cases b with
    | nil => cases h
    | cons y b =>
      simp only [List.map_cons, List.cons.injEq] at h
      rw [ih h.2]
      congr 1
      cases x <;> cases y <;> first | rfl | (cases h.1; done) | (have := h.1; simp only [cellD] at this; cases this; rfl)
theorem rowD_inj {a b : List (Option Int)} (h : rowD a = rowD b) : a = b := cells_inj (Dat.list.inj h)
theorem map_rowD_inj {a b : List (List (Option Int))} (h : a.map rowD = b.map rowD) : a = b := by
  induction a generalizing b with
  | nil => cases b with
    | nil => rfl
    | cons y b => cases h
  | cons x a ih =>
    cases b with
    | nil => cases h
    | cons y b =>
      simp only [List.map_cons, List.cons.injEq] at h
      rw [ih h.2, rowD_inj h.1]
/-- two leaves of one length are the same leaf only with the same pad -/
theorem leafL_inj {lp lq n : Nat} (h1 : lp < 7) (h1' : lq < 7) (h2 : 1 ≤ n) (h3 : n ≤ 31) (h : leafL lp n = leafL lq n) : lp = lq := by
  have a := leafF h1 h2 h3
  have b := leafF h1' h2 h3
  have e : rowAt lp n 0 = rowAt lq n 0 := by unfold rowAt; rw [h]
  rcases Nat.lt_trichotomy lp lq with q | q | q
  · exact absurd (e ▸ a.one) (b.before lp q)
  · exact q
  · exact absurd (e ▸ b.one) (a.before lq q)
end Mine
namespace Mine
theorem allLt_mem {d : Addr} : ∀ {l : Led}, AllLt d l → ∀ p ∈ l, @LT.lt Nat _ p.1 d
  | [], _, _, hp => absurd hp List.not_mem_nil
  | _ :: _, ⟨a, b⟩, p, hp => by
    rcases List.mem_cons.mp hp with rfl | hp
    · exact a
    · exact allLt_mem b p hp
theorem apart_one {d : Addr} {o : Obj} {l : Led} (h : AllLt d l) : Apart [(d, o)] l := fun p hp q hq => by
  rw [List.mem_singleton.mp hp]
  exact Nat.ne_of_gt (allLt_mem h q hq)
end Mine
namespace Mine
theorem fin_one {h₀ h' : Heap} {L : Addr} {m : Str → Option Value} {news led : Led} {s : Shared} {Q : Value → Shared → Prop} {Post : Led → Value → Prop} {l' : Addr} {o : Obj} {tk' : Nat} (hret : Ret h₀ L m news s Q Post)
    (F : Fr h₀ L h' m) (N : News h₀ L h' led) (hm : (l', o) ∈ led) (hs : ∀ p ∈ news, p ∈ led) (lt : AllLt l' news) (P : Post [(l', o)] (.ref l')) : Q (.ref l') { s with heap := h', toks := tk' } :=
  hret _ [(l', o)] h' tk' F (fun p hp => by
    rcases List.mem_append.mp hp with hp | hp
    · rw [List.mem_singleton.mp hp]; exact N _ hm
    · exact N _ (hs p hp)) (apart_one lt) P
end Mine
namespace Mine
theorem ok_cells (n : Nat) (cs : List (Option Int)) : ∀ d ∈ cs.map cellD, kqdOk n d = true := by
  intro d hd
  obtain ⟨c, _, rfl⟩ := List.mem_map.mp hd
  cases c <;> cases n <;> rfl
theorem ok_rows (n : Nat) (rows : List (List (Option Int))) : ∀ d ∈ rows.map rowD, kqdOk (n + 1) d = true := by
  intro d hd
  obtain ⟨r, _, rfl⟩ := List.mem_map.mp hd
  show (r.map cellD).all (kqdOk n) = true
  exact List.all_eq_true.mpr (ok_cells n r)
section
variable {prog : Program} {w : World} {A : Around} {E : Value → Shared → Prop} {s : Shared} {h₀ : Heap} {L a b : Addr} {news l1 l2 : Led} {Q : Value → Shared → Prop} {r1 r2 : List (List (Option Int))}
open Classical in
theorem m_eqRows (N : News h₀ L s.heap news) (Da : DatIn l1 (.ref a) (leafD r1)) (sa : ∀ p ∈ l1, p ∈ news) (Db : DatIn l2 (.ref b) (leafD r2)) (sb : ∀ p ∈ l2, p ∈ news) (hu : A.units + 64 < cLine)
    (h : Q (.bool (decide (r1 = r2))) s) : wpAny (model prog w) A (compareOp .Eq (.ref a) (.ref b)) Q E s := by
  obtain ⟨a', xs, ka, e, ma, da⟩ := datIn_list Da
  cases e
  obtain ⟨b', ys, kb, e, mb, db⟩ := datIn_list Db
  cases e
  refine kqd_eq N (sa _ ma) rfl rfl da sa (sb _ mb) rfl rfl db sb (ok_rows 7 r1) (ok_rows 7 r2) hu ?_
  have e : decide (r1.map rowD = r2.map rowD) = decide (r1 = r2) := decide_eq_decide.mpr ⟨map_rowD_inj, fun q => by rw [q]⟩
  rw [e]
  exact h
open Classical in
theorem m_neRows (N : News h₀ L s.heap news) (Da : DatIn l1 (.ref a) (leafD r1)) (sa : ∀ p ∈ l1, p ∈ news) (Db : DatIn l2 (.ref b) (leafD r2)) (sb : ∀ p ∈ l2, p ∈ news) (hu : A.units + 64 < cLine)
    (h : Q (.bool (!decide (r1 = r2))) s) : wpAny (model prog w) A (compareOp .NotEq (.ref a) (.ref b)) Q E s := by
  obtain ⟨a', xs, ka, e, ma, da⟩ := datIn_list Da
  cases e
  obtain ⟨b', ys, kb, e, mb, db⟩ := datIn_list Db
  cases e
  refine kqd_ne N (sa _ ma) rfl rfl da sa (sb _ mb) rfl rfl db sb (ok_rows 7 r1) (ok_rows 7 r2) hu ?_
  have e : decide (r1.map rowD = r2.map rowD) = decide (r1 = r2) := decide_eq_decide.mpr ⟨map_rowD_inj, fun q => by rw [q]⟩
  rw [e]
  exact h
theorem leafL_eq {j1 j2 n : Int} (h1 : 1 ≤ n) (h2 : n ≤ 31) : (leafL ((j1 + 1) % 7).toNat n.toNat = leafL ((j2 + 1) % 7).toNat n.toNat) ↔ j1 % 7 = j2 % 7 := by
  constructor
  · intro q
    have := leafL_inj (by omega) (by omega) (by omega) (by omega) q
    omega
  · intro q
    rw [show (j1 + 1) % 7 = (j2 + 1) % 7 by omega]
theorem m_eqLeaf {j1 j2 n : Int} (N : News h₀ L s.heap news) (Da : DatIn l1 (.ref a) (leafJ j1 n)) (sa : ∀ p ∈ l1, p ∈ news) (Db : DatIn l2 (.ref b) (leafJ j2 n)) (sb : ∀ p ∈ l2, p ∈ news) (hu : A.units + 64 < cLine) (h1 : 1 ≤ n) (h2 : n ≤ 31)
    (h : Q (.bool (decide (j1 % 7 = j2 % 7))) s) : wpAny (model prog w) A (compareOp .Eq (.ref a) (.ref b)) Q E s := by
  refine m_eqRows N Da sa Db sb hu ?_
  rw [decide_eq_decide.mpr (leafL_eq h1 h2)]
  exact h
theorem m_neLeaf {j1 j2 n : Int} (N : News h₀ L s.heap news) (Da : DatIn l1 (.ref a) (leafJ j1 n)) (sa : ∀ p ∈ l1, p ∈ news) (Db : DatIn l2 (.ref b) (leafJ j2 n)) (sb : ∀ p ∈ l2, p ∈ news) (hu : A.units + 64 < cLine) (h1 : 1 ≤ n) (h2 : n ≤ 31)
    (h : Q (.bool (!decide (j1 % 7 = j2 % 7))) s) : wpAny (model prog w) A (compareOp .NotEq (.ref a) (.ref b)) Q E s := by
  refine m_neRows N Da sa Db sb hu ?_
  rw [decide_eq_decide.mpr (leafL_eq h1 h2)]
  exact h
end
end Mine
end
section
open PySem PySem.W PyProof.Rows PySem.Calls PySem.Spec PyProof.Rows.LCg
set_option maxRecDepth 100000
namespace Mine
/-! ### the periods -/
theorem isleap_400 (y r : Int) : isleapB (y + 400 * r) = isleapB y := by
  unfold isleapB
  rw [show (y + 400 * r) % 4 = y % 4 by omega, show (y + 400 * r) % 100 = y % 100 by omega, show (y + 400 * r) % 400 = y % 400 by omega]
theorem gregJ_400 (y m d r : Int) : gregJ (y + 400 * r) m d = gregJ y m d + 146097 * r := by
  unfold gregJ
  rw [isleap_400]
  generalize (367 * m - 362) / 12 + (if m ≤ 2 then 0 else if isleapB y = true then -1 else -2) + d = z
  omega
theorem gregLen_400 (y m r : Int) : gregLen (y + 400 * r) m = gregLen y m := by unfold gregLen; rw [isleap_400]
theorem indJ_400 (y m r : Int) : indJ (y + 400 * r) m = indJ y m + 146097 * r := by
  unfold indJ
  rw [show y + 400 * r + 78 = y + 78 + 400 * r by omega, isleap_400, gregJ_400]
  omega
theorem indLen_400 (y m r : Int) : indLen (y + 400 * r) m = indLen y m := by
  unfold indLen
  rw [show y + 400 * r - 78 = y - 78 + 400 * r by omega, isleap_400]
theorem julJ_4 (y m r : Int) : julJ (y + 4 * r) m = julJ y m + 1461 * r := by unfold julJ; split <;> omega
theorem julLen_4 (y m r : Int) : julLen (y + 4 * r) m = julLen y m := by unfold julLen; rw [show (y + 4 * r) % 4 = y % 4 by omega]
theorem copJ_4 (y m r : Int) : copJ (y + 4 * r) m = copJ y m + 1461 * r := by unfold copJ; omega
theorem copLen_4 (y m r : Int) : copLen (y + 4 * r) m = copLen y m := by unfold copLen; rw [show (y + 4 * r) % 4 = y % 4 by omega]
theorem sarJ_4 (y m r : Int) : sarJ (y + 4 * r) m = sarJ y m + 1461 * r := by unfold sarJ; omega
theorem sarLen_4 (y m r : Int) : sarLen (y + 4 * r) m = sarLen y m := by unfold sarLen; rw [show (y + 4 * r) % 4 = y % 4 by omega]
theorem islJ_30 (y m r : Int) : islJ (y + 30 * r) m = islJ y m + 10631 * r := by
  unfold islJ
  generalize -((-(59 * (m - 1))) / 2) = z
  omega
theorem islLen_30 (y m r : Int) : islLen (y + 30 * r) m = islLen y m := by unfold islLen; rw [show ((y + 30 * r) * 11 + 14) % 30 = (y * 11 + 14) % 30 by omega]
theorem armJ_1 (y m r : Int) : armJ (y + r) m = armJ y m + 365 * r := by unfold armJ; omega
/-- the same leaf, by the column and the length -/
theorem leafJ_same {j1 j2 n1 n2 : Int} (h : j1 % 7 = j2 % 7) (e : n1 = n2) : leafJ j1 n1 = leafJ j2 n2 := by
  unfold leafJ
  rw [show (j1 + 1) % 7 = (j2 + 1) % 7 by omega, e]
theorem gOn (y m d r : Int) : gregJ (y + 400 * r) m d % 7 = (gregJ y m d + 0) % 7 := by rw [gregJ_400]; omega
theorem dOn (y m r : Int) : indJ (y + 400 * r) m % 7 = (indJ y m + 0) % 7 := by rw [indJ_400]; omega
theorem jOn (y m r : Int) : julJ (y + 4 * r) m % 7 = (julJ y m + 5 * r) % 7 := by rw [julJ_4]; omega
theorem cOn (y m r : Int) : copJ (y + 4 * r) m % 7 = (copJ y m + 5 * r) % 7 := by rw [copJ_4]; omega
theorem sOn (y m r : Int) : sarJ (y + 4 * r) m % 7 = (sarJ y m + 5 * r) % 7 := by rw [sarJ_4]; omega
theorem iOn (y m r : Int) : islJ (y + 30 * r) m % 7 = (islJ y m + 5 * r) % 7 := by rw [islJ_30]; omega
theorem aOn (y m r : Int) : armJ (y + r) m % 7 = (armJ y m + r) % 7 := by rw [armJ_1]; omega
theorem jBk (y m r : Int) : julJ (y + 28 * r) m % 7 = julJ y m % 7 := by rw [show y + 28 * r = y + 4 * (7 * r) by omega, julJ_4]; omega
theorem cBk (y m r : Int) : copJ (y + 28 * r) m % 7 = copJ y m % 7 := by rw [show y + 28 * r = y + 4 * (7 * r) by omega, copJ_4]; omega
theorem sBk (y m r : Int) : sarJ (y + 28 * r) m % 7 = sarJ y m % 7 := by rw [show y + 28 * r = y + 4 * (7 * r) by omega, sarJ_4]; omega
theorem iBk (y m r : Int) : islJ (y + 210 * r) m % 7 = islJ y m % 7 := by rw [show y + 210 * r = y + 30 * (7 * r) by omega, islJ_30]; omega
theorem aBk (y m r : Int) : armJ (y + 7 * r) m % 7 = armJ y m % 7 := by rw [armJ_1]; omega
theorem jBl (y m r : Int) : julLen (y + 28 * r) m = julLen y m := by rw [show y + 28 * r = y + 4 * (7 * r) by omega, julLen_4]
theorem cBl (y m r : Int) : copLen (y + 28 * r) m = copLen y m := by rw [show y + 28 * r = y + 4 * (7 * r) by omega, copLen_4]
theorem sBl (y m r : Int) : sarLen (y + 28 * r) m = sarLen y m := by rw [show y + 28 * r = y + 4 * (7 * r) by omega, sarLen_4]
theorem iBl (y m r : Int) : islLen (y + 210 * r) m = islLen y m := by rw [show y + 210 * r = y + 30 * (7 * r) by omega, islLen_30]
/-- a loose Armenian month's days -/
def armLenM (m : Int) : Int := if m = 13 then 5 else 30
theorem armLen_m (y m : Int) : armLen y m = armLenM m := rfl
theorem armLenM_b (m : Int) : 1 ≤ armLenM m ∧ armLenM m ≤ 31 := armLen_b 0 m
theorem leafJ_ref {news : Led} {v : Value} {j n : Int} (h : DatIn news v (leafJ j n)) : ∃ a, v = .ref a := by
  unfold leafJ leafD at h
  obtain ⟨a, _, _, e, _⟩ := datIn_list h
  exact ⟨a, e⟩
section
variable {prog : Program} {w : World} {A : Around} {E : Value → Shared → Prop} {s : Shared} {t u : Tok} {Q : Value → Shared → Prop} {h₀ : Heap} {L : Addr} {news l1 l2 : Led} {a b : Addr}
theorem m_modAny {x d : Int} (hd : 0 < d) (h : ∀ c, 0 ≤ c → c < d → Q (.int c s.toks) { s with toks := s.toks + 1 }) : wpAny (model prog w) A (binaryOp .Mod (.int x t) (.int d u)) Q E s :=
  mod_int' (by omega) (h _ (Int.fmod_nonneg_of_pos x hd) (Int.fmod_lt_of_pos x hd))
theorem m_eqLeafS {j1 j2 n : Int} (N : News h₀ L s.heap news) (Da : DatIn l1 (.ref a) (leafJ j1 n)) (sa : ∀ p ∈ l1, p ∈ news) (Db : DatIn l2 (.ref b) (leafJ j2 n)) (sb : ∀ p ∈ l2, p ∈ news) (hu : A.units + 64 < cLine) (h1 : 1 ≤ n) (h2 : n ≤ 31) (hj : j1 % 7 = j2 % 7)
    (h : Q (.bool true) s) : wpAny (model prog w) A (compareOp .Eq (.ref a) (.ref b)) Q E s := by
  refine m_eqLeaf N Da sa Db sb hu h1 h2 ?_
  rw [decide_eq_true hj]
  exact h
theorem m_neLeafS {j1 j2 n : Int} (N : News h₀ L s.heap news) (Da : DatIn l1 (.ref a) (leafJ j1 n)) (sa : ∀ p ∈ l1, p ∈ news) (Db : DatIn l2 (.ref b) (leafJ j2 n)) (sb : ∀ p ∈ l2, p ∈ news) (hu : A.units + 64 < cLine) (h1 : 1 ≤ n) (h2 : n ≤ 31) (hj : j1 % 7 = j2 % 7)
    (h : Q (.bool false) s) : wpAny (model prog w) A (compareOp .NotEq (.ref a) (.ref b)) Q E s := by
  refine m_neLeaf N Da sa Db sb hu h1 h2 ?_
  rw [decide_eq_true hj]
  exact h
end
end Mine
end
section
open PySem PySem.W PyProof.Rows PySem.Calls PySem.Spec PyProof.Rows.LCg
set_option linter.unusedVariables false
set_option exponentiation.threshold 100
set_option maxRecDepth 100000
namespace Mine

local macro_rules | `(tactic| walk_at "m enter") => `(tactic| (refine wpAny_call ?_; k_dflt (first
  | (refine' code_def ?k1 ?k2 ?k3 ?k4 ?k5 ?kA ?kF ?kK ?k6 ?k7 ?k8 ?k9 ?kB ?_ ?c2 ?c3 ?c4 ?c5; (case kA => exact rfl); (case kF => exact rfl); (case kK => first | assumption | exact rfl); (case k1 => k_asm); (case k2 => k_asm); (case k3 => k_asm); (case k4 => k_asm); (case k5 => k_asm); (case k6 => k_is); (case k7 => k_is); (case k8 => ktr_room); (case k9 => first | exact BindsTo.of_eq rfl | exact binds_K (by k_in) rfl (by k_is) rfl rfl rfl); (case c5 => decide); (case kB => exact locs rfl); (case c2 => exact rfl); (case c3 => exact rfl); (case c4 => exact rfl); k_whole; intro g' L' h' FG' F' N' B' X' T'; (try dsimp only); (try k_lift B'); (try k_fold))
  | (refine' code_defC ?k1 ?k2 ?k3 ?k4 ?k5 ?kA ?kF ?kK ?k6 ?k7 ?k8 ?k9 ?kB ?kD ?_ ?c2 ?c3 ?c4; (case kA => exact rfl); (case kF => exact rfl); (case kK => first | assumption | exact rfl); (case k1 => k_asm); (case k2 => k_asm); (case k3 => k_asm); (case k4 => k_asm); (case k5 => k_asm); (case k6 => k_is); (case k7 => k_is); (case k8 => ktr_room); (case k9 => first | exact BindsTo.of_eq rfl | exact binds_K (by k_in) rfl (by k_is) rfl rfl rfl); (case kB => exact rfl); (case kD => decide +kernel); (case c2 => exact rfl); (case c3 => exact rfl); (case c4 => exact rfl); k_whole; intro g' L' h' tk' cells' FG' F' N' Y' B' X' T' l1; (have bn := (show Bnd L' _ from l1)); k_cells Y'; (try simp only [List.cons_append, List.nil_append] at N'); (try dsimp only); (try k_lift B'); (try k_fold)))))
local macro_rules | `(tactic| k_all) => `(tactic| exact Bnd.ne (by assumption) (by omega))
local macro_rules | `(tactic| k_mem) => `(tactic| first | assumption | (with_reducible refine List.mem_cons_of_mem _ ?_; k_mem) | (with_reducible refine List.mem_append_left _ ?_; k_mem) | (with_reducible refine List.mem_append_right _ ?_; k_mem))
local macro_rules | `(tactic| walk_at "m news") => `(tactic| first | k_asm | (refine' News.sub (by k_asm) ?_; intro p9 hp9; simp only [List.mem_cons, List.mem_append, hp9, or_true, true_or]))
local macro_rules | `(tactic| walk_at "m arith") => `(tactic| first | omega | ((try simp only [fmod_lit, fdiv_lit] at *); omega))
local macro_rules | `(tactic| walk_at "m len") => `(tactic| ((simp only [List.length_append, List.length_replicate, List.length_cons, List.length_nil, rangeKs_length]); (try simp only [IntsAre.length (by assumption)]); (try simp only [rangeKs_length, fmod_lit]); omega))
local macro_rules | `(tactic| walk_at "m size") => `(tactic| (rw [sizeLine_eq, List.size_toArray]; walk_at "m len"))
local macro_rules | `(tactic| walk_at "binaryOp Mult ref int") => `(tactic| (k_here; k_dflt (refine' m_mul1 ?zzF ?zzN ?zzl ?zza ?zzb ?_; (case zzF => k_asm); (case zzN => k_asm); (case zzl => k_mem); (case zza => walk_at "m arith"); (case zzb => walk_at "m arith")); intro D' h' F' N' l1; (try k_lt l1); (try dsimp only)))
local macro_rules | `(tactic| walk_at "binaryOp Mult int ref") => `(tactic| (k_here; k_dflt (refine' m_mul1r ?zzF ?zzN ?zzl ?zza ?zzb ?_; (case zzF => k_asm); (case zzN => k_asm); (case zzl => k_mem); (case zza => walk_at "m arith"); (case zzb => walk_at "m arith")); intro D' h' F' N' l1; (try k_lt l1); (try dsimp only)))
local macro_rules | `(tactic| walk_at "binaryOp Add ref ref") => `(tactic| (k_here; k_dflt (refine' m_add ?zzF ?zzN ?zzl ?zzb ?zzz ?_; (case zzF => k_asm); (case zzN => k_asm); (case zzl => k_mem); (case zzb => k_mem); (case zzz => walk_at "m len")); intro D' h' F' N' l1; (try k_lt l1); (try dsimp only)))
local macro_rules | `(tactic| walk_at "call type:list") => `(tactic| (k_here; (with_reducible show wpAny _ _ (call (Value.type "list") [Value.ref _]) _ _ _); k_dflt (refine' m_listRange ?zzhh ?zzF ?zzN ?zzr ?zzsm ?zzn ?zzle ?_; (case zzhh => exact rfl); (case zzF => k_asm); (case zzN => k_asm); (case zzr => assumption); (case zzn => exact range_size (by walk_at "m arith")); (case zzsm => exact range_small (by walk_at "m arith") (by walk_at "m arith")); (case zzle => walk_at "m arith")); intro D' h' tk' ys' c' F' N' l1 hI'; (try k_lt l1); (try dsimp only)))
local macro_rules | `(tactic| walk_at "m q4") => `(tactic| first
  | assumption
  | (first | exact q4_c0 | exact q4_c1 | exact q4_c2 | exact q4_c3 | exact q4_c4 | exact q4_c5 | exact q4_c6 | exact q4_c7 | exact q4_c8)
  | (with_reducible refine q4_ofInt _ ?_; walk_at "m arith")
  | (with_reducible refine q4_quarter _ ?_; walk_at "m arith")
  | (with_reducible apply q4_add; (focus walk_at "m q4"); (focus walk_at "m q4"); walk_at "m arith")
  | (with_reducible apply q4_sub; (focus walk_at "m q4"); (focus walk_at "m q4"); walk_at "m arith")
  | (with_reducible apply q4_mul; (focus walk_at "m q4"); (focus walk_at "m q4"); walk_at "m arith"))
local macro_rules | `(tactic| walk_at "call builtin:math.floor") => `(tactic| (k_here; (with_reducible show wpAny _ _ (call _ [Value.float _ _]) _ _ _); k_dflt (first
  | (refine m_floorG rfl (by assumption) (by assumption) (by omega) (by omega) ?_)
  | (refine m_floorJ rfl (by walk_at "m arith") (by walk_at "m arith") ?_)
  | (refine' m_floor rfl ?zzq ?_; (case zzq => walk_at "m q4"))
  | (refine m_floorQuot rfl (by walk_at "m arith") (by walk_at "m arith") ?_)); (try dsimp only)))
local macro_rules | `(tactic| walk_at "call builtin:math.ceil") => `(tactic| (k_here; (with_reducible show wpAny _ _ (call _ [Value.float _ _]) _ _ _); k_dflt (refine' m_ceil rfl ?zzq ?_; (case zzq => walk_at "m q4")); (try dsimp only)))
local macro_rules | `(tactic| walk_at "call builtin:math.trunc") => `(tactic| (k_here; (with_reducible show wpAny _ _ (call _ [Value.float _ _]) _ _ _); k_dflt (refine' m_trunc rfl ?zzq ?zzp ?_; (case zzq => walk_at "m q4"); (case zzp => walk_at "m arith")); (try dsimp only)))
local macro_rules | `(tactic| walk_at "compareOp In int ref") => `(tactic| (k_here; k_dflt (refine' in_tuple_ints ?zzt ?zzi ?_; (case zzt => exact tupK (Frag.In.keeps (by k_asm) (Fr.keep (by k_asm))) (by k_is)); (case zzi => repeat constructor)); (try dsimp only)))
local macro_rules | `(tactic| walk_at "compareOp Eq int ref") => `(tactic| (k_here; k_dflt (refine' m_eqOwn ?zzX ?zzu ?zzo ?zzt ?zzs ?zzf ?_; (case zzX => exact Frag.In.keeps (by k_asm) (Fr.keep (by k_asm))); (case zzu => ktr_units); (case zzo => k_is); (case zzt => k_is); (case zzs => k_is); (case zzf => k_is)); (try dsimp only)))
local macro_rules | `(tactic| walk_at "call type:datetime.date") => `(tactic| (k_here; k_dflt (refine' m_date ?zzF ?zzN ?zza ?zzb ?zzc ?zzd ?zze ?zzf ?_; (case zzF => k_asm); (case zzN => k_asm); (case zza => walk_at "m arith"); (case zzb => walk_at "m arith"); (case zzc => walk_at "m arith"); (case zzd => walk_at "m arith"); (case zze => walk_at "m arith"); (case zzf => walk_at "m arith")); intro D' h' F' N' l1; (try k_lt l1); (try dsimp only)))
local macro_rules | `(tactic| walk_at "getMethod ref") => `(tactic| (k_here; k_dflt (refine' m_weekdayM ?zzN ?zzm ?_; (case zzN => k_asm); (case zzm => k_mem)); (try dsimp only)))
local macro_rules | `(tactic| walk_at "call builtin:datetime.date.weekday") => `(tactic| (k_here; k_dflt (refine' m_weekday ?zzN ?zzm ?_; (case zzN => k_asm); (case zzm => k_mem)); intro k' t' k0' k1'; (try dsimp only)))
local macro_rules | `(tactic| walk_at "subscriptTail Name") => `(tactic| (k_here; (with_reducible show wpAny _ _ (subscriptTail _ _ (Value.ref _) (Value.int _ _)) _ _ _); k_dflt (refine' m_item_any ?zzt ?zza ?zzb ?zzc ?_; (case zzt => exact tupK (Frag.In.keeps (by k_asm) (Fr.keep (by k_asm))) (by k_is)); (case zza => assumption); (case zzb => (simp only [List.length_cons, List.length_nil]; omega)); (case zzc => decide)); intro v' m'; (try dsimp only)))
local macro_rules | `(tactic| walk_at "subscriptTail Name") => `(tactic| (k_here; (with_reducible show wpAny _ _ (subscriptTail _ _ (Value.ref _) (Value.int _ _)) _ _ _); k_dflt (refine' m_item_int ?zzt ?zzi ?zza ?zzb ?zzc ?_; (case zzt => exact lstK (Frag.In.keeps (by k_asm) (Fr.keep (by k_asm))) (by k_is)); (case zzi => repeat constructor); (case zza => omega); (case zzb => (simp only [List.length_cons, List.length_nil]; omega)); (case zzc => decide)); intro t'; (try dsimp only)))
local macro_rules | `(tactic| walk_at "call ref") => `(tactic| (k_here; walk_at "m enter"))

abbrev PR : Program := PySem.Challenge.rw_bd5017_02.row.prog


section
local macro_rules | `(tactic| walk_at "eval ListComp") => `(tactic| (k_here; k_dflt (refine ListComp_step (F₀ := by k_asm) (by with_unfolding_all rfl) (by decide) (by rfl) (by decide) (by rfl) ?_)))
local macro_rules | `(tactic| walk_at "subscriptTail Name Slice ref ref") => `(tactic| (k_here; k_dflt (refine' kms_slice_lit ?zzF ?zzN ?zzl ?zzp ?zzq ?zze ?_ ?zzs ?zzt ?zzz; (case zzF => k_asm); (case zzN => k_asm); (case zzl => kmk_list); (case zzp => kmk_part); (case zzq => kmk_part); (case zze => exact pick7' _ _); (case zzs => with_unfolding_all rfl); (case zzt => kmk_pure); (case zzz => walk_at "m size")); intro D' h' F' N' l1))
local macro_rules | `(tactic| walk_at "RowEnd") => `(tactic| exact ⟨_, _, _, _, rfl, rfl, by k_asm, by k_asm, by assumption⟩)
set_option maxHeartbeats 4000000 in
theorem c_helper (w : World) (wd n : Int) (t u : Tok) (h1 : 0 ≤ wd) (h2 : wd ≤ 6) (h3 : 0 ≤ n) (h4 : n ≤ 31) :
    Ctr PR w (hd.heap_39 w.params) 1 71 [.int wd t, .int n u] (fun _ => True) (fun add v => DatIn add v (leafD (leafL ((wd + 1) % 7).toNat n.toNat))) := by
  unfold Ctr
  intro p loose mean mg mb dp un gd cn cs a ccd cl outer A₀ base h₀ L m news s Q E B F X N T hk hd hu _ hret
  walk_at "m enter"
  k_steps
  have hx := days_all (by assumption) ((wd + 1).fmod 7).toNat
  refine comp7 (n := (((wd + 1) % 7).toNat + n.toNat + 6) / 7) rfl (by k_asm) (by k_asm) (by assumption) (by walk_at "m arith") (by walk_at "m arith") hx ?_ ?_
  · intro i rows ys t9 I oI C oC D m₂ h tk E' hi hC hx F9 N9
    k_steps
  · intro D h tk ys rows F9 N9 A9 D9
    k_steps
    refine hret _ ((D, lst ys) :: rows) _ _ (by k_asm) (News.sub (by assumption) fun p hp => ?_) (A9.sub fun p hp => ?_) ?_
    · simp only [List.mem_cons, List.mem_append] at hp ⊢
      rcases hp with (h | h) | h
      · exact .inl h
      · exact .inr (.inl h)
      · simp [h]
    · simp [hp]
    · refine .list List.mem_cons_self (DatAll.mono (fun p hp => List.mem_cons_of_mem _ hp) ?_)
      have e1 : (1 + n - 1).toNat = n.toNat := by omega
      rw [fmod_lit, e1] at D9
      exact D9
end

local macro_rules | `(tactic| walk_at "call ref") => `(tactic| (k_here; k_dflt (refine' c_use (c_helper _ _ _ _ _ ?zzh1 ?zzh2 ?zzh3 ?zzh4) ?zz1 ?zz2 ?zz3 ?zz4 ?zz5 ?zzK ?zzd ?zzu trivial ?_; (case zzh1 => walk_at "m arith"); (case zzh2 => walk_at "m arith"); (case zzh3 => walk_at "m arith"); (case zzh4 => walk_at "m arith"); (case zz1 => k_asm); (case zz2 => k_asm); (case zz3 => k_asm); (case zz4 => k_asm); (case zz5 => k_asm); (case zzK => first | assumption | exact rfl); (case zzd => ktr_room); (case zzu => ktr_units)); intro v9 add9 h9 tk9 F9 N9 A9 P9; (try k_sweep); (try dsimp only); (try k_fold)))

set_option maxHeartbeats 4000000 in
theorem c_isleap (w : World) (y : Int) (t : Tok)  : Ctr0 PR w (hd.heap_39 w.params) 1 392 [.int y t] (fun v => v = .bool (isleapB y)) := by
  unfold Ctr0
  intro p loose mean mg mb dp un gd cn cs a ccd cl outer A₀ base h₀ L m news s Q E B F X N T hk hd hu hret
  walk_at "m enter"
  k_steps
  all_goals first | (exfalso; omega) | (refine hret _ _ _ (by k_asm) (by walk_at "m news") ?_)
  all_goals (simp only [fmod_lit] at *; simp [isleapB, *])


local macro_rules | `(tactic| walk_at "call ref") => `(tactic| (k_here; k_dflt (refine' c0_use (c_isleap _ _ _ ) ?zz1 ?zz2 ?zz3 ?zz4 ?zz5 ?zzK ?zzd ?zzu ?_; (case zz1 => k_asm); (case zz2 => k_asm); (case zz3 => k_asm); (case zz4 => k_asm); (case zz5 => k_asm); (case zzK => first | assumption | exact rfl); (case zzd => ktr_room); (case zzu => ktr_units)); intro v9 h9 tk9 F9 N9 P9; subst P9; (try k_sweep); (try dsimp only); (try k_fold)))

set_option maxHeartbeats 4000000 in
theorem c_weekday (w : World) (y mo : Int) (t u v : Tok) (h1 : 1 ≤ y) (h2 : y ≤ 500000) (h3 : 1 ≤ mo) (h4 : mo ≤ 12) : Ctr0 PR w (hd.heap_39 w.params) 1 399 [.int y t, .int mo u, .int 1 v] (fun v => ∃ a, v = .ref a) := by
  unfold Ctr0
  intro p loose mean mg mb dp un gd cn cs a ccd cl outer A₀ base h₀ L m news s Q E B F X N T hk hd hu hret
  walk_at "m enter"
  k_steps
  all_goals first | (exfalso; omega) | (refine hret _ _ _ (by k_asm) (by walk_at "m news") ?_)
  all_goals (refine' all_refs ?_ (by assumption); rfl)


local macro_rules | `(tactic| walk_at "call ref") => `(tactic| (k_here; k_dflt (refine' c0_use (c_weekday _ _ _ _ _ _ ?zzh1 ?zzh2 ?zzh3 ?zzh4) ?zz1 ?zz2 ?zz3 ?zz4 ?zz5 ?zzK ?zzd ?zzu ?_; (case zzh1 => walk_at "m arith"); (case zzh2 => walk_at "m arith"); (case zzh3 => walk_at "m arith"); (case zzh4 => walk_at "m arith"); (case zz1 => k_asm); (case zz2 => k_asm); (case zz3 => k_asm); (case zz4 => k_asm); (case zz5 => k_asm); (case zzK => first | assumption | exact rfl); (case zzd => ktr_room); (case zzu => ktr_units)); intro v9 h9 tk9 F9 N9 P9; obtain ⟨a9, P9⟩ := P9; subst P9; (try k_sweep); (try dsimp only); (try k_fold)))

set_option maxHeartbeats 4000000 in
theorem c_jwday (w : World) (x : UInt64) (t : Tok) (j : Int) (hq : Q4 x (4 * j - 2)) (h1 : 0 ≤ j) (h2 : j ≤ 1000000000) : Ctr0 PR w (hd.heap_39 w.params) 1 66 [.float x t] (fun v => ∃ n t, v = .int n t ∧ n = j % 7) := by
  unfold Ctr0
  intro p loose mean mg mb dp un gd cn cs a ccd cl outer A₀ base h₀ L m news s Q E B F X N T hk hd hu hret
  walk_at "m enter"
  k_steps
  all_goals first | (exfalso; omega) | (refine hret _ _ _ (by k_asm) (by walk_at "m news") ?_)
  exact ⟨_, _, rfl, by rw [fmod_lit]; omega⟩


local macro_rules | `(tactic| walk_at "call ref") => `(tactic| (k_here; k_dflt (refine' c0_use (c_jwday _ _ _ _ ?zzhq ?zzh1 ?zzh2) ?zz1 ?zz2 ?zz3 ?zz4 ?zz5 ?zzK ?zzd ?zzu ?_; (case zzhq => assumption); (case zzh1 => walk_at "m arith"); (case zzh2 => walk_at "m arith"); (case zz1 => k_asm); (case zz2 => k_asm); (case zz3 => k_asm); (case zz4 => k_asm); (case zz5 => k_asm); (case zzK => first | assumption | exact rfl); (case zzd => ktr_room); (case zzu => ktr_units)); intro v9 h9 tk9 F9 N9 P9; obtain ⟨n9, t9, P9, e9⟩ := P9; subst P9; (try k_sweep); (try dsimp only); (try k_fold)))

set_option maxHeartbeats 4000000 in
theorem c_legal_g (w : World) (y mo dd : Int) (t u v : Tok) (h3 : 1 ≤ mo) (h4 : mo ≤ 12) (h5 : 1 ≤ dd) (h6 : dd ≤ 28) : Ctr0 PR w (hd.heap_39 w.params) 2 420 [.int y t, .int mo u, .int dd v] (fun v => v = .bool true) := by
  unfold Ctr0
  intro p loose mean mg mb dp un gd cn cs a ccd cl outer A₀ base h₀ L m news s Q E B F X N T hk hd hu hret
  walk_at "m enter"
  k_steps
  all_goals first | (exfalso; omega) | (refine hret _ _ _ (by k_asm) (by walk_at "m news") ?_)
  all_goals exact rfl


local macro_rules | `(tactic| walk_at "call ref") => `(tactic| (k_here; k_dflt (refine' c0_use (c_legal_g _ _ _ _ _ _ _ ?zzh3 ?zzh4 ?zzh5 ?zzh6) ?zz1 ?zz2 ?zz3 ?zz4 ?zz5 ?zzK ?zzd ?zzu ?_; (case zzh3 => walk_at "m arith"); (case zzh4 => walk_at "m arith"); (case zzh5 => walk_at "m arith"); (case zzh6 => walk_at "m arith"); (case zz1 => k_asm); (case zz2 => k_asm); (case zz3 => k_asm); (case zz4 => k_asm); (case zz5 => k_asm); (case zzK => first | assumption | exact rfl); (case zzd => ktr_room); (case zzu => ktr_units)); intro v9 h9 tk9 F9 N9 P9; subst P9; (try k_sweep); (try dsimp only); (try k_fold)))

set_option maxHeartbeats 4000000 in
theorem c_mlen_g (w : World) (y mo : Int) (t u : Tok) (h1 : 1 ≤ y) (h2 : y ≤ 500000) (h3 : 1 ≤ mo) (h4 : mo ≤ 12) : Ctr0 PR w (hd.heap_39 w.params) 4 434 [.int y t, .int mo u] (fun v => ∃ n t, v = .int n t ∧ n = gregLen y mo ∧ 1 ≤ n ∧ n ≤ 31) := by
  unfold Ctr0
  intro p loose mean mg mb dp un gd cn cs a ccd cl outer A₀ base h₀ L m news s Q E B F X N T hk hd hu hret
  walk_at "m enter"
  k_steps
  all_goals first | (exfalso; omega) | (refine hret _ _ _ (by k_asm) (by walk_at "m news") ?_)
  all_goals (refine ⟨_, _, rfl, int_end ?_ (gregLen_b y mo)⟩)
  all_goals first
    | exact gLen1 (by assumption)
    | exact gLen2 h3 h4 (by assumption)


local macro_rules | `(tactic| walk_at "call ref") => `(tactic| (k_here; k_dflt (refine' c0_use (c_mlen_g _ _ _ _ _ ?zzh1 ?zzh2 ?zzh3 ?zzh4) ?zz1 ?zz2 ?zz3 ?zz4 ?zz5 ?zzK ?zzd ?zzu ?_; (case zzh1 => walk_at "m arith"); (case zzh2 => walk_at "m arith"); (case zzh3 => walk_at "m arith"); (case zzh4 => walk_at "m arith"); (case zz1 => k_asm); (case zz2 => k_asm); (case zz3 => k_asm); (case zz4 => k_asm); (case zz5 => k_asm); (case zzK => first | assumption | exact rfl); (case zzd => ktr_room); (case zzu => ktr_units)); intro v9 h9 tk9 F9 N9 P9; obtain ⟨n9, t9, P9, e9, b9, c9⟩ := P9; subst P9; (try k_sweep); (try dsimp only); (try k_fold)))

set_option maxHeartbeats 4000000 in
theorem c_tojd_g (w : World) (y mo dd : Int) (t u v : Tok) (h1 : 1 ≤ y) (h2 : y ≤ 500000) (h3 : 1 ≤ mo) (h4 : mo ≤ 12) (h5 : dd = 1 ∨ dd = 21 ∨ dd = 22) : Ctr0 PR w (hd.heap_39 w.params) 4 427 [.int y t, .int mo u, .int dd v] (fun v => ∃ x t j, v = .float x t ∧ Q4 x (4 * j - 2) ∧ j = gregJ y mo dd ∧ 0 ≤ j ∧ j ≤ 900000000) := by
  unfold Ctr0
  intro p loose mean mg mb dp un gd cn cs a ccd cl outer A₀ base h₀ L m news s Q E B F X N T hk hd hu hret
  walk_at "m enter"
  k_steps
  all_goals first | (exfalso; omega) | (refine hret _ _ _ (by k_asm) (by walk_at "m news") ?_)
  all_goals (refine ⟨_, _, gregJ y mo dd, rfl, q4_cast (by walk_at "m q4") ?_, rfl, ?_⟩)
  all_goals first
    | (rw [gregJ1 _ (by assumption)]; omega)
    | (rw [gregJ2 _ (by assumption) (by assumption)]; omega)
    | (rw [gregJ3 _ (by assumption) (by assumption)]; omega)


local macro_rules | `(tactic| walk_at "call ref") => `(tactic| (k_here; k_dflt (refine' c0_use (c_tojd_g _ _ _ _ _ _ _ ?zzh1 ?zzh2 ?zzh3 ?zzh4 ?zzh5) ?zz1 ?zz2 ?zz3 ?zz4 ?zz5 ?zzK ?zzd ?zzu ?_; (case zzh1 => walk_at "m arith"); (case zzh2 => walk_at "m arith"); (case zzh3 => walk_at "m arith"); (case zzh4 => walk_at "m arith"); (case zzh5 => walk_at "m arith"); (case zz1 => k_asm); (case zz2 => k_asm); (case zz3 => k_asm); (case zz4 => k_asm); (case zz5 => k_asm); (case zzK => first | assumption | exact rfl); (case zzd => ktr_room); (case zzu => ktr_units)); intro v9 h9 tk9 F9 N9 P9; obtain ⟨x9, t9, j9, P9, q9, e9, b9, c9⟩ := P9; subst P9; (try k_sweep); (try dsimp only); (try k_fold)))

set_option maxHeartbeats 4000000 in
theorem c_cal_g (w : World) (y mo : Int) (t u : Tok) (h1 : 1 ≤ y) (h2 : y ≤ 500000) (h3 : 1 ≤ mo) (h4 : mo ≤ 12) : Ctr PR w (hd.heap_39 w.params) 6 441 [.int y t, .int mo u] (fun _ => True) (fun add v => DatIn add v (leafJ (gregJ y mo 1) (gregLen y mo))) := by
  unfold Ctr
  intro p loose mean mg mb dp un gd cn cs a ccd cl outer A₀ base h₀ L m news s Q E B F X N T hk hd hu _ hret
  walk_at "m enter"
  k_steps
  refine hret _ _ _ _ (by k_asm) (by k_asm) (by assumption) ?_
  subst_vars
  rw [← leafJ_of]
  assumption


local macro_rules | `(tactic| walk_at "call ref") => `(tactic| (k_here; k_dflt (refine' c_use (c_cal_g _ _ _ _ _ ?zzh1 ?zzh2 ?zzh3 ?zzh4) ?zz1 ?zz2 ?zz3 ?zz4 ?zz5 ?zzK ?zzd ?zzu trivial ?_; (case zzh1 => walk_at "m arith"); (case zzh2 => walk_at "m arith"); (case zzh3 => walk_at "m arith"); (case zzh4 => walk_at "m arith"); (case zz1 => k_asm); (case zz2 => k_asm); (case zz3 => k_asm); (case zz4 => k_asm); (case zz5 => k_asm); (case zzK => first | assumption | exact rfl); (case zzd => ktr_room); (case zzu => ktr_units)); intro v9 add9 h9 tk9 F9 N9 A9 P9; (try k_sweep); (try dsimp only); (try k_fold)))


end Mine
end
section
open PySem PySem.W PyProof.Rows PySem.Calls PySem.Spec PyProof.Rows.LCg
set_option linter.unusedVariables false
set_option exponentiation.threshold 100
set_option maxRecDepth 100000
namespace Mine

local macro_rules | `(tactic| walk_at "m enter") => `(tactic| (refine wpAny_call ?_; k_dflt (first
  | (refine' code_def ?k1 ?k2 ?k3 ?k4 ?k5 ?kA ?kF ?kK ?k6 ?k7 ?k8 ?k9 ?kB ?_ ?c2 ?c3 ?c4 ?c5; (case kA => exact rfl); (case kF => exact rfl); (case kK => first | assumption | exact rfl); (case k1 => k_asm); (case k2 => k_asm); (case k3 => k_asm); (case k4 => k_asm); (case k5 => k_asm); (case k6 => k_is); (case k7 => k_is); (case k8 => ktr_room); (case k9 => first | exact BindsTo.of_eq rfl | exact binds_K (by k_in) rfl (by k_is) rfl rfl rfl); (case c5 => decide); (case kB => exact locs rfl); (case c2 => exact rfl); (case c3 => exact rfl); (case c4 => exact rfl); k_whole; intro g' L' h' FG' F' N' B' X' T'; (try dsimp only); (try k_lift B'); (try k_fold))
  | (refine' code_defC ?k1 ?k2 ?k3 ?k4 ?k5 ?kA ?kF ?kK ?k6 ?k7 ?k8 ?k9 ?kB ?kD ?_ ?c2 ?c3 ?c4; (case kA => exact rfl); (case kF => exact rfl); (case kK => first | assumption | exact rfl); (case k1 => k_asm); (case k2 => k_asm); (case k3 => k_asm); (case k4 => k_asm); (case k5 => k_asm); (case k6 => k_is); (case k7 => k_is); (case k8 => ktr_room); (case k9 => first | exact BindsTo.of_eq rfl | exact binds_K (by k_in) rfl (by k_is) rfl rfl rfl); (case kB => exact rfl); (case kD => decide +kernel); (case c2 => exact rfl); (case c3 => exact rfl); (case c4 => exact rfl); k_whole; intro g' L' h' tk' cells' FG' F' N' Y' B' X' T' l1; (have bn := (show Bnd L' _ from l1)); k_cells Y'; (try simp only [List.cons_append, List.nil_append] at N'); (try dsimp only); (try k_lift B'); (try k_fold)))))
local macro_rules | `(tactic| k_all) => `(tactic| exact Bnd.ne (by assumption) (by omega))
local macro_rules | `(tactic| k_mem) => `(tactic| first | assumption | (with_reducible refine List.mem_cons_of_mem _ ?_; k_mem) | (with_reducible refine List.mem_append_left _ ?_; k_mem) | (with_reducible refine List.mem_append_right _ ?_; k_mem))
local macro_rules | `(tactic| walk_at "m news") => `(tactic| first | k_asm | (refine' News.sub (by k_asm) ?_; intro p9 hp9; simp only [List.mem_cons, List.mem_append, hp9, or_true, true_or]))
local macro_rules | `(tactic| walk_at "m arith") => `(tactic| first | omega | ((try simp only [fmod_lit, fdiv_lit] at *); omega))
local macro_rules | `(tactic| walk_at "m len") => `(tactic| ((simp only [List.length_append, List.length_replicate, List.length_cons, List.length_nil, rangeKs_length]); (try simp only [IntsAre.length (by assumption)]); (try simp only [rangeKs_length, fmod_lit]); omega))
local macro_rules | `(tactic| walk_at "m size") => `(tactic| (rw [sizeLine_eq, List.size_toArray]; walk_at "m len"))
local macro_rules | `(tactic| walk_at "binaryOp Mult ref int") => `(tactic| (k_here; k_dflt (refine' m_mul1 ?zzF ?zzN ?zzl ?zza ?zzb ?_; (case zzF => k_asm); (case zzN => k_asm); (case zzl => k_mem); (case zza => walk_at "m arith"); (case zzb => walk_at "m arith")); intro D' h' F' N' l1; (try k_lt l1); (try dsimp only)))
local macro_rules | `(tactic| walk_at "binaryOp Mult int ref") => `(tactic| (k_here; k_dflt (refine' m_mul1r ?zzF ?zzN ?zzl ?zza ?zzb ?_; (case zzF => k_asm); (case zzN => k_asm); (case zzl => k_mem); (case zza => walk_at "m arith"); (case zzb => walk_at "m arith")); intro D' h' F' N' l1; (try k_lt l1); (try dsimp only)))
local macro_rules | `(tactic| walk_at "binaryOp Add ref ref") => `(tactic| (k_here; k_dflt (refine' m_add ?zzF ?zzN ?zzl ?zzb ?zzz ?_; (case zzF => k_asm); (case zzN => k_asm); (case zzl => k_mem); (case zzb => k_mem); (case zzz => walk_at "m len")); intro D' h' F' N' l1; (try k_lt l1); (try dsimp only)))
local macro_rules | `(tactic| walk_at "call type:list") => `(tactic| (k_here; (with_reducible show wpAny _ _ (call (Value.type "list") [Value.ref _]) _ _ _); k_dflt (refine' m_listRange ?zzhh ?zzF ?zzN ?zzr ?zzsm ?zzn ?zzle ?_; (case zzhh => exact rfl); (case zzF => k_asm); (case zzN => k_asm); (case zzr => assumption); (case zzn => exact range_size (by walk_at "m arith")); (case zzsm => exact range_small (by walk_at "m arith") (by walk_at "m arith")); (case zzle => walk_at "m arith")); intro D' h' tk' ys' c' F' N' l1 hI'; (try k_lt l1); (try dsimp only)))
local macro_rules | `(tactic| walk_at "m q4") => `(tactic| first
  | assumption
  | (first | exact q4_c0 | exact q4_c1 | exact q4_c2 | exact q4_c3 | exact q4_c4 | exact q4_c5 | exact q4_c6 | exact q4_c7 | exact q4_c8)
  | (with_reducible refine q4_ofInt _ ?_; walk_at "m arith")
  | (with_reducible refine q4_quarter _ ?_; walk_at "m arith")
  | (with_reducible apply q4_add; (focus walk_at "m q4"); (focus walk_at "m q4"); walk_at "m arith")
  | (with_reducible apply q4_sub; (focus walk_at "m q4"); (focus walk_at "m q4"); walk_at "m arith")
  | (with_reducible apply q4_mul; (focus walk_at "m q4"); (focus walk_at "m q4"); walk_at "m arith"))
local macro_rules | `(tactic| walk_at "call builtin:math.floor") => `(tactic| (k_here; (with_reducible show wpAny _ _ (call _ [Value.float _ _]) _ _ _); k_dflt (first
  | (refine m_floorG rfl (by assumption) (by assumption) (by omega) (by omega) ?_)
  | (refine m_floorJ rfl (by walk_at "m arith") (by walk_at "m arith") ?_)
  | (refine' m_floor rfl ?zzq ?_; (case zzq => walk_at "m q4"))
  | (refine m_floorQuot rfl (by walk_at "m arith") (by walk_at "m arith") ?_)); (try dsimp only)))
local macro_rules | `(tactic| walk_at "call builtin:math.ceil") => `(tactic| (k_here; (with_reducible show wpAny _ _ (call _ [Value.float _ _]) _ _ _); k_dflt (refine' m_ceil rfl ?zzq ?_; (case zzq => walk_at "m q4")); (try dsimp only)))
local macro_rules | `(tactic| walk_at "call builtin:math.trunc") => `(tactic| (k_here; (with_reducible show wpAny _ _ (call _ [Value.float _ _]) _ _ _); k_dflt (refine' m_trunc rfl ?zzq ?zzp ?_; (case zzq => walk_at "m q4"); (case zzp => walk_at "m arith")); (try dsimp only)))
local macro_rules | `(tactic| walk_at "compareOp In int ref") => `(tactic| (k_here; k_dflt (refine' in_tuple_ints ?zzt ?zzi ?_; (case zzt => exact tupK (Frag.In.keeps (by k_asm) (Fr.keep (by k_asm))) (by k_is)); (case zzi => repeat constructor)); (try dsimp only)))
local macro_rules | `(tactic| walk_at "compareOp Eq int ref") => `(tactic| (k_here; k_dflt (refine' m_eqOwn ?zzX ?zzu ?zzo ?zzt ?zzs ?zzf ?_; (case zzX => exact Frag.In.keeps (by k_asm) (Fr.keep (by k_asm))); (case zzu => ktr_units); (case zzo => k_is); (case zzt => k_is); (case zzs => k_is); (case zzf => k_is)); (try dsimp only)))
local macro_rules | `(tactic| walk_at "call type:datetime.date") => `(tactic| (k_here; k_dflt (refine' m_date ?zzF ?zzN ?zza ?zzb ?zzc ?zzd ?zze ?zzf ?_; (case zzF => k_asm); (case zzN => k_asm); (case zza => walk_at "m arith"); (case zzb => walk_at "m arith"); (case zzc => walk_at "m arith"); (case zzd => walk_at "m arith"); (case zze => walk_at "m arith"); (case zzf => walk_at "m arith")); intro D' h' F' N' l1; (try k_lt l1); (try dsimp only)))
local macro_rules | `(tactic| walk_at "getMethod ref") => `(tactic| (k_here; k_dflt (refine' m_weekdayM ?zzN ?zzm ?_; (case zzN => k_asm); (case zzm => k_mem)); (try dsimp only)))
local macro_rules | `(tactic| walk_at "call builtin:datetime.date.weekday") => `(tactic| (k_here; k_dflt (refine' m_weekday ?zzN ?zzm ?_; (case zzN => k_asm); (case zzm => k_mem)); intro k' t' k0' k1'; (try dsimp only)))
local macro_rules | `(tactic| walk_at "subscriptTail Name") => `(tactic| (k_here; (with_reducible show wpAny _ _ (subscriptTail _ _ (Value.ref _) (Value.int _ _)) _ _ _); k_dflt (refine' m_item_any ?zzt ?zza ?zzb ?zzc ?_; (case zzt => exact tupK (Frag.In.keeps (by k_asm) (Fr.keep (by k_asm))) (by k_is)); (case zza => assumption); (case zzb => (simp only [List.length_cons, List.length_nil]; omega)); (case zzc => decide)); intro v' m'; (try dsimp only)))
local macro_rules | `(tactic| walk_at "subscriptTail Name") => `(tactic| (k_here; (with_reducible show wpAny _ _ (subscriptTail _ _ (Value.ref _) (Value.int _ _)) _ _ _); k_dflt (refine' m_item_int ?zzt ?zzi ?zza ?zzb ?zzc ?_; (case zzt => exact lstK (Frag.In.keeps (by k_asm) (Fr.keep (by k_asm))) (by k_is)); (case zzi => repeat constructor); (case zza => omega); (case zzb => (simp only [List.length_cons, List.length_nil]; omega)); (case zzc => decide)); intro t'; (try dsimp only)))
local macro_rules | `(tactic| walk_at "call ref") => `(tactic| (k_here; walk_at "m enter"))

local macro_rules | `(tactic| walk_at "call ref") => `(tactic| (k_here; k_dflt (refine' c_use (c_helper _ _ _ _ _ ?zzh1 ?zzh2 ?zzh3 ?zzh4) ?zz1 ?zz2 ?zz3 ?zz4 ?zz5 ?zzK ?zzd ?zzu trivial ?_; (case zzh1 => walk_at "m arith"); (case zzh2 => walk_at "m arith"); (case zzh3 => walk_at "m arith"); (case zzh4 => walk_at "m arith"); (case zz1 => k_asm); (case zz2 => k_asm); (case zz3 => k_asm); (case zz4 => k_asm); (case zz5 => k_asm); (case zzK => first | assumption | exact rfl); (case zzd => ktr_room); (case zzu => ktr_units)); intro v9 add9 h9 tk9 F9 N9 A9 P9; (try k_sweep); (try dsimp only); (try k_fold)))

local macro_rules | `(tactic| walk_at "call ref") => `(tactic| (k_here; k_dflt (refine' c0_use (c_isleap _ _ _ ) ?zz1 ?zz2 ?zz3 ?zz4 ?zz5 ?zzK ?zzd ?zzu ?_; (case zz1 => k_asm); (case zz2 => k_asm); (case zz3 => k_asm); (case zz4 => k_asm); (case zz5 => k_asm); (case zzK => first | assumption | exact rfl); (case zzd => ktr_room); (case zzu => ktr_units)); intro v9 h9 tk9 F9 N9 P9; subst P9; (try k_sweep); (try dsimp only); (try k_fold)))
local macro_rules | `(tactic| walk_at "call ref") => `(tactic| (k_here; k_dflt (refine' c0_use (c_weekday _ _ _ _ _ _ ?zzh1 ?zzh2 ?zzh3 ?zzh4) ?zz1 ?zz2 ?zz3 ?zz4 ?zz5 ?zzK ?zzd ?zzu ?_; (case zzh1 => walk_at "m arith"); (case zzh2 => walk_at "m arith"); (case zzh3 => walk_at "m arith"); (case zzh4 => walk_at "m arith"); (case zz1 => k_asm); (case zz2 => k_asm); (case zz3 => k_asm); (case zz4 => k_asm); (case zz5 => k_asm); (case zzK => first | assumption | exact rfl); (case zzd => ktr_room); (case zzu => ktr_units)); intro v9 h9 tk9 F9 N9 P9; obtain ⟨a9, P9⟩ := P9; subst P9; (try k_sweep); (try dsimp only); (try k_fold)))
local macro_rules | `(tactic| walk_at "call ref") => `(tactic| (k_here; k_dflt (refine' c0_use (c_jwday _ _ _ _ ?zzhq ?zzh1 ?zzh2) ?zz1 ?zz2 ?zz3 ?zz4 ?zz5 ?zzK ?zzd ?zzu ?_; (case zzhq => assumption); (case zzh1 => walk_at "m arith"); (case zzh2 => walk_at "m arith"); (case zz1 => k_asm); (case zz2 => k_asm); (case zz3 => k_asm); (case zz4 => k_asm); (case zz5 => k_asm); (case zzK => first | assumption | exact rfl); (case zzd => ktr_room); (case zzu => ktr_units)); intro v9 h9 tk9 F9 N9 P9; obtain ⟨n9, t9, P9, e9⟩ := P9; subst P9; (try k_sweep); (try dsimp only); (try k_fold)))
local macro_rules | `(tactic| walk_at "call ref") => `(tactic| (k_here; k_dflt (refine' c0_use (c_legal_g _ _ _ _ _ _ _ ?zzh3 ?zzh4 ?zzh5 ?zzh6) ?zz1 ?zz2 ?zz3 ?zz4 ?zz5 ?zzK ?zzd ?zzu ?_; (case zzh3 => walk_at "m arith"); (case zzh4 => walk_at "m arith"); (case zzh5 => walk_at "m arith"); (case zzh6 => walk_at "m arith"); (case zz1 => k_asm); (case zz2 => k_asm); (case zz3 => k_asm); (case zz4 => k_asm); (case zz5 => k_asm); (case zzK => first | assumption | exact rfl); (case zzd => ktr_room); (case zzu => ktr_units)); intro v9 h9 tk9 F9 N9 P9; subst P9; (try k_sweep); (try dsimp only); (try k_fold)))
local macro_rules | `(tactic| walk_at "call ref") => `(tactic| (k_here; k_dflt (refine' c0_use (c_mlen_g _ _ _ _ _ ?zzh1 ?zzh2 ?zzh3 ?zzh4) ?zz1 ?zz2 ?zz3 ?zz4 ?zz5 ?zzK ?zzd ?zzu ?_; (case zzh1 => walk_at "m arith"); (case zzh2 => walk_at "m arith"); (case zzh3 => walk_at "m arith"); (case zzh4 => walk_at "m arith"); (case zz1 => k_asm); (case zz2 => k_asm); (case zz3 => k_asm); (case zz4 => k_asm); (case zz5 => k_asm); (case zzK => first | assumption | exact rfl); (case zzd => ktr_room); (case zzu => ktr_units)); intro v9 h9 tk9 F9 N9 P9; obtain ⟨n9, t9, P9, e9, b9, c9⟩ := P9; subst P9; (try k_sweep); (try dsimp only); (try k_fold)))
local macro_rules | `(tactic| walk_at "call ref") => `(tactic| (k_here; k_dflt (refine' c0_use (c_tojd_g _ _ _ _ _ _ _ ?zzh1 ?zzh2 ?zzh3 ?zzh4 ?zzh5) ?zz1 ?zz2 ?zz3 ?zz4 ?zz5 ?zzK ?zzd ?zzu ?_; (case zzh1 => walk_at "m arith"); (case zzh2 => walk_at "m arith"); (case zzh3 => walk_at "m arith"); (case zzh4 => walk_at "m arith"); (case zzh5 => walk_at "m arith"); (case zz1 => k_asm); (case zz2 => k_asm); (case zz3 => k_asm); (case zz4 => k_asm); (case zz5 => k_asm); (case zzK => first | assumption | exact rfl); (case zzd => ktr_room); (case zzu => ktr_units)); intro v9 h9 tk9 F9 N9 P9; obtain ⟨x9, t9, j9, P9, q9, e9, b9, c9⟩ := P9; subst P9; (try k_sweep); (try dsimp only); (try k_fold)))
local macro_rules | `(tactic| walk_at "call ref") => `(tactic| (k_here; k_dflt (refine' c_use (c_cal_g _ _ _ _ _ ?zzh1 ?zzh2 ?zzh3 ?zzh4) ?zz1 ?zz2 ?zz3 ?zz4 ?zz5 ?zzK ?zzd ?zzu trivial ?_; (case zzh1 => walk_at "m arith"); (case zzh2 => walk_at "m arith"); (case zzh3 => walk_at "m arith"); (case zzh4 => walk_at "m arith"); (case zz1 => k_asm); (case zz2 => k_asm); (case zz3 => k_asm); (case zz4 => k_asm); (case zz5 => k_asm); (case zzK => first | assumption | exact rfl); (case zzd => ktr_room); (case zzu => ktr_units)); intro v9 add9 h9 tk9 F9 N9 A9 P9; (try k_sweep); (try dsimp only); (try k_fold)))


set_option maxHeartbeats 4000000 in
theorem c_mlen_j (w : World) (y mo : Int) (t u : Tok) (h3 : 1 ≤ mo) (h4 : mo ≤ 12) : Ctr0 PR w (hd.heap_39 w.params) 2 456 [.int y t, .int mo u] (fun v => ∃ n t, v = .int n t ∧ n = julLen y mo ∧ 1 ≤ n ∧ n ≤ 31) := by
  unfold Ctr0
  intro p loose mean mg mb dp un gd cn cs a ccd cl outer A₀ base h₀ L m news s Q E B F X N T hk hd hu hret
  walk_at "m enter"
  k_steps
  all_goals first | (exfalso; omega) | (refine hret _ _ _ (by k_asm) (by walk_at "m news") ?_)
  all_goals (refine ⟨_, _, rfl, int_end ?_ (julLen_b y mo)⟩)
  all_goals first
    | exact jl1 (by assumption) (by assumption)
    | exact jl2 (by assumption) (by assumption)
    | exact jl3 (by assumption) (by assumption)
    | exact jl4 (by assumption) (by assumption)


local macro_rules | `(tactic| walk_at "call ref") => `(tactic| (k_here; k_dflt (refine' c0_use (c_mlen_j _ _ _ _ _ ?zzh3 ?zzh4) ?zz1 ?zz2 ?zz3 ?zz4 ?zz5 ?zzK ?zzd ?zzu ?_; (case zzh3 => walk_at "m arith"); (case zzh4 => walk_at "m arith"); (case zz1 => k_asm); (case zz2 => k_asm); (case zz3 => k_asm); (case zz4 => k_asm); (case zz5 => k_asm); (case zzK => first | assumption | exact rfl); (case zzd => ktr_room); (case zzu => ktr_units)); intro v9 h9 tk9 F9 N9 P9; obtain ⟨n9, t9, P9, e9, b9, c9⟩ := P9; subst P9; (try k_sweep); (try dsimp only); (try k_fold)))

set_option maxHeartbeats 4000000 in
theorem c_legal_j (w : World) (y mo : Int) (t u v : Tok) (h3 : 1 ≤ mo) (h4 : mo ≤ 12) : Ctr0 PR w (hd.heap_39 w.params) 3 463 [.int y t, .int mo u, .int 1 v] (fun v => v = .bool true) := by
  unfold Ctr0
  intro p loose mean mg mb dp un gd cn cs a ccd cl outer A₀ base h₀ L m news s Q E B F X N T hk hd hu hret
  walk_at "m enter"
  k_steps
  all_goals first | (exfalso; omega) | (refine hret _ _ _ (by k_asm) (by walk_at "m news") ?_)
  all_goals exact rfl


local macro_rules | `(tactic| walk_at "call ref") => `(tactic| (k_here; k_dflt (refine' c0_use (c_legal_j _ _ _ _ _ _ ?zzh3 ?zzh4) ?zz1 ?zz2 ?zz3 ?zz4 ?zz5 ?zzK ?zzd ?zzu ?_; (case zzh3 => walk_at "m arith"); (case zzh4 => walk_at "m arith"); (case zz1 => k_asm); (case zz2 => k_asm); (case zz3 => k_asm); (case zz4 => k_asm); (case zz5 => k_asm); (case zzK => first | assumption | exact rfl); (case zzd => ktr_room); (case zzu => ktr_units)); intro v9 h9 tk9 F9 N9 P9; subst P9; (try k_sweep); (try dsimp only); (try k_fold)))

set_option maxHeartbeats 4000000 in
theorem c_tojd_j (w : World) (y mo : Int) (t u v : Tok) (h1 : 1 ≤ y) (h2 : y ≤ 500000) (h3 : 1 ≤ mo) (h4 : mo ≤ 12) : Ctr0 PR w (hd.heap_39 w.params) 4 470 [.int y t, .int mo u, .int 1 v] (fun v => ∃ x t j, v = .float x t ∧ Q4 x (4 * j - 2) ∧ j = julJ y mo ∧ 0 ≤ j ∧ j ≤ 900000000) := by
  unfold Ctr0
  intro p loose mean mg mb dp un gd cn cs a ccd cl outer A₀ base h₀ L m news s Q E B F X N T hk hd hu hret
  walk_at "m enter"
  k_steps
  all_goals first | (exfalso; omega) | (refine hret _ _ _ (by k_asm) (by walk_at "m news") ?_)
  all_goals (refine ⟨_, _, julJ y mo, rfl, q4_cast (by walk_at "m q4") ?_, rfl, ?_⟩)
  all_goals (unfold julJ; (repeat' split) <;> omega)


local macro_rules | `(tactic| walk_at "call ref") => `(tactic| (k_here; k_dflt (refine' c0_use (c_tojd_j _ _ _ _ _ _ ?zzh1 ?zzh2 ?zzh3 ?zzh4) ?zz1 ?zz2 ?zz3 ?zz4 ?zz5 ?zzK ?zzd ?zzu ?_; (case zzh1 => walk_at "m arith"); (case zzh2 => walk_at "m arith"); (case zzh3 => walk_at "m arith"); (case zzh4 => walk_at "m arith"); (case zz1 => k_asm); (case zz2 => k_asm); (case zz3 => k_asm); (case zz4 => k_asm); (case zz5 => k_asm); (case zzK => first | assumption | exact rfl); (case zzd => ktr_room); (case zzu => ktr_units)); intro v9 h9 tk9 F9 N9 P9; obtain ⟨x9, t9, j9, P9, q9, e9, b9, c9⟩ := P9; subst P9; (try k_sweep); (try dsimp only); (try k_fold)))

set_option maxHeartbeats 4000000 in
theorem c_cal_j (w : World) (y mo : Int) (t u : Tok) (h1 : 1 ≤ y) (h2 : y ≤ 500000) (h3 : 1 ≤ mo) (h4 : mo ≤ 12) : Ctr PR w (hd.heap_39 w.params) 6 477 [.int y t, .int mo u] (fun _ => True) (fun add v => DatIn add v (leafJ (julJ y mo) (julLen y mo))) := by
  unfold Ctr
  intro p loose mean mg mb dp un gd cn cs a ccd cl outer A₀ base h₀ L m news s Q E B F X N T hk hd hu _ hret
  walk_at "m enter"
  k_steps
  refine hret _ _ _ _ (by k_asm) (by k_asm) (by assumption) ?_
  subst_vars
  rw [← leafJ_of]
  assumption


local macro_rules | `(tactic| walk_at "call ref") => `(tactic| (k_here; k_dflt (refine' c_use (c_cal_j _ _ _ _ _ ?zzh1 ?zzh2 ?zzh3 ?zzh4) ?zz1 ?zz2 ?zz3 ?zz4 ?zz5 ?zzK ?zzd ?zzu trivial ?_; (case zzh1 => walk_at "m arith"); (case zzh2 => walk_at "m arith"); (case zzh3 => walk_at "m arith"); (case zzh4 => walk_at "m arith"); (case zz1 => k_asm); (case zz2 => k_asm); (case zz3 => k_asm); (case zz4 => k_asm); (case zz5 => k_asm); (case zzK => first | assumption | exact rfl); (case zzd => ktr_room); (case zzu => ktr_units)); intro v9 add9 h9 tk9 F9 N9 A9 P9; (try k_sweep); (try dsimp only); (try k_fold)))


end Mine
end
section
open PySem PySem.W PyProof.Rows PySem.Calls PySem.Spec PyProof.Rows.LCg
set_option linter.unusedVariables false
set_option exponentiation.threshold 100
set_option maxRecDepth 100000
namespace Mine

local macro_rules | `(tactic| walk_at "m enter") => `(tactic| (refine wpAny_call ?_; k_dflt (first
  | (refine' code_def ?k1 ?k2 ?k3 ?k4 ?k5 ?kA ?kF ?kK ?k6 ?k7 ?k8 ?k9 ?kB ?_ ?c2 ?c3 ?c4 ?c5; (case kA => exact rfl); (case kF => exact rfl); (case kK => first | assumption | exact rfl); (case k1 => k_asm); (case k2 => k_asm); (case k3 => k_asm); (case k4 => k_asm); (case k5 => k_asm); (case k6 => k_is); (case k7 => k_is); (case k8 => ktr_room); (case k9 => first | exact BindsTo.of_eq rfl | exact binds_K (by k_in) rfl (by k_is) rfl rfl rfl); (case c5 => decide); (case kB => exact locs rfl); (case c2 => exact rfl); (case c3 => exact rfl); (case c4 => exact rfl); k_whole; intro g' L' h' FG' F' N' B' X' T'; (try dsimp only); (try k_lift B'); (try k_fold))
  | (refine' code_defC ?k1 ?k2 ?k3 ?k4 ?k5 ?kA ?kF ?kK ?k6 ?k7 ?k8 ?k9 ?kB ?kD ?_ ?c2 ?c3 ?c4; (case kA => exact rfl); (case kF => exact rfl); (case kK => first | assumption | exact rfl); (case k1 => k_asm); (case k2 => k_asm); (case k3 => k_asm); (case k4 => k_asm); (case k5 => k_asm); (case k6 => k_is); (case k7 => k_is); (case k8 => ktr_room); (case k9 => first | exact BindsTo.of_eq rfl | exact binds_K (by k_in) rfl (by k_is) rfl rfl rfl); (case kB => exact rfl); (case kD => decide +kernel); (case c2 => exact rfl); (case c3 => exact rfl); (case c4 => exact rfl); k_whole; intro g' L' h' tk' cells' FG' F' N' Y' B' X' T' l1; (have bn := (show Bnd L' _ from l1)); k_cells Y'; (try simp only [List.cons_append, List.nil_append] at N'); (try dsimp only); (try k_lift B'); (try k_fold)))))
local macro_rules | `(tactic| k_all) => `(tactic| exact Bnd.ne (by assumption) (by omega))
local macro_rules | `(tactic| k_mem) => `(tactic| first | assumption | (with_reducible refine List.mem_cons_of_mem _ ?_; k_mem) | (with_reducible refine List.mem_append_left _ ?_; k_mem) | (with_reducible refine List.mem_append_right _ ?_; k_mem))
local macro_rules | `(tactic| walk_at "m news") => `(tactic| first | k_asm | (refine' News.sub (by k_asm) ?_; intro p9 hp9; simp only [List.mem_cons, List.mem_append, hp9, or_true, true_or]))
local macro_rules | `(tactic| walk_at "m arith") => `(tactic| first | omega | ((try simp only [fmod_lit, fdiv_lit] at *); omega))
local macro_rules | `(tactic| walk_at "m len") => `(tactic| ((simp only [List.length_append, List.length_replicate, List.length_cons, List.length_nil, rangeKs_length]); (try simp only [IntsAre.length (by assumption)]); (try simp only [rangeKs_length, fmod_lit]); omega))
local macro_rules | `(tactic| walk_at "m size") => `(tactic| (rw [sizeLine_eq, List.size_toArray]; walk_at "m len"))
local macro_rules | `(tactic| walk_at "binaryOp Mult ref int") => `(tactic| (k_here; k_dflt (refine' m_mul1 ?zzF ?zzN ?zzl ?zza ?zzb ?_; (case zzF => k_asm); (case zzN => k_asm); (case zzl => k_mem); (case zza => walk_at "m arith"); (case zzb => walk_at "m arith")); intro D' h' F' N' l1; (try k_lt l1); (try dsimp only)))
local macro_rules | `(tactic| walk_at "binaryOp Mult int ref") => `(tactic| (k_here; k_dflt (refine' m_mul1r ?zzF ?zzN ?zzl ?zza ?zzb ?_; (case zzF => k_asm); (case zzN => k_asm); (case zzl => k_mem); (case zza => walk_at "m arith"); (case zzb => walk_at "m arith")); intro D' h' F' N' l1; (try k_lt l1); (try dsimp only)))
local macro_rules | `(tactic| walk_at "binaryOp Add ref ref") => `(tactic| (k_here; k_dflt (refine' m_add ?zzF ?zzN ?zzl ?zzb ?zzz ?_; (case zzF => k_asm); (case zzN => k_asm); (case zzl => k_mem); (case zzb => k_mem); (case zzz => walk_at "m len")); intro D' h' F' N' l1; (try k_lt l1); (try dsimp only)))
local macro_rules | `(tactic| walk_at "call type:list") => `(tactic| (k_here; (with_reducible show wpAny _ _ (call (Value.type "list") [Value.ref _]) _ _ _); k_dflt (refine' m_listRange ?zzhh ?zzF ?zzN ?zzr ?zzsm ?zzn ?zzle ?_; (case zzhh => exact rfl); (case zzF => k_asm); (case zzN => k_asm); (case zzr => assumption); (case zzn => exact range_size (by walk_at "m arith")); (case zzsm => exact range_small (by walk_at "m arith") (by walk_at "m arith")); (case zzle => walk_at "m arith")); intro D' h' tk' ys' c' F' N' l1 hI'; (try k_lt l1); (try dsimp only)))
local macro_rules | `(tactic| walk_at "m q4") => `(tactic| first
  | assumption
  | (first | exact q4_c0 | exact q4_c1 | exact q4_c2 | exact q4_c3 | exact q4_c4 | exact q4_c5 | exact q4_c6 | exact q4_c7 | exact q4_c8)
  | (with_reducible refine q4_ofInt _ ?_; walk_at "m arith")
  | (with_reducible refine q4_quarter _ ?_; walk_at "m arith")
  | (with_reducible apply q4_add; (focus walk_at "m q4"); (focus walk_at "m q4"); walk_at "m arith")
  | (with_reducible apply q4_sub; (focus walk_at "m q4"); (focus walk_at "m q4"); walk_at "m arith")
  | (with_reducible apply q4_mul; (focus walk_at "m q4"); (focus walk_at "m q4"); walk_at "m arith"))
local macro_rules | `(tactic| walk_at "call builtin:math.floor") => `(tactic| (k_here; (with_reducible show wpAny _ _ (call _ [Value.float _ _]) _ _ _); k_dflt (first
  | (refine m_floorG rfl (by assumption) (by assumption) (by omega) (by omega) ?_)
  | (refine m_floorJ rfl (by walk_at "m arith") (by walk_at "m arith") ?_)
  | (refine' m_floor rfl ?zzq ?_; (case zzq => walk_at "m q4"))
  | (refine m_floorQuot rfl (by walk_at "m arith") (by walk_at "m arith") ?_)); (try dsimp only)))
local macro_rules | `(tactic| walk_at "call builtin:math.ceil") => `(tactic| (k_here; (with_reducible show wpAny _ _ (call _ [Value.float _ _]) _ _ _); k_dflt (refine' m_ceil rfl ?zzq ?_; (case zzq => walk_at "m q4")); (try dsimp only)))
local macro_rules | `(tactic| walk_at "call builtin:math.trunc") => `(tactic| (k_here; (with_reducible show wpAny _ _ (call _ [Value.float _ _]) _ _ _); k_dflt (refine' m_trunc rfl ?zzq ?zzp ?_; (case zzq => walk_at "m q4"); (case zzp => walk_at "m arith")); (try dsimp only)))
local macro_rules | `(tactic| walk_at "compareOp In int ref") => `(tactic| (k_here; k_dflt (refine' in_tuple_ints ?zzt ?zzi ?_; (case zzt => exact tupK (Frag.In.keeps (by k_asm) (Fr.keep (by k_asm))) (by k_is)); (case zzi => repeat constructor)); (try dsimp only)))
local macro_rules | `(tactic| walk_at "compareOp Eq int ref") => `(tactic| (k_here; k_dflt (refine' m_eqOwn ?zzX ?zzu ?zzo ?zzt ?zzs ?zzf ?_; (case zzX => exact Frag.In.keeps (by k_asm) (Fr.keep (by k_asm))); (case zzu => ktr_units); (case zzo => k_is); (case zzt => k_is); (case zzs => k_is); (case zzf => k_is)); (try dsimp only)))
local macro_rules | `(tactic| walk_at "call type:datetime.date") => `(tactic| (k_here; k_dflt (refine' m_date ?zzF ?zzN ?zza ?zzb ?zzc ?zzd ?zze ?zzf ?_; (case zzF => k_asm); (case zzN => k_asm); (case zza => walk_at "m arith"); (case zzb => walk_at "m arith"); (case zzc => walk_at "m arith"); (case zzd => walk_at "m arith"); (case zze => walk_at "m arith"); (case zzf => walk_at "m arith")); intro D' h' F' N' l1; (try k_lt l1); (try dsimp only)))
local macro_rules | `(tactic| walk_at "getMethod ref") => `(tactic| (k_here; k_dflt (refine' m_weekdayM ?zzN ?zzm ?_; (case zzN => k_asm); (case zzm => k_mem)); (try dsimp only)))
local macro_rules | `(tactic| walk_at "call builtin:datetime.date.weekday") => `(tactic| (k_here; k_dflt (refine' m_weekday ?zzN ?zzm ?_; (case zzN => k_asm); (case zzm => k_mem)); intro k' t' k0' k1'; (try dsimp only)))
local macro_rules | `(tactic| walk_at "subscriptTail Name") => `(tactic| (k_here; (with_reducible show wpAny _ _ (subscriptTail _ _ (Value.ref _) (Value.int _ _)) _ _ _); k_dflt (refine' m_item_any ?zzt ?zza ?zzb ?zzc ?_; (case zzt => exact tupK (Frag.In.keeps (by k_asm) (Fr.keep (by k_asm))) (by k_is)); (case zza => assumption); (case zzb => (simp only [List.length_cons, List.length_nil]; omega)); (case zzc => decide)); intro v' m'; (try dsimp only)))
local macro_rules | `(tactic| walk_at "subscriptTail Name") => `(tactic| (k_here; (with_reducible show wpAny _ _ (subscriptTail _ _ (Value.ref _) (Value.int _ _)) _ _ _); k_dflt (refine' m_item_int ?zzt ?zzi ?zza ?zzb ?zzc ?_; (case zzt => exact lstK (Frag.In.keeps (by k_asm) (Fr.keep (by k_asm))) (by k_is)); (case zzi => repeat constructor); (case zza => omega); (case zzb => (simp only [List.length_cons, List.length_nil]; omega)); (case zzc => decide)); intro t'; (try dsimp only)))
local macro_rules | `(tactic| walk_at "call ref") => `(tactic| (k_here; walk_at "m enter"))

local macro_rules | `(tactic| walk_at "call ref") => `(tactic| (k_here; k_dflt (refine' c_use (c_helper _ _ _ _ _ ?zzh1 ?zzh2 ?zzh3 ?zzh4) ?zz1 ?zz2 ?zz3 ?zz4 ?zz5 ?zzK ?zzd ?zzu trivial ?_; (case zzh1 => walk_at "m arith"); (case zzh2 => walk_at "m arith"); (case zzh3 => walk_at "m arith"); (case zzh4 => walk_at "m arith"); (case zz1 => k_asm); (case zz2 => k_asm); (case zz3 => k_asm); (case zz4 => k_asm); (case zz5 => k_asm); (case zzK => first | assumption | exact rfl); (case zzd => ktr_room); (case zzu => ktr_units)); intro v9 add9 h9 tk9 F9 N9 A9 P9; (try k_sweep); (try dsimp only); (try k_fold)))

local macro_rules | `(tactic| walk_at "call ref") => `(tactic| (k_here; k_dflt (refine' c0_use (c_isleap _ _ _ ) ?zz1 ?zz2 ?zz3 ?zz4 ?zz5 ?zzK ?zzd ?zzu ?_; (case zz1 => k_asm); (case zz2 => k_asm); (case zz3 => k_asm); (case zz4 => k_asm); (case zz5 => k_asm); (case zzK => first | assumption | exact rfl); (case zzd => ktr_room); (case zzu => ktr_units)); intro v9 h9 tk9 F9 N9 P9; subst P9; (try k_sweep); (try dsimp only); (try k_fold)))
local macro_rules | `(tactic| walk_at "call ref") => `(tactic| (k_here; k_dflt (refine' c0_use (c_weekday _ _ _ _ _ _ ?zzh1 ?zzh2 ?zzh3 ?zzh4) ?zz1 ?zz2 ?zz3 ?zz4 ?zz5 ?zzK ?zzd ?zzu ?_; (case zzh1 => walk_at "m arith"); (case zzh2 => walk_at "m arith"); (case zzh3 => walk_at "m arith"); (case zzh4 => walk_at "m arith"); (case zz1 => k_asm); (case zz2 => k_asm); (case zz3 => k_asm); (case zz4 => k_asm); (case zz5 => k_asm); (case zzK => first | assumption | exact rfl); (case zzd => ktr_room); (case zzu => ktr_units)); intro v9 h9 tk9 F9 N9 P9; obtain ⟨a9, P9⟩ := P9; subst P9; (try k_sweep); (try dsimp only); (try k_fold)))
local macro_rules | `(tactic| walk_at "call ref") => `(tactic| (k_here; k_dflt (refine' c0_use (c_jwday _ _ _ _ ?zzhq ?zzh1 ?zzh2) ?zz1 ?zz2 ?zz3 ?zz4 ?zz5 ?zzK ?zzd ?zzu ?_; (case zzhq => assumption); (case zzh1 => walk_at "m arith"); (case zzh2 => walk_at "m arith"); (case zz1 => k_asm); (case zz2 => k_asm); (case zz3 => k_asm); (case zz4 => k_asm); (case zz5 => k_asm); (case zzK => first | assumption | exact rfl); (case zzd => ktr_room); (case zzu => ktr_units)); intro v9 h9 tk9 F9 N9 P9; obtain ⟨n9, t9, P9, e9⟩ := P9; subst P9; (try k_sweep); (try dsimp only); (try k_fold)))
local macro_rules | `(tactic| walk_at "call ref") => `(tactic| (k_here; k_dflt (refine' c0_use (c_legal_g _ _ _ _ _ _ _ ?zzh3 ?zzh4 ?zzh5 ?zzh6) ?zz1 ?zz2 ?zz3 ?zz4 ?zz5 ?zzK ?zzd ?zzu ?_; (case zzh3 => walk_at "m arith"); (case zzh4 => walk_at "m arith"); (case zzh5 => walk_at "m arith"); (case zzh6 => walk_at "m arith"); (case zz1 => k_asm); (case zz2 => k_asm); (case zz3 => k_asm); (case zz4 => k_asm); (case zz5 => k_asm); (case zzK => first | assumption | exact rfl); (case zzd => ktr_room); (case zzu => ktr_units)); intro v9 h9 tk9 F9 N9 P9; subst P9; (try k_sweep); (try dsimp only); (try k_fold)))
local macro_rules | `(tactic| walk_at "call ref") => `(tactic| (k_here; k_dflt (refine' c0_use (c_mlen_g _ _ _ _ _ ?zzh1 ?zzh2 ?zzh3 ?zzh4) ?zz1 ?zz2 ?zz3 ?zz4 ?zz5 ?zzK ?zzd ?zzu ?_; (case zzh1 => walk_at "m arith"); (case zzh2 => walk_at "m arith"); (case zzh3 => walk_at "m arith"); (case zzh4 => walk_at "m arith"); (case zz1 => k_asm); (case zz2 => k_asm); (case zz3 => k_asm); (case zz4 => k_asm); (case zz5 => k_asm); (case zzK => first | assumption | exact rfl); (case zzd => ktr_room); (case zzu => ktr_units)); intro v9 h9 tk9 F9 N9 P9; obtain ⟨n9, t9, P9, e9, b9, c9⟩ := P9; subst P9; (try k_sweep); (try dsimp only); (try k_fold)))
local macro_rules | `(tactic| walk_at "call ref") => `(tactic| (k_here; k_dflt (refine' c0_use (c_tojd_g _ _ _ _ _ _ _ ?zzh1 ?zzh2 ?zzh3 ?zzh4 ?zzh5) ?zz1 ?zz2 ?zz3 ?zz4 ?zz5 ?zzK ?zzd ?zzu ?_; (case zzh1 => walk_at "m arith"); (case zzh2 => walk_at "m arith"); (case zzh3 => walk_at "m arith"); (case zzh4 => walk_at "m arith"); (case zzh5 => walk_at "m arith"); (case zz1 => k_asm); (case zz2 => k_asm); (case zz3 => k_asm); (case zz4 => k_asm); (case zz5 => k_asm); (case zzK => first | assumption | exact rfl); (case zzd => ktr_room); (case zzu => ktr_units)); intro v9 h9 tk9 F9 N9 P9; obtain ⟨x9, t9, j9, P9, q9, e9, b9, c9⟩ := P9; subst P9; (try k_sweep); (try dsimp only); (try k_fold)))
local macro_rules | `(tactic| walk_at "call ref") => `(tactic| (k_here; k_dflt (refine' c_use (c_cal_g _ _ _ _ _ ?zzh1 ?zzh2 ?zzh3 ?zzh4) ?zz1 ?zz2 ?zz3 ?zz4 ?zz5 ?zzK ?zzd ?zzu trivial ?_; (case zzh1 => walk_at "m arith"); (case zzh2 => walk_at "m arith"); (case zzh3 => walk_at "m arith"); (case zzh4 => walk_at "m arith"); (case zz1 => k_asm); (case zz2 => k_asm); (case zz3 => k_asm); (case zz4 => k_asm); (case zz5 => k_asm); (case zzK => first | assumption | exact rfl); (case zzd => ktr_room); (case zzu => ktr_units)); intro v9 add9 h9 tk9 F9 N9 A9 P9; (try k_sweep); (try dsimp only); (try k_fold)))


set_option maxHeartbeats 4000000 in
theorem c_mlen_c (w : World) (y mo : Int) (t u : Tok) (h3 : 1 ≤ mo) (h4 : mo ≤ 13) : Ctr0 PR w (hd.heap_39 w.params) 2 537 [.int y t, .int mo u] (fun v => ∃ n t, v = .int n t ∧ n = copLen y mo ∧ 1 ≤ n ∧ n ≤ 31) := by
  unfold Ctr0
  intro p loose mean mg mb dp un gd cn cs a ccd cl outer A₀ base h₀ L m news s Q E B F X N T hk hd hu hret
  walk_at "m enter"
  k_steps
  all_goals first | (exfalso; omega) | (refine hret _ _ _ (by k_asm) (by walk_at "m news") ?_)
  all_goals (refine ⟨_, _, rfl, int_end ?_ (copLen_b y mo)⟩)
  all_goals first
    | exact cl2 (by assumption) (by assumption)
    | exact cl3 (by assumption) (by assumption)
    | (unfold copLen; rw [if_pos (by assumption)])


local macro_rules | `(tactic| walk_at "call ref") => `(tactic| (k_here; k_dflt (refine' c0_use (c_mlen_c _ _ _ _ _ ?zzh3 ?zzh4) ?zz1 ?zz2 ?zz3 ?zz4 ?zz5 ?zzK ?zzd ?zzu ?_; (case zzh3 => walk_at "m arith"); (case zzh4 => walk_at "m arith"); (case zz1 => k_asm); (case zz2 => k_asm); (case zz3 => k_asm); (case zz4 => k_asm); (case zz5 => k_asm); (case zzK => first | assumption | exact rfl); (case zzd => ktr_room); (case zzu => ktr_units)); intro v9 h9 tk9 F9 N9 P9; obtain ⟨n9, t9, P9, e9, b9, c9⟩ := P9; subst P9; (try k_sweep); (try dsimp only); (try k_fold)))

set_option maxHeartbeats 4000000 in
theorem c_tojd_c (w : World) (y mo : Int) (t u v : Tok) (h1 : 1 ≤ y) (h2 : y ≤ 500000) (h3 : 1 ≤ mo) (h4 : mo ≤ 13) : Ctr0 PR w (hd.heap_39 w.params) 4 530 [.int y t, .int mo u, .int 1 v] (fun v => ∃ x t j, v = .float x t ∧ Q4 x (4 * j - 2) ∧ j = copJ y mo ∧ 0 ≤ j ∧ j ≤ 900000000) := by
  unfold Ctr0
  intro p loose mean mg mb dp un gd cn cs a ccd cl outer A₀ base h₀ L m news s Q E B F X N T hk hd hu hret
  walk_at "m enter"
  k_steps
  all_goals first | (exfalso; omega) | (refine hret _ _ _ (by k_asm) (by walk_at "m news") ?_)
  all_goals (refine ⟨_, _, copJ y mo, rfl, q4_cast (by walk_at "m q4") ?_, rfl, ?_⟩)
  all_goals (unfold copJ; (repeat' split) <;> omega)


local macro_rules | `(tactic| walk_at "call ref") => `(tactic| (k_here; k_dflt (refine' c0_use (c_tojd_c _ _ _ _ _ _ ?zzh1 ?zzh2 ?zzh3 ?zzh4) ?zz1 ?zz2 ?zz3 ?zz4 ?zz5 ?zzK ?zzd ?zzu ?_; (case zzh1 => walk_at "m arith"); (case zzh2 => walk_at "m arith"); (case zzh3 => walk_at "m arith"); (case zzh4 => walk_at "m arith"); (case zz1 => k_asm); (case zz2 => k_asm); (case zz3 => k_asm); (case zz4 => k_asm); (case zz5 => k_asm); (case zzK => first | assumption | exact rfl); (case zzd => ktr_room); (case zzu => ktr_units)); intro v9 h9 tk9 F9 N9 P9; obtain ⟨x9, t9, j9, P9, q9, e9, b9, c9⟩ := P9; subst P9; (try k_sweep); (try dsimp only); (try k_fold)))

set_option maxHeartbeats 4000000 in
theorem c_cal_c (w : World) (y mo : Int) (t u : Tok) (h1 : 1 ≤ y) (h2 : y ≤ 500000) (h3 : 1 ≤ mo) (h4 : mo ≤ 13) : Ctr PR w (hd.heap_39 w.params) 6 544 [.int y t, .int mo u] (fun _ => True) (fun add v => DatIn add v (leafJ (copJ y mo) (copLen y mo))) := by
  unfold Ctr
  intro p loose mean mg mb dp un gd cn cs a ccd cl outer A₀ base h₀ L m news s Q E B F X N T hk hd hu _ hret
  walk_at "m enter"
  k_steps
  refine hret _ _ _ _ (by k_asm) (by k_asm) (by assumption) ?_
  subst_vars
  rw [← leafJ_of]
  assumption


local macro_rules | `(tactic| walk_at "call ref") => `(tactic| (k_here; k_dflt (refine' c_use (c_cal_c _ _ _ _ _ ?zzh1 ?zzh2 ?zzh3 ?zzh4) ?zz1 ?zz2 ?zz3 ?zz4 ?zz5 ?zzK ?zzd ?zzu trivial ?_; (case zzh1 => walk_at "m arith"); (case zzh2 => walk_at "m arith"); (case zzh3 => walk_at "m arith"); (case zzh4 => walk_at "m arith"); (case zz1 => k_asm); (case zz2 => k_asm); (case zz3 => k_asm); (case zz4 => k_asm); (case zz5 => k_asm); (case zzK => first | assumption | exact rfl); (case zzd => ktr_room); (case zzu => ktr_units)); intro v9 add9 h9 tk9 F9 N9 A9 P9; (try k_sweep); (try dsimp only); (try k_fold)))


end Mine
end
section
open PySem PySem.W PyProof.Rows PySem.Calls PySem.Spec PyProof.Rows.LCg
set_option linter.unusedVariables false
set_option exponentiation.threshold 100
set_option maxRecDepth 100000
namespace Mine

local macro_rules | `(tactic| walk_at "m enter") => `(tactic| (refine wpAny_call ?_; k_dflt (first
  | (refine' code_def ?k1 ?k2 ?k3 ?k4 ?k5 ?kA ?kF ?kK ?k6 ?k7 ?k8 ?k9 ?kB ?_ ?c2 ?c3 ?c4 ?c5; (case kA => exact rfl); (case kF => exact rfl); (case kK => first | assumption | exact rfl); (case k1 => k_asm); (case k2 => k_asm); (case k3 => k_asm); (case k4 => k_asm); (case k5 => k_asm); (case k6 => k_is); (case k7 => k_is); (case k8 => ktr_room); (case k9 => first | exact BindsTo.of_eq rfl | exact binds_K (by k_in) rfl (by k_is) rfl rfl rfl); (case c5 => decide); (case kB => exact locs rfl); (case c2 => exact rfl); (case c3 => exact rfl); (case c4 => exact rfl); k_whole; intro g' L' h' FG' F' N' B' X' T'; (try dsimp only); (try k_lift B'); (try k_fold))
  | (refine' code_defC ?k1 ?k2 ?k3 ?k4 ?k5 ?kA ?kF ?kK ?k6 ?k7 ?k8 ?k9 ?kB ?kD ?_ ?c2 ?c3 ?c4; (case kA => exact rfl); (case kF => exact rfl); (case kK => first | assumption | exact rfl); (case k1 => k_asm); (case k2 => k_asm); (case k3 => k_asm); (case k4 => k_asm); (case k5 => k_asm); (case k6 => k_is); (case k7 => k_is); (case k8 => ktr_room); (case k9 => first | exact BindsTo.of_eq rfl | exact binds_K (by k_in) rfl (by k_is) rfl rfl rfl); (case kB => exact rfl); (case kD => decide +kernel); (case c2 => exact rfl); (case c3 => exact rfl); (case c4 => exact rfl); k_whole; intro g' L' h' tk' cells' FG' F' N' Y' B' X' T' l1; (have bn := (show Bnd L' _ from l1)); k_cells Y'; (try simp only [List.cons_append, List.nil_append] at N'); (try dsimp only); (try k_lift B'); (try k_fold)))))
local macro_rules | `(tactic| k_all) => `(tactic| exact Bnd.ne (by assumption) (by omega))
local macro_rules | `(tactic| k_mem) => `(tactic| first | assumption | (with_reducible refine List.mem_cons_of_mem _ ?_; k_mem) | (with_reducible refine List.mem_append_left _ ?_; k_mem) | (with_reducible refine List.mem_append_right _ ?_; k_mem))
local macro_rules | `(tactic| walk_at "m news") => `(tactic| first | k_asm | (refine' News.sub (by k_asm) ?_; intro p9 hp9; simp only [List.mem_cons, List.mem_append, hp9, or_true, true_or]))
local macro_rules | `(tactic| walk_at "m arith") => `(tactic| first | omega | ((try simp only [fmod_lit, fdiv_lit] at *); omega))
local macro_rules | `(tactic| walk_at "m len") => `(tactic| ((simp only [List.length_append, List.length_replicate, List.length_cons, List.length_nil, rangeKs_length]); (try simp only [IntsAre.length (by assumption)]); (try simp only [rangeKs_length, fmod_lit]); omega))
local macro_rules | `(tactic| walk_at "m size") => `(tactic| (rw [sizeLine_eq, List.size_toArray]; walk_at "m len"))
local macro_rules | `(tactic| walk_at "binaryOp Mult ref int") => `(tactic| (k_here; k_dflt (refine' m_mul1 ?zzF ?zzN ?zzl ?zza ?zzb ?_; (case zzF => k_asm); (case zzN => k_asm); (case zzl => k_mem); (case zza => walk_at "m arith"); (case zzb => walk_at "m arith")); intro D' h' F' N' l1; (try k_lt l1); (try dsimp only)))
local macro_rules | `(tactic| walk_at "binaryOp Mult int ref") => `(tactic| (k_here; k_dflt (refine' m_mul1r ?zzF ?zzN ?zzl ?zza ?zzb ?_; (case zzF => k_asm); (case zzN => k_asm); (case zzl => k_mem); (case zza => walk_at "m arith"); (case zzb => walk_at "m arith")); intro D' h' F' N' l1; (try k_lt l1); (try dsimp only)))
local macro_rules | `(tactic| walk_at "binaryOp Add ref ref") => `(tactic| (k_here; k_dflt (refine' m_add ?zzF ?zzN ?zzl ?zzb ?zzz ?_; (case zzF => k_asm); (case zzN => k_asm); (case zzl => k_mem); (case zzb => k_mem); (case zzz => walk_at "m len")); intro D' h' F' N' l1; (try k_lt l1); (try dsimp only)))
local macro_rules | `(tactic| walk_at "call type:list") => `(tactic| (k_here; (with_reducible show wpAny _ _ (call (Value.type "list") [Value.ref _]) _ _ _); k_dflt (refine' m_listRange ?zzhh ?zzF ?zzN ?zzr ?zzsm ?zzn ?zzle ?_; (case zzhh => exact rfl); (case zzF => k_asm); (case zzN => k_asm); (case zzr => assumption); (case zzn => exact range_size (by walk_at "m arith")); (case zzsm => exact range_small (by walk_at "m arith") (by walk_at "m arith")); (case zzle => walk_at "m arith")); intro D' h' tk' ys' c' F' N' l1 hI'; (try k_lt l1); (try dsimp only)))
local macro_rules | `(tactic| walk_at "m q4") => `(tactic| first
  | assumption
  | (first | exact q4_c0 | exact q4_c1 | exact q4_c2 | exact q4_c3 | exact q4_c4 | exact q4_c5 | exact q4_c6 | exact q4_c7 | exact q4_c8)
  | (with_reducible refine q4_ofInt _ ?_; walk_at "m arith")
  | (with_reducible refine q4_quarter _ ?_; walk_at "m arith")
  | (with_reducible apply q4_add; (focus walk_at "m q4"); (focus walk_at "m q4"); walk_at "m arith")
  | (with_reducible apply q4_sub; (focus walk_at "m q4"); (focus walk_at "m q4"); walk_at "m arith")
  | (with_reducible apply q4_mul; (focus walk_at "m q4"); (focus walk_at "m q4"); walk_at "m arith"))
local macro_rules | `(tactic| walk_at "call builtin:math.floor") => `(tactic| (k_here; (with_reducible show wpAny _ _ (call _ [Value.float _ _]) _ _ _); k_dflt (first
  | (refine m_floorG rfl (by assumption) (by assumption) (by omega) (by omega) ?_)
  | (refine m_floorJ rfl (by walk_at "m arith") (by walk_at "m arith") ?_)
  | (refine' m_floor rfl ?zzq ?_; (case zzq => walk_at "m q4"))
  | (refine m_floorQuot rfl (by walk_at "m arith") (by walk_at "m arith") ?_)); (try dsimp only)))
local macro_rules | `(tactic| walk_at "call builtin:math.ceil") => `(tactic| (k_here; (with_reducible show wpAny _ _ (call _ [Value.float _ _]) _ _ _); k_dflt (refine' m_ceil rfl ?zzq ?_; (case zzq => walk_at "m q4")); (try dsimp only)))
local macro_rules | `(tactic| walk_at "call builtin:math.trunc") => `(tactic| (k_here; (with_reducible show wpAny _ _ (call _ [Value.float _ _]) _ _ _); k_dflt (refine' m_trunc rfl ?zzq ?zzp ?_; (case zzq => walk_at "m q4"); (case zzp => walk_at "m arith")); (try dsimp only)))
local macro_rules | `(tactic| walk_at "compareOp In int ref") => `(tactic| (k_here; k_dflt (refine' in_tuple_ints ?zzt ?zzi ?_; (case zzt => exact tupK (Frag.In.keeps (by k_asm) (Fr.keep (by k_asm))) (by k_is)); (case zzi => repeat constructor)); (try dsimp only)))
local macro_rules | `(tactic| walk_at "compareOp Eq int ref") => `(tactic| (k_here; k_dflt (refine' m_eqOwn ?zzX ?zzu ?zzo ?zzt ?zzs ?zzf ?_; (case zzX => exact Frag.In.keeps (by k_asm) (Fr.keep (by k_asm))); (case zzu => ktr_units); (case zzo => k_is); (case zzt => k_is); (case zzs => k_is); (case zzf => k_is)); (try dsimp only)))
local macro_rules | `(tactic| walk_at "call type:datetime.date") => `(tactic| (k_here; k_dflt (refine' m_date ?zzF ?zzN ?zza ?zzb ?zzc ?zzd ?zze ?zzf ?_; (case zzF => k_asm); (case zzN => k_asm); (case zza => walk_at "m arith"); (case zzb => walk_at "m arith"); (case zzc => walk_at "m arith"); (case zzd => walk_at "m arith"); (case zze => walk_at "m arith"); (case zzf => walk_at "m arith")); intro D' h' F' N' l1; (try k_lt l1); (try dsimp only)))
local macro_rules | `(tactic| walk_at "getMethod ref") => `(tactic| (k_here; k_dflt (refine' m_weekdayM ?zzN ?zzm ?_; (case zzN => k_asm); (case zzm => k_mem)); (try dsimp only)))
local macro_rules | `(tactic| walk_at "call builtin:datetime.date.weekday") => `(tactic| (k_here; k_dflt (refine' m_weekday ?zzN ?zzm ?_; (case zzN => k_asm); (case zzm => k_mem)); intro k' t' k0' k1'; (try dsimp only)))
local macro_rules | `(tactic| walk_at "subscriptTail Name") => `(tactic| (k_here; (with_reducible show wpAny _ _ (subscriptTail _ _ (Value.ref _) (Value.int _ _)) _ _ _); k_dflt (refine' m_item_any ?zzt ?zza ?zzb ?zzc ?_; (case zzt => exact tupK (Frag.In.keeps (by k_asm) (Fr.keep (by k_asm))) (by k_is)); (case zza => assumption); (case zzb => (simp only [List.length_cons, List.length_nil]; omega)); (case zzc => decide)); intro v' m'; (try dsimp only)))
local macro_rules | `(tactic| walk_at "subscriptTail Name") => `(tactic| (k_here; (with_reducible show wpAny _ _ (subscriptTail _ _ (Value.ref _) (Value.int _ _)) _ _ _); k_dflt (refine' m_item_int ?zzt ?zzi ?zza ?zzb ?zzc ?_; (case zzt => exact lstK (Frag.In.keeps (by k_asm) (Fr.keep (by k_asm))) (by k_is)); (case zzi => repeat constructor); (case zza => omega); (case zzb => (simp only [List.length_cons, List.length_nil]; omega)); (case zzc => decide)); intro t'; (try dsimp only)))
local macro_rules | `(tactic| walk_at "call ref") => `(tactic| (k_here; walk_at "m enter"))

local macro_rules | `(tactic| walk_at "call ref") => `(tactic| (k_here; k_dflt (refine' c_use (c_helper _ _ _ _ _ ?zzh1 ?zzh2 ?zzh3 ?zzh4) ?zz1 ?zz2 ?zz3 ?zz4 ?zz5 ?zzK ?zzd ?zzu trivial ?_; (case zzh1 => walk_at "m arith"); (case zzh2 => walk_at "m arith"); (case zzh3 => walk_at "m arith"); (case zzh4 => walk_at "m arith"); (case zz1 => k_asm); (case zz2 => k_asm); (case zz3 => k_asm); (case zz4 => k_asm); (case zz5 => k_asm); (case zzK => first | assumption | exact rfl); (case zzd => ktr_room); (case zzu => ktr_units)); intro v9 add9 h9 tk9 F9 N9 A9 P9; (try k_sweep); (try dsimp only); (try k_fold)))

local macro_rules | `(tactic| walk_at "call ref") => `(tactic| (k_here; k_dflt (refine' c0_use (c_isleap _ _ _ ) ?zz1 ?zz2 ?zz3 ?zz4 ?zz5 ?zzK ?zzd ?zzu ?_; (case zz1 => k_asm); (case zz2 => k_asm); (case zz3 => k_asm); (case zz4 => k_asm); (case zz5 => k_asm); (case zzK => first | assumption | exact rfl); (case zzd => ktr_room); (case zzu => ktr_units)); intro v9 h9 tk9 F9 N9 P9; subst P9; (try k_sweep); (try dsimp only); (try k_fold)))
local macro_rules | `(tactic| walk_at "call ref") => `(tactic| (k_here; k_dflt (refine' c0_use (c_weekday _ _ _ _ _ _ ?zzh1 ?zzh2 ?zzh3 ?zzh4) ?zz1 ?zz2 ?zz3 ?zz4 ?zz5 ?zzK ?zzd ?zzu ?_; (case zzh1 => walk_at "m arith"); (case zzh2 => walk_at "m arith"); (case zzh3 => walk_at "m arith"); (case zzh4 => walk_at "m arith"); (case zz1 => k_asm); (case zz2 => k_asm); (case zz3 => k_asm); (case zz4 => k_asm); (case zz5 => k_asm); (case zzK => first | assumption | exact rfl); (case zzd => ktr_room); (case zzu => ktr_units)); intro v9 h9 tk9 F9 N9 P9; obtain ⟨a9, P9⟩ := P9; subst P9; (try k_sweep); (try dsimp only); (try k_fold)))
local macro_rules | `(tactic| walk_at "call ref") => `(tactic| (k_here; k_dflt (refine' c0_use (c_jwday _ _ _ _ ?zzhq ?zzh1 ?zzh2) ?zz1 ?zz2 ?zz3 ?zz4 ?zz5 ?zzK ?zzd ?zzu ?_; (case zzhq => assumption); (case zzh1 => walk_at "m arith"); (case zzh2 => walk_at "m arith"); (case zz1 => k_asm); (case zz2 => k_asm); (case zz3 => k_asm); (case zz4 => k_asm); (case zz5 => k_asm); (case zzK => first | assumption | exact rfl); (case zzd => ktr_room); (case zzu => ktr_units)); intro v9 h9 tk9 F9 N9 P9; obtain ⟨n9, t9, P9, e9⟩ := P9; subst P9; (try k_sweep); (try dsimp only); (try k_fold)))
local macro_rules | `(tactic| walk_at "call ref") => `(tactic| (k_here; k_dflt (refine' c0_use (c_legal_g _ _ _ _ _ _ _ ?zzh3 ?zzh4 ?zzh5 ?zzh6) ?zz1 ?zz2 ?zz3 ?zz4 ?zz5 ?zzK ?zzd ?zzu ?_; (case zzh3 => walk_at "m arith"); (case zzh4 => walk_at "m arith"); (case zzh5 => walk_at "m arith"); (case zzh6 => walk_at "m arith"); (case zz1 => k_asm); (case zz2 => k_asm); (case zz3 => k_asm); (case zz4 => k_asm); (case zz5 => k_asm); (case zzK => first | assumption | exact rfl); (case zzd => ktr_room); (case zzu => ktr_units)); intro v9 h9 tk9 F9 N9 P9; subst P9; (try k_sweep); (try dsimp only); (try k_fold)))
local macro_rules | `(tactic| walk_at "call ref") => `(tactic| (k_here; k_dflt (refine' c0_use (c_mlen_g _ _ _ _ _ ?zzh1 ?zzh2 ?zzh3 ?zzh4) ?zz1 ?zz2 ?zz3 ?zz4 ?zz5 ?zzK ?zzd ?zzu ?_; (case zzh1 => walk_at "m arith"); (case zzh2 => walk_at "m arith"); (case zzh3 => walk_at "m arith"); (case zzh4 => walk_at "m arith"); (case zz1 => k_asm); (case zz2 => k_asm); (case zz3 => k_asm); (case zz4 => k_asm); (case zz5 => k_asm); (case zzK => first | assumption | exact rfl); (case zzd => ktr_room); (case zzu => ktr_units)); intro v9 h9 tk9 F9 N9 P9; obtain ⟨n9, t9, P9, e9, b9, c9⟩ := P9; subst P9; (try k_sweep); (try dsimp only); (try k_fold)))
local macro_rules | `(tactic| walk_at "call ref") => `(tactic| (k_here; k_dflt (refine' c0_use (c_tojd_g _ _ _ _ _ _ _ ?zzh1 ?zzh2 ?zzh3 ?zzh4 ?zzh5) ?zz1 ?zz2 ?zz3 ?zz4 ?zz5 ?zzK ?zzd ?zzu ?_; (case zzh1 => walk_at "m arith"); (case zzh2 => walk_at "m arith"); (case zzh3 => walk_at "m arith"); (case zzh4 => walk_at "m arith"); (case zzh5 => walk_at "m arith"); (case zz1 => k_asm); (case zz2 => k_asm); (case zz3 => k_asm); (case zz4 => k_asm); (case zz5 => k_asm); (case zzK => first | assumption | exact rfl); (case zzd => ktr_room); (case zzu => ktr_units)); intro v9 h9 tk9 F9 N9 P9; obtain ⟨x9, t9, j9, P9, q9, e9, b9, c9⟩ := P9; subst P9; (try k_sweep); (try dsimp only); (try k_fold)))
local macro_rules | `(tactic| walk_at "call ref") => `(tactic| (k_here; k_dflt (refine' c_use (c_cal_g _ _ _ _ _ ?zzh1 ?zzh2 ?zzh3 ?zzh4) ?zz1 ?zz2 ?zz3 ?zz4 ?zz5 ?zzK ?zzd ?zzu trivial ?_; (case zzh1 => walk_at "m arith"); (case zzh2 => walk_at "m arith"); (case zzh3 => walk_at "m arith"); (case zzh4 => walk_at "m arith"); (case zz1 => k_asm); (case zz2 => k_asm); (case zz3 => k_asm); (case zz4 => k_asm); (case zz5 => k_asm); (case zzK => first | assumption | exact rfl); (case zzd => ktr_room); (case zzu => ktr_units)); intro v9 add9 h9 tk9 F9 N9 A9 P9; (try k_sweep); (try dsimp only); (try k_fold)))


set_option maxHeartbeats 4000000 in
theorem c_mlen_m (w : World) (y mo : Int) (t u : Tok) (h3 : 1 ≤ mo) (h4 : mo ≤ 12) : Ctr0 PR w (hd.heap_39 w.params) 2 588 [.int y t, .int mo u] (fun v => ∃ n t, v = .int n t ∧ n = islLen y mo ∧ 1 ≤ n ∧ n ≤ 31) := by
  unfold Ctr0
  intro p loose mean mg mb dp un gd cn cs a ccd cl outer A₀ base h₀ L m news s Q E B F X N T hk hd hu hret
  walk_at "m enter"
  k_steps
  all_goals first | (exfalso; omega) | (refine hret _ _ _ (by k_asm) (by walk_at "m news") ?_)
  all_goals (refine ⟨_, _, rfl, int_end ?_ (islLen_b y mo)⟩)
  all_goals first
    | exact il1 h3 h4 (by assumption)
    | exact il2 h3 h4 (by assumption) (by assumption) (by assumption)
    | exact il3 h3 h4 (by assumption) (by assumption) (by assumption)
    | exact il4 h3 h4 (by assumption) (by assumption)


local macro_rules | `(tactic| walk_at "call ref") => `(tactic| (k_here; k_dflt (refine' c0_use (c_mlen_m _ _ _ _ _ ?zzh3 ?zzh4) ?zz1 ?zz2 ?zz3 ?zz4 ?zz5 ?zzK ?zzd ?zzu ?_; (case zzh3 => walk_at "m arith"); (case zzh4 => walk_at "m arith"); (case zz1 => k_asm); (case zz2 => k_asm); (case zz3 => k_asm); (case zz4 => k_asm); (case zz5 => k_asm); (case zzK => first | assumption | exact rfl); (case zzd => ktr_room); (case zzu => ktr_units)); intro v9 h9 tk9 F9 N9 P9; obtain ⟨n9, t9, P9, e9, b9, c9⟩ := P9; subst P9; (try k_sweep); (try dsimp only); (try k_fold)))

set_option maxHeartbeats 4000000 in
theorem c_tojd_m (w : World) (y mo : Int) (t u v : Tok) (h1 : 1 ≤ y) (h2 : y ≤ 500000) (h3 : 1 ≤ mo) (h4 : mo ≤ 12) : Ctr0 PR w (hd.heap_39 w.params) 4 581 [.int y t, .int mo u, .int 1 v] (fun v => ∃ x t j, v = .float x t ∧ Q4 x (4 * j - 2) ∧ j = islJ y mo ∧ 0 ≤ j ∧ j ≤ 900000000) := by
  unfold Ctr0
  intro p loose mean mg mb dp un gd cn cs a ccd cl outer A₀ base h₀ L m news s Q E B F X N T hk hd hu hret
  walk_at "m enter"
  k_steps
  all_goals first | (exfalso; omega) | (refine hret _ _ _ (by k_asm) (by walk_at "m news") ?_)
  all_goals (refine ⟨_, _, islJ y mo, rfl, q4_cast (by walk_at "m q4") ?_, rfl, ?_⟩)
  all_goals (unfold islJ; (repeat' split) <;> omega)


local macro_rules | `(tactic| walk_at "call ref") => `(tactic| (k_here; k_dflt (refine' c0_use (c_tojd_m _ _ _ _ _ _ ?zzh1 ?zzh2 ?zzh3 ?zzh4) ?zz1 ?zz2 ?zz3 ?zz4 ?zz5 ?zzK ?zzd ?zzu ?_; (case zzh1 => walk_at "m arith"); (case zzh2 => walk_at "m arith"); (case zzh3 => walk_at "m arith"); (case zzh4 => walk_at "m arith"); (case zz1 => k_asm); (case zz2 => k_asm); (case zz3 => k_asm); (case zz4 => k_asm); (case zz5 => k_asm); (case zzK => first | assumption | exact rfl); (case zzd => ktr_room); (case zzu => ktr_units)); intro v9 h9 tk9 F9 N9 P9; obtain ⟨x9, t9, j9, P9, q9, e9, b9, c9⟩ := P9; subst P9; (try k_sweep); (try dsimp only); (try k_fold)))

set_option maxHeartbeats 4000000 in
theorem c_cal_m (w : World) (y mo : Int) (t u : Tok) (h1 : 1 ≤ y) (h2 : y ≤ 500000) (h3 : 1 ≤ mo) (h4 : mo ≤ 12) : Ctr PR w (hd.heap_39 w.params) 6 595 [.int y t, .int mo u] (fun _ => True) (fun add v => DatIn add v (leafJ (islJ y mo) (islLen y mo))) := by
  unfold Ctr
  intro p loose mean mg mb dp un gd cn cs a ccd cl outer A₀ base h₀ L m news s Q E B F X N T hk hd hu _ hret
  walk_at "m enter"
  k_steps
  refine hret _ _ _ _ (by k_asm) (by k_asm) (by assumption) ?_
  subst_vars
  rw [← leafJ_of]
  assumption


local macro_rules | `(tactic| walk_at "call ref") => `(tactic| (k_here; k_dflt (refine' c_use (c_cal_m _ _ _ _ _ ?zzh1 ?zzh2 ?zzh3 ?zzh4) ?zz1 ?zz2 ?zz3 ?zz4 ?zz5 ?zzK ?zzd ?zzu trivial ?_; (case zzh1 => walk_at "m arith"); (case zzh2 => walk_at "m arith"); (case zzh3 => walk_at "m arith"); (case zzh4 => walk_at "m arith"); (case zz1 => k_asm); (case zz2 => k_asm); (case zz3 => k_asm); (case zz4 => k_asm); (case zz5 => k_asm); (case zzK => first | assumption | exact rfl); (case zzd => ktr_room); (case zzu => ktr_units)); intro v9 add9 h9 tk9 F9 N9 A9 P9; (try k_sweep); (try dsimp only); (try k_fold)))


end Mine
end
section
open PySem PySem.W PyProof.Rows PySem.Calls PySem.Spec PyProof.Rows.LCg
set_option linter.unusedVariables false
set_option exponentiation.threshold 100
set_option maxRecDepth 100000
namespace Mine

local macro_rules | `(tactic| walk_at "m enter") => `(tactic| (refine wpAny_call ?_; k_dflt (first
  | (refine' code_def ?k1 ?k2 ?k3 ?k4 ?k5 ?kA ?kF ?kK ?k6 ?k7 ?k8 ?k9 ?kB ?_ ?c2 ?c3 ?c4 ?c5; (case kA => exact rfl); (case kF => exact rfl); (case kK => first | assumption | exact rfl); (case k1 => k_asm); (case k2 => k_asm); (case k3 => k_asm); (case k4 => k_asm); (case k5 => k_asm); (case k6 => k_is); (case k7 => k_is); (case k8 => ktr_room); (case k9 => first | exact BindsTo.of_eq rfl | exact binds_K (by k_in) rfl (by k_is) rfl rfl rfl); (case c5 => decide); (case kB => exact locs rfl); (case c2 => exact rfl); (case c3 => exact rfl); (case c4 => exact rfl); k_whole; intro g' L' h' FG' F' N' B' X' T'; (try dsimp only); (try k_lift B'); (try k_fold))
  | (refine' code_defC ?k1 ?k2 ?k3 ?k4 ?k5 ?kA ?kF ?kK ?k6 ?k7 ?k8 ?k9 ?kB ?kD ?_ ?c2 ?c3 ?c4; (case kA => exact rfl); (case kF => exact rfl); (case kK => first | assumption | exact rfl); (case k1 => k_asm); (case k2 => k_asm); (case k3 => k_asm); (case k4 => k_asm); (case k5 => k_asm); (case k6 => k_is); (case k7 => k_is); (case k8 => ktr_room); (case k9 => first | exact BindsTo.of_eq rfl | exact binds_K (by k_in) rfl (by k_is) rfl rfl rfl); (case kB => exact rfl); (case kD => decide +kernel); (case c2 => exact rfl); (case c3 => exact rfl); (case c4 => exact rfl); k_whole; intro g' L' h' tk' cells' FG' F' N' Y' B' X' T' l1; (have bn := (show Bnd L' _ from l1)); k_cells Y'; (try simp only [List.cons_append, List.nil_append] at N'); (try dsimp only); (try k_lift B'); (try k_fold)))))
local macro_rules | `(tactic| k_all) => `(tactic| exact Bnd.ne (by assumption) (by omega))
local macro_rules | `(tactic| k_mem) => `(tactic| first | assumption | (with_reducible refine List.mem_cons_of_mem _ ?_; k_mem) | (with_reducible refine List.mem_append_left _ ?_; k_mem) | (with_reducible refine List.mem_append_right _ ?_; k_mem))
local macro_rules | `(tactic| walk_at "m news") => `(tactic| first | k_asm | (refine' News.sub (by k_asm) ?_; intro p9 hp9; simp only [List.mem_cons, List.mem_append, hp9, or_true, true_or]))
local macro_rules | `(tactic| walk_at "m arith") => `(tactic| first | omega | ((try simp only [fmod_lit, fdiv_lit] at *); omega))
local macro_rules | `(tactic| walk_at "m len") => `(tactic| ((simp only [List.length_append, List.length_replicate, List.length_cons, List.length_nil, rangeKs_length]); (try simp only [IntsAre.length (by assumption)]); (try simp only [rangeKs_length, fmod_lit]); omega))
local macro_rules | `(tactic| walk_at "m size") => `(tactic| (rw [sizeLine_eq, List.size_toArray]; walk_at "m len"))
local macro_rules | `(tactic| walk_at "binaryOp Mult ref int") => `(tactic| (k_here; k_dflt (refine' m_mul1 ?zzF ?zzN ?zzl ?zza ?zzb ?_; (case zzF => k_asm); (case zzN => k_asm); (case zzl => k_mem); (case zza => walk_at "m arith"); (case zzb => walk_at "m arith")); intro D' h' F' N' l1; (try k_lt l1); (try dsimp only)))
local macro_rules | `(tactic| walk_at "binaryOp Mult int ref") => `(tactic| (k_here; k_dflt (refine' m_mul1r ?zzF ?zzN ?zzl ?zza ?zzb ?_; (case zzF => k_asm); (case zzN => k_asm); (case zzl => k_mem); (case zza => walk_at "m arith"); (case zzb => walk_at "m arith")); intro D' h' F' N' l1; (try k_lt l1); (try dsimp only)))
local macro_rules | `(tactic| walk_at "binaryOp Add ref ref") => `(tactic| (k_here; k_dflt (refine' m_add ?zzF ?zzN ?zzl ?zzb ?zzz ?_; (case zzF => k_asm); (case zzN => k_asm); (case zzl => k_mem); (case zzb => k_mem); (case zzz => walk_at "m len")); intro D' h' F' N' l1; (try k_lt l1); (try dsimp only)))
local macro_rules | `(tactic| walk_at "call type:list") => `(tactic| (k_here; (with_reducible show wpAny _ _ (call (Value.type "list") [Value.ref _]) _ _ _); k_dflt (refine' m_listRange ?zzhh ?zzF ?zzN ?zzr ?zzsm ?zzn ?zzle ?_; (case zzhh => exact rfl); (case zzF => k_asm); (case zzN => k_asm); (case zzr => assumption); (case zzn => exact range_size (by walk_at "m arith")); (case zzsm => exact range_small (by walk_at "m arith") (by walk_at "m arith")); (case zzle => walk_at "m arith")); intro D' h' tk' ys' c' F' N' l1 hI'; (try k_lt l1); (try dsimp only)))
local macro_rules | `(tactic| walk_at "m q4") => `(tactic| first
  | assumption
  | (first | exact q4_c0 | exact q4_c1 | exact q4_c2 | exact q4_c3 | exact q4_c4 | exact q4_c5 | exact q4_c6 | exact q4_c7 | exact q4_c8)
  | (with_reducible refine q4_ofInt _ ?_; walk_at "m arith")
  | (with_reducible refine q4_quarter _ ?_; walk_at "m arith")
  | (with_reducible apply q4_add; (focus walk_at "m q4"); (focus walk_at "m q4"); walk_at "m arith")
  | (with_reducible apply q4_sub; (focus walk_at "m q4"); (focus walk_at "m q4"); walk_at "m arith")
  | (with_reducible apply q4_mul; (focus walk_at "m q4"); (focus walk_at "m q4"); walk_at "m arith"))
local macro_rules | `(tactic| walk_at "call builtin:math.floor") => `(tactic| (k_here; (with_reducible show wpAny _ _ (call _ [Value.float _ _]) _ _ _); k_dflt (first
  | (refine m_floorG rfl (by assumption) (by assumption) (by omega) (by omega) ?_)
  | (refine m_floorJ rfl (by walk_at "m arith") (by walk_at "m arith") ?_)
  | (refine' m_floor rfl ?zzq ?_; (case zzq => walk_at "m q4"))
  | (refine m_floorQuot rfl (by walk_at "m arith") (by walk_at "m arith") ?_)); (try dsimp only)))
local macro_rules | `(tactic| walk_at "call builtin:math.ceil") => `(tactic| (k_here; (with_reducible show wpAny _ _ (call _ [Value.float _ _]) _ _ _); k_dflt (refine' m_ceil rfl ?zzq ?_; (case zzq => walk_at "m q4")); (try dsimp only)))
local macro_rules | `(tactic| walk_at "call builtin:math.trunc") => `(tactic| (k_here; (with_reducible show wpAny _ _ (call _ [Value.float _ _]) _ _ _); k_dflt (refine' m_trunc rfl ?zzq ?zzp ?_; (case zzq => walk_at "m q4"); (case zzp => walk_at "m arith")); (try dsimp only)))
local macro_rules | `(tactic| walk_at "compareOp In int ref") => `(tactic| (k_here; k_dflt (refine' in_tuple_ints ?zzt ?zzi ?_; (case zzt => exact tupK (Frag.In.keeps (by k_asm) (Fr.keep (by k_asm))) (by k_is)); (case zzi => repeat constructor)); (try dsimp only)))
local macro_rules | `(tactic| walk_at "compareOp Eq int ref") => `(tactic| (k_here; k_dflt (refine' m_eqOwn ?zzX ?zzu ?zzo ?zzt ?zzs ?zzf ?_; (case zzX => exact Frag.In.keeps (by k_asm) (Fr.keep (by k_asm))); (case zzu => ktr_units); (case zzo => k_is); (case zzt => k_is); (case zzs => k_is); (case zzf => k_is)); (try dsimp only)))
local macro_rules | `(tactic| walk_at "call type:datetime.date") => `(tactic| (k_here; k_dflt (refine' m_date ?zzF ?zzN ?zza ?zzb ?zzc ?zzd ?zze ?zzf ?_; (case zzF => k_asm); (case zzN => k_asm); (case zza => walk_at "m arith"); (case zzb => walk_at "m arith"); (case zzc => walk_at "m arith"); (case zzd => walk_at "m arith"); (case zze => walk_at "m arith"); (case zzf => walk_at "m arith")); intro D' h' F' N' l1; (try k_lt l1); (try dsimp only)))
local macro_rules | `(tactic| walk_at "getMethod ref") => `(tactic| (k_here; k_dflt (refine' m_weekdayM ?zzN ?zzm ?_; (case zzN => k_asm); (case zzm => k_mem)); (try dsimp only)))
local macro_rules | `(tactic| walk_at "call builtin:datetime.date.weekday") => `(tactic| (k_here; k_dflt (refine' m_weekday ?zzN ?zzm ?_; (case zzN => k_asm); (case zzm => k_mem)); intro k' t' k0' k1'; (try dsimp only)))
local macro_rules | `(tactic| walk_at "subscriptTail Name") => `(tactic| (k_here; (with_reducible show wpAny _ _ (subscriptTail _ _ (Value.ref _) (Value.int _ _)) _ _ _); k_dflt (refine' m_item_any ?zzt ?zza ?zzb ?zzc ?_; (case zzt => exact tupK (Frag.In.keeps (by k_asm) (Fr.keep (by k_asm))) (by k_is)); (case zza => assumption); (case zzb => (simp only [List.length_cons, List.length_nil]; omega)); (case zzc => decide)); intro v' m'; (try dsimp only)))
local macro_rules | `(tactic| walk_at "subscriptTail Name") => `(tactic| (k_here; (with_reducible show wpAny _ _ (subscriptTail _ _ (Value.ref _) (Value.int _ _)) _ _ _); k_dflt (refine' m_item_int ?zzt ?zzi ?zza ?zzb ?zzc ?_; (case zzt => exact lstK (Frag.In.keeps (by k_asm) (Fr.keep (by k_asm))) (by k_is)); (case zzi => repeat constructor); (case zza => omega); (case zzb => (simp only [List.length_cons, List.length_nil]; omega)); (case zzc => decide)); intro t'; (try dsimp only)))
local macro_rules | `(tactic| walk_at "call ref") => `(tactic| (k_here; walk_at "m enter"))

local macro_rules | `(tactic| walk_at "call ref") => `(tactic| (k_here; k_dflt (refine' c_use (c_helper _ _ _ _ _ ?zzh1 ?zzh2 ?zzh3 ?zzh4) ?zz1 ?zz2 ?zz3 ?zz4 ?zz5 ?zzK ?zzd ?zzu trivial ?_; (case zzh1 => walk_at "m arith"); (case zzh2 => walk_at "m arith"); (case zzh3 => walk_at "m arith"); (case zzh4 => walk_at "m arith"); (case zz1 => k_asm); (case zz2 => k_asm); (case zz3 => k_asm); (case zz4 => k_asm); (case zz5 => k_asm); (case zzK => first | assumption | exact rfl); (case zzd => ktr_room); (case zzu => ktr_units)); intro v9 add9 h9 tk9 F9 N9 A9 P9; (try k_sweep); (try dsimp only); (try k_fold)))

local macro_rules | `(tactic| walk_at "call ref") => `(tactic| (k_here; k_dflt (refine' c0_use (c_isleap _ _ _ ) ?zz1 ?zz2 ?zz3 ?zz4 ?zz5 ?zzK ?zzd ?zzu ?_; (case zz1 => k_asm); (case zz2 => k_asm); (case zz3 => k_asm); (case zz4 => k_asm); (case zz5 => k_asm); (case zzK => first | assumption | exact rfl); (case zzd => ktr_room); (case zzu => ktr_units)); intro v9 h9 tk9 F9 N9 P9; subst P9; (try k_sweep); (try dsimp only); (try k_fold)))
local macro_rules | `(tactic| walk_at "call ref") => `(tactic| (k_here; k_dflt (refine' c0_use (c_weekday _ _ _ _ _ _ ?zzh1 ?zzh2 ?zzh3 ?zzh4) ?zz1 ?zz2 ?zz3 ?zz4 ?zz5 ?zzK ?zzd ?zzu ?_; (case zzh1 => walk_at "m arith"); (case zzh2 => walk_at "m arith"); (case zzh3 => walk_at "m arith"); (case zzh4 => walk_at "m arith"); (case zz1 => k_asm); (case zz2 => k_asm); (case zz3 => k_asm); (case zz4 => k_asm); (case zz5 => k_asm); (case zzK => first | assumption | exact rfl); (case zzd => ktr_room); (case zzu => ktr_units)); intro v9 h9 tk9 F9 N9 P9; obtain ⟨a9, P9⟩ := P9; subst P9; (try k_sweep); (try dsimp only); (try k_fold)))
local macro_rules | `(tactic| walk_at "call ref") => `(tactic| (k_here; k_dflt (refine' c0_use (c_jwday _ _ _ _ ?zzhq ?zzh1 ?zzh2) ?zz1 ?zz2 ?zz3 ?zz4 ?zz5 ?zzK ?zzd ?zzu ?_; (case zzhq => assumption); (case zzh1 => walk_at "m arith"); (case zzh2 => walk_at "m arith"); (case zz1 => k_asm); (case zz2 => k_asm); (case zz3 => k_asm); (case zz4 => k_asm); (case zz5 => k_asm); (case zzK => first | assumption | exact rfl); (case zzd => ktr_room); (case zzu => ktr_units)); intro v9 h9 tk9 F9 N9 P9; obtain ⟨n9, t9, P9, e9⟩ := P9; subst P9; (try k_sweep); (try dsimp only); (try k_fold)))
local macro_rules | `(tactic| walk_at "call ref") => `(tactic| (k_here; k_dflt (refine' c0_use (c_legal_g _ _ _ _ _ _ _ ?zzh3 ?zzh4 ?zzh5 ?zzh6) ?zz1 ?zz2 ?zz3 ?zz4 ?zz5 ?zzK ?zzd ?zzu ?_; (case zzh3 => walk_at "m arith"); (case zzh4 => walk_at "m arith"); (case zzh5 => walk_at "m arith"); (case zzh6 => walk_at "m arith"); (case zz1 => k_asm); (case zz2 => k_asm); (case zz3 => k_asm); (case zz4 => k_asm); (case zz5 => k_asm); (case zzK => first | assumption | exact rfl); (case zzd => ktr_room); (case zzu => ktr_units)); intro v9 h9 tk9 F9 N9 P9; subst P9; (try k_sweep); (try dsimp only); (try k_fold)))
local macro_rules | `(tactic| walk_at "call ref") => `(tactic| (k_here; k_dflt (refine' c0_use (c_mlen_g _ _ _ _ _ ?zzh1 ?zzh2 ?zzh3 ?zzh4) ?zz1 ?zz2 ?zz3 ?zz4 ?zz5 ?zzK ?zzd ?zzu ?_; (case zzh1 => walk_at "m arith"); (case zzh2 => walk_at "m arith"); (case zzh3 => walk_at "m arith"); (case zzh4 => walk_at "m arith"); (case zz1 => k_asm); (case zz2 => k_asm); (case zz3 => k_asm); (case zz4 => k_asm); (case zz5 => k_asm); (case zzK => first | assumption | exact rfl); (case zzd => ktr_room); (case zzu => ktr_units)); intro v9 h9 tk9 F9 N9 P9; obtain ⟨n9, t9, P9, e9, b9, c9⟩ := P9; subst P9; (try k_sweep); (try dsimp only); (try k_fold)))
local macro_rules | `(tactic| walk_at "call ref") => `(tactic| (k_here; k_dflt (refine' c0_use (c_tojd_g _ _ _ _ _ _ _ ?zzh1 ?zzh2 ?zzh3 ?zzh4 ?zzh5) ?zz1 ?zz2 ?zz3 ?zz4 ?zz5 ?zzK ?zzd ?zzu ?_; (case zzh1 => walk_at "m arith"); (case zzh2 => walk_at "m arith"); (case zzh3 => walk_at "m arith"); (case zzh4 => walk_at "m arith"); (case zzh5 => walk_at "m arith"); (case zz1 => k_asm); (case zz2 => k_asm); (case zz3 => k_asm); (case zz4 => k_asm); (case zz5 => k_asm); (case zzK => first | assumption | exact rfl); (case zzd => ktr_room); (case zzu => ktr_units)); intro v9 h9 tk9 F9 N9 P9; obtain ⟨x9, t9, j9, P9, q9, e9, b9, c9⟩ := P9; subst P9; (try k_sweep); (try dsimp only); (try k_fold)))
local macro_rules | `(tactic| walk_at "call ref") => `(tactic| (k_here; k_dflt (refine' c_use (c_cal_g _ _ _ _ _ ?zzh1 ?zzh2 ?zzh3 ?zzh4) ?zz1 ?zz2 ?zz3 ?zz4 ?zz5 ?zzK ?zzd ?zzu trivial ?_; (case zzh1 => walk_at "m arith"); (case zzh2 => walk_at "m arith"); (case zzh3 => walk_at "m arith"); (case zzh4 => walk_at "m arith"); (case zz1 => k_asm); (case zz2 => k_asm); (case zz3 => k_asm); (case zz4 => k_asm); (case zz5 => k_asm); (case zzK => first | assumption | exact rfl); (case zzd => ktr_room); (case zzu => ktr_units)); intro v9 add9 h9 tk9 F9 N9 A9 P9; (try k_sweep); (try dsimp only); (try k_fold)))


set_option maxHeartbeats 4000000 in
theorem c_mlen_i (w : World) (y mo : Int) (t u : Tok) (h3 : 1 ≤ mo) (h4 : mo ≤ 12) : Ctr0 PR w (hd.heap_39 w.params) 2 559 [.int y t, .int mo u] (fun v => ∃ n t, v = .int n t ∧ n = indLen y mo ∧ 1 ≤ n ∧ n ≤ 31) := by
  unfold Ctr0
  intro p loose mean mg mb dp un gd cn cs a ccd cl outer A₀ base h₀ L m news s Q E B F X N T hk hd hu hret
  walk_at "m enter"
  k_steps
  all_goals first | (exfalso; omega) | (refine hret _ _ _ (by k_asm) (by walk_at "m news") ?_)
  all_goals (refine ⟨_, _, rfl, int_end ?_ (indLen_b y mo)⟩)
  all_goals first
    | exact nl1 (by assumption)
    | exact nl2 (by assumption) (by assumption) (by assumption)
    | exact nl3 (by assumption) (by assumption) (by assumption)
    | exact nl4 (by assumption) (by assumption)


local macro_rules | `(tactic| walk_at "call ref") => `(tactic| (k_here; k_dflt (refine' c0_use (c_mlen_i _ _ _ _ _ ?zzh3 ?zzh4) ?zz1 ?zz2 ?zz3 ?zz4 ?zz5 ?zzK ?zzd ?zzu ?_; (case zzh3 => walk_at "m arith"); (case zzh4 => walk_at "m arith"); (case zz1 => k_asm); (case zz2 => k_asm); (case zz3 => k_asm); (case zz4 => k_asm); (case zz5 => k_asm); (case zzK => first | assumption | exact rfl); (case zzd => ktr_room); (case zzu => ktr_units)); intro v9 h9 tk9 F9 N9 P9; obtain ⟨n9, t9, P9, e9, b9, c9⟩ := P9; subst P9; (try k_sweep); (try dsimp only); (try k_fold)))

set_option maxHeartbeats 4000000 in
theorem c_tojd_i (w : World) (y mo : Int) (t u v : Tok) (h1 : 1 ≤ y) (h2 : y ≤ 490000) (h3 : 1 ≤ mo) (h4 : mo ≤ 12) : Ctr0 PR w (hd.heap_39 w.params) 5 552 [.int y t, .int mo u, .int 1 v] (fun v => ∃ x t j, v = .float x t ∧ Q4 x (4 * j - 2) ∧ j = indJ y mo ∧ 0 ≤ j ∧ j ≤ 1000000000) := by
  unfold Ctr0
  intro p loose mean mg mb dp un gd cn cs a ccd cl outer A₀ base h₀ L m news s Q E B F X N T hk hd hu hret
  walk_at "m enter"
  k_steps
  all_goals first | (exfalso; omega) | (refine hret _ _ _ (by k_asm) (by walk_at "m news") ?_)
  all_goals (refine ⟨_, _, indJ y mo, rfl, q4_cast (by walk_at "m q4") ?_, rfl, ?_⟩)
  all_goals first
    | (rw [indJ_t (by assumption) (by assumption)]; (repeat' split) <;> omega)
    | (rw [indJ_f (by assumption) (by assumption)]; (repeat' split) <;> omega)


local macro_rules | `(tactic| walk_at "call ref") => `(tactic| (k_here; k_dflt (refine' c0_use (c_tojd_i _ _ _ _ _ _ ?zzh1 ?zzh2 ?zzh3 ?zzh4) ?zz1 ?zz2 ?zz3 ?zz4 ?zz5 ?zzK ?zzd ?zzu ?_; (case zzh1 => walk_at "m arith"); (case zzh2 => walk_at "m arith"); (case zzh3 => walk_at "m arith"); (case zzh4 => walk_at "m arith"); (case zz1 => k_asm); (case zz2 => k_asm); (case zz3 => k_asm); (case zz4 => k_asm); (case zz5 => k_asm); (case zzK => first | assumption | exact rfl); (case zzd => ktr_room); (case zzu => ktr_units)); intro v9 h9 tk9 F9 N9 P9; obtain ⟨x9, t9, j9, P9, q9, e9, b9, c9⟩ := P9; subst P9; (try k_sweep); (try dsimp only); (try k_fold)))

set_option maxHeartbeats 4000000 in
theorem c_cal_i (w : World) (y mo : Int) (t u : Tok) (h1 : 1 ≤ y) (h2 : y ≤ 490000) (h3 : 1 ≤ mo) (h4 : mo ≤ 12) : Ctr PR w (hd.heap_39 w.params) 6 566 [.int y t, .int mo u] (fun _ => True) (fun add v => DatIn add v (leafJ (indJ y mo) (indLen y mo))) := by
  unfold Ctr
  intro p loose mean mg mb dp un gd cn cs a ccd cl outer A₀ base h₀ L m news s Q E B F X N T hk hd hu _ hret
  walk_at "m enter"
  k_steps
  refine hret _ _ _ _ (by k_asm) (by k_asm) (by assumption) ?_
  subst_vars
  rw [← leafJ_of]
  assumption


local macro_rules | `(tactic| walk_at "call ref") => `(tactic| (k_here; k_dflt (refine' c_use (c_cal_i _ _ _ _ _ ?zzh1 ?zzh2 ?zzh3 ?zzh4) ?zz1 ?zz2 ?zz3 ?zz4 ?zz5 ?zzK ?zzd ?zzu trivial ?_; (case zzh1 => walk_at "m arith"); (case zzh2 => walk_at "m arith"); (case zzh3 => walk_at "m arith"); (case zzh4 => walk_at "m arith"); (case zz1 => k_asm); (case zz2 => k_asm); (case zz3 => k_asm); (case zz4 => k_asm); (case zz5 => k_asm); (case zzK => first | assumption | exact rfl); (case zzd => ktr_room); (case zzu => ktr_units)); intro v9 add9 h9 tk9 F9 N9 A9 P9; (try k_sweep); (try dsimp only); (try k_fold)))


end Mine
end
section
open PySem PySem.W PyProof.Rows PySem.Calls PySem.Spec PyProof.Rows.LCg
set_option linter.unusedVariables false
set_option exponentiation.threshold 100
set_option maxRecDepth 100000
namespace Mine

local macro_rules | `(tactic| walk_at "m enter") => `(tactic| (refine wpAny_call ?_; k_dflt (first
  | (refine' code_def ?k1 ?k2 ?k3 ?k4 ?k5 ?kA ?kF ?kK ?k6 ?k7 ?k8 ?k9 ?kB ?_ ?c2 ?c3 ?c4 ?c5; (case kA => exact rfl); (case kF => exact rfl); (case kK => first | assumption | exact rfl); (case k1 => k_asm); (case k2 => k_asm); (case k3 => k_asm); (case k4 => k_asm); (case k5 => k_asm); (case k6 => k_is); (case k7 => k_is); (case k8 => ktr_room); (case k9 => first | exact BindsTo.of_eq rfl | exact binds_K (by k_in) rfl (by k_is) rfl rfl rfl); (case c5 => decide); (case kB => exact locs rfl); (case c2 => exact rfl); (case c3 => exact rfl); (case c4 => exact rfl); k_whole; intro g' L' h' FG' F' N' B' X' T'; (try dsimp only); (try k_lift B'); (try k_fold))
  | (refine' code_defC ?k1 ?k2 ?k3 ?k4 ?k5 ?kA ?kF ?kK ?k6 ?k7 ?k8 ?k9 ?kB ?kD ?_ ?c2 ?c3 ?c4; (case kA => exact rfl); (case kF => exact rfl); (case kK => first | assumption | exact rfl); (case k1 => k_asm); (case k2 => k_asm); (case k3 => k_asm); (case k4 => k_asm); (case k5 => k_asm); (case k6 => k_is); (case k7 => k_is); (case k8 => ktr_room); (case k9 => first | exact BindsTo.of_eq rfl | exact binds_K (by k_in) rfl (by k_is) rfl rfl rfl); (case kB => exact rfl); (case kD => decide +kernel); (case c2 => exact rfl); (case c3 => exact rfl); (case c4 => exact rfl); k_whole; intro g' L' h' tk' cells' FG' F' N' Y' B' X' T' l1; (have bn := (show Bnd L' _ from l1)); k_cells Y'; (try simp only [List.cons_append, List.nil_append] at N'); (try dsimp only); (try k_lift B'); (try k_fold)))))
local macro_rules | `(tactic| k_all) => `(tactic| exact Bnd.ne (by assumption) (by omega))
local macro_rules | `(tactic| k_mem) => `(tactic| first | assumption | (with_reducible refine List.mem_cons_of_mem _ ?_; k_mem) | (with_reducible refine List.mem_append_left _ ?_; k_mem) | (with_reducible refine List.mem_append_right _ ?_; k_mem))
local macro_rules | `(tactic| walk_at "m news") => `(tactic| first | k_asm | (refine' News.sub (by k_asm) ?_; intro p9 hp9; simp only [List.mem_cons, List.mem_append, hp9, or_true, true_or]))
local macro_rules | `(tactic| walk_at "m arith") => `(tactic| first | omega | ((try simp only [fmod_lit, fdiv_lit] at *); omega))
local macro_rules | `(tactic| walk_at "m len") => `(tactic| ((simp only [List.length_append, List.length_replicate, List.length_cons, List.length_nil, rangeKs_length]); (try simp only [IntsAre.length (by assumption)]); (try simp only [rangeKs_length, fmod_lit]); omega))
local macro_rules | `(tactic| walk_at "m size") => `(tactic| (rw [sizeLine_eq, List.size_toArray]; walk_at "m len"))
local macro_rules | `(tactic| walk_at "binaryOp Mult ref int") => `(tactic| (k_here; k_dflt (refine' m_mul1 ?zzF ?zzN ?zzl ?zza ?zzb ?_; (case zzF => k_asm); (case zzN => k_asm); (case zzl => k_mem); (case zza => walk_at "m arith"); (case zzb => walk_at "m arith")); intro D' h' F' N' l1; (try k_lt l1); (try dsimp only)))
local macro_rules | `(tactic| walk_at "binaryOp Mult int ref") => `(tactic| (k_here; k_dflt (refine' m_mul1r ?zzF ?zzN ?zzl ?zza ?zzb ?_; (case zzF => k_asm); (case zzN => k_asm); (case zzl => k_mem); (case zza => walk_at "m arith"); (case zzb => walk_at "m arith")); intro D' h' F' N' l1; (try k_lt l1); (try dsimp only)))
local macro_rules | `(tactic| walk_at "binaryOp Add ref ref") => `(tactic| (k_here; k_dflt (refine' m_add ?zzF ?zzN ?zzl ?zzb ?zzz ?_; (case zzF => k_asm); (case zzN => k_asm); (case zzl => k_mem); (case zzb => k_mem); (case zzz => walk_at "m len")); intro D' h' F' N' l1; (try k_lt l1); (try dsimp only)))
local macro_rules | `(tactic| walk_at "call type:list") => `(tactic| (k_here; (with_reducible show wpAny _ _ (call (Value.type "list") [Value.ref _]) _ _ _); k_dflt (refine' m_listRange ?zzhh ?zzF ?zzN ?zzr ?zzsm ?zzn ?zzle ?_; (case zzhh => exact rfl); (case zzF => k_asm); (case zzN => k_asm); (case zzr => assumption); (case zzn => exact range_size (by walk_at "m arith")); (case zzsm => exact range_small (by walk_at "m arith") (by walk_at "m arith")); (case zzle => walk_at "m arith")); intro D' h' tk' ys' c' F' N' l1 hI'; (try k_lt l1); (try dsimp only)))
local macro_rules | `(tactic| walk_at "m q4") => `(tactic| first
  | assumption
  | (first | exact q4_c0 | exact q4_c1 | exact q4_c2 | exact q4_c3 | exact q4_c4 | exact q4_c5 | exact q4_c6 | exact q4_c7 | exact q4_c8)
  | (with_reducible refine q4_ofInt _ ?_; walk_at "m arith")
  | (with_reducible refine q4_quarter _ ?_; walk_at "m arith")
  | (with_reducible apply q4_add; (focus walk_at "m q4"); (focus walk_at "m q4"); walk_at "m arith")
  | (with_reducible apply q4_sub; (focus walk_at "m q4"); (focus walk_at "m q4"); walk_at "m arith")
  | (with_reducible apply q4_mul; (focus walk_at "m q4"); (focus walk_at "m q4"); walk_at "m arith"))
local macro_rules | `(tactic| walk_at "call builtin:math.floor") => `(tactic| (k_here; (with_reducible show wpAny _ _ (call _ [Value.float _ _]) _ _ _); k_dflt (first
  | (refine m_floorG rfl (by assumption) (by assumption) (by omega) (by omega) ?_)
  | (refine m_floorJ rfl (by walk_at "m arith") (by walk_at "m arith") ?_)
  | (refine' m_floor rfl ?zzq ?_; (case zzq => walk_at "m q4"))
  | (refine m_floorQuot rfl (by walk_at "m arith") (by walk_at "m arith") ?_)); (try dsimp only)))
local macro_rules | `(tactic| walk_at "call builtin:math.ceil") => `(tactic| (k_here; (with_reducible show wpAny _ _ (call _ [Value.float _ _]) _ _ _); k_dflt (refine' m_ceil rfl ?zzq ?_; (case zzq => walk_at "m q4")); (try dsimp only)))
local macro_rules | `(tactic| walk_at "call builtin:math.trunc") => `(tactic| (k_here; (with_reducible show wpAny _ _ (call _ [Value.float _ _]) _ _ _); k_dflt (refine' m_trunc rfl ?zzq ?zzp ?_; (case zzq => walk_at "m q4"); (case zzp => walk_at "m arith")); (try dsimp only)))
local macro_rules | `(tactic| walk_at "compareOp In int ref") => `(tactic| (k_here; k_dflt (refine' in_tuple_ints ?zzt ?zzi ?_; (case zzt => exact tupK (Frag.In.keeps (by k_asm) (Fr.keep (by k_asm))) (by k_is)); (case zzi => repeat constructor)); (try dsimp only)))
local macro_rules | `(tactic| walk_at "compareOp Eq int ref") => `(tactic| (k_here; k_dflt (refine' m_eqOwn ?zzX ?zzu ?zzo ?zzt ?zzs ?zzf ?_; (case zzX => exact Frag.In.keeps (by k_asm) (Fr.keep (by k_asm))); (case zzu => ktr_units); (case zzo => k_is); (case zzt => k_is); (case zzs => k_is); (case zzf => k_is)); (try dsimp only)))
local macro_rules | `(tactic| walk_at "call type:datetime.date") => `(tactic| (k_here; k_dflt (refine' m_date ?zzF ?zzN ?zza ?zzb ?zzc ?zzd ?zze ?zzf ?_; (case zzF => k_asm); (case zzN => k_asm); (case zza => walk_at "m arith"); (case zzb => walk_at "m arith"); (case zzc => walk_at "m arith"); (case zzd => walk_at "m arith"); (case zze => walk_at "m arith"); (case zzf => walk_at "m arith")); intro D' h' F' N' l1; (try k_lt l1); (try dsimp only)))
local macro_rules | `(tactic| walk_at "getMethod ref") => `(tactic| (k_here; k_dflt (refine' m_weekdayM ?zzN ?zzm ?_; (case zzN => k_asm); (case zzm => k_mem)); (try dsimp only)))
local macro_rules | `(tactic| walk_at "call builtin:datetime.date.weekday") => `(tactic| (k_here; k_dflt (refine' m_weekday ?zzN ?zzm ?_; (case zzN => k_asm); (case zzm => k_mem)); intro k' t' k0' k1'; (try dsimp only)))
local macro_rules | `(tactic| walk_at "subscriptTail Name") => `(tactic| (k_here; (with_reducible show wpAny _ _ (subscriptTail _ _ (Value.ref _) (Value.int _ _)) _ _ _); k_dflt (refine' m_item_any ?zzt ?zza ?zzb ?zzc ?_; (case zzt => exact tupK (Frag.In.keeps (by k_asm) (Fr.keep (by k_asm))) (by k_is)); (case zza => assumption); (case zzb => (simp only [List.length_cons, List.length_nil]; omega)); (case zzc => decide)); intro v' m'; (try dsimp only)))
local macro_rules | `(tactic| walk_at "subscriptTail Name") => `(tactic| (k_here; (with_reducible show wpAny _ _ (subscriptTail _ _ (Value.ref _) (Value.int _ _)) _ _ _); k_dflt (refine' m_item_int ?zzt ?zzi ?zza ?zzb ?zzc ?_; (case zzt => exact lstK (Frag.In.keeps (by k_asm) (Fr.keep (by k_asm))) (by k_is)); (case zzi => repeat constructor); (case zza => omega); (case zzb => (simp only [List.length_cons, List.length_nil]; omega)); (case zzc => decide)); intro t'; (try dsimp only)))
local macro_rules | `(tactic| walk_at "call ref") => `(tactic| (k_here; walk_at "m enter"))

local macro_rules | `(tactic| walk_at "call ref") => `(tactic| (k_here; k_dflt (refine' c_use (c_helper _ _ _ _ _ ?zzh1 ?zzh2 ?zzh3 ?zzh4) ?zz1 ?zz2 ?zz3 ?zz4 ?zz5 ?zzK ?zzd ?zzu trivial ?_; (case zzh1 => walk_at "m arith"); (case zzh2 => walk_at "m arith"); (case zzh3 => walk_at "m arith"); (case zzh4 => walk_at "m arith"); (case zz1 => k_asm); (case zz2 => k_asm); (case zz3 => k_asm); (case zz4 => k_asm); (case zz5 => k_asm); (case zzK => first | assumption | exact rfl); (case zzd => ktr_room); (case zzu => ktr_units)); intro v9 add9 h9 tk9 F9 N9 A9 P9; (try k_sweep); (try dsimp only); (try k_fold)))

local macro_rules | `(tactic| walk_at "call ref") => `(tactic| (k_here; k_dflt (refine' c0_use (c_isleap _ _ _ ) ?zz1 ?zz2 ?zz3 ?zz4 ?zz5 ?zzK ?zzd ?zzu ?_; (case zz1 => k_asm); (case zz2 => k_asm); (case zz3 => k_asm); (case zz4 => k_asm); (case zz5 => k_asm); (case zzK => first | assumption | exact rfl); (case zzd => ktr_room); (case zzu => ktr_units)); intro v9 h9 tk9 F9 N9 P9; subst P9; (try k_sweep); (try dsimp only); (try k_fold)))
local macro_rules | `(tactic| walk_at "call ref") => `(tactic| (k_here; k_dflt (refine' c0_use (c_weekday _ _ _ _ _ _ ?zzh1 ?zzh2 ?zzh3 ?zzh4) ?zz1 ?zz2 ?zz3 ?zz4 ?zz5 ?zzK ?zzd ?zzu ?_; (case zzh1 => walk_at "m arith"); (case zzh2 => walk_at "m arith"); (case zzh3 => walk_at "m arith"); (case zzh4 => walk_at "m arith"); (case zz1 => k_asm); (case zz2 => k_asm); (case zz3 => k_asm); (case zz4 => k_asm); (case zz5 => k_asm); (case zzK => first | assumption | exact rfl); (case zzd => ktr_room); (case zzu => ktr_units)); intro v9 h9 tk9 F9 N9 P9; obtain ⟨a9, P9⟩ := P9; subst P9; (try k_sweep); (try dsimp only); (try k_fold)))
local macro_rules | `(tactic| walk_at "call ref") => `(tactic| (k_here; k_dflt (refine' c0_use (c_jwday _ _ _ _ ?zzhq ?zzh1 ?zzh2) ?zz1 ?zz2 ?zz3 ?zz4 ?zz5 ?zzK ?zzd ?zzu ?_; (case zzhq => assumption); (case zzh1 => walk_at "m arith"); (case zzh2 => walk_at "m arith"); (case zz1 => k_asm); (case zz2 => k_asm); (case zz3 => k_asm); (case zz4 => k_asm); (case zz5 => k_asm); (case zzK => first | assumption | exact rfl); (case zzd => ktr_room); (case zzu => ktr_units)); intro v9 h9 tk9 F9 N9 P9; obtain ⟨n9, t9, P9, e9⟩ := P9; subst P9; (try k_sweep); (try dsimp only); (try k_fold)))
local macro_rules | `(tactic| walk_at "call ref") => `(tactic| (k_here; k_dflt (refine' c0_use (c_legal_g _ _ _ _ _ _ _ ?zzh3 ?zzh4 ?zzh5 ?zzh6) ?zz1 ?zz2 ?zz3 ?zz4 ?zz5 ?zzK ?zzd ?zzu ?_; (case zzh3 => walk_at "m arith"); (case zzh4 => walk_at "m arith"); (case zzh5 => walk_at "m arith"); (case zzh6 => walk_at "m arith"); (case zz1 => k_asm); (case zz2 => k_asm); (case zz3 => k_asm); (case zz4 => k_asm); (case zz5 => k_asm); (case zzK => first | assumption | exact rfl); (case zzd => ktr_room); (case zzu => ktr_units)); intro v9 h9 tk9 F9 N9 P9; subst P9; (try k_sweep); (try dsimp only); (try k_fold)))
local macro_rules | `(tactic| walk_at "call ref") => `(tactic| (k_here; k_dflt (refine' c0_use (c_mlen_g _ _ _ _ _ ?zzh1 ?zzh2 ?zzh3 ?zzh4) ?zz1 ?zz2 ?zz3 ?zz4 ?zz5 ?zzK ?zzd ?zzu ?_; (case zzh1 => walk_at "m arith"); (case zzh2 => walk_at "m arith"); (case zzh3 => walk_at "m arith"); (case zzh4 => walk_at "m arith"); (case zz1 => k_asm); (case zz2 => k_asm); (case zz3 => k_asm); (case zz4 => k_asm); (case zz5 => k_asm); (case zzK => first | assumption | exact rfl); (case zzd => ktr_room); (case zzu => ktr_units)); intro v9 h9 tk9 F9 N9 P9; obtain ⟨n9, t9, P9, e9, b9, c9⟩ := P9; subst P9; (try k_sweep); (try dsimp only); (try k_fold)))
local macro_rules | `(tactic| walk_at "call ref") => `(tactic| (k_here; k_dflt (refine' c0_use (c_tojd_g _ _ _ _ _ _ _ ?zzh1 ?zzh2 ?zzh3 ?zzh4 ?zzh5) ?zz1 ?zz2 ?zz3 ?zz4 ?zz5 ?zzK ?zzd ?zzu ?_; (case zzh1 => walk_at "m arith"); (case zzh2 => walk_at "m arith"); (case zzh3 => walk_at "m arith"); (case zzh4 => walk_at "m arith"); (case zzh5 => walk_at "m arith"); (case zz1 => k_asm); (case zz2 => k_asm); (case zz3 => k_asm); (case zz4 => k_asm); (case zz5 => k_asm); (case zzK => first | assumption | exact rfl); (case zzd => ktr_room); (case zzu => ktr_units)); intro v9 h9 tk9 F9 N9 P9; obtain ⟨x9, t9, j9, P9, q9, e9, b9, c9⟩ := P9; subst P9; (try k_sweep); (try dsimp only); (try k_fold)))
local macro_rules | `(tactic| walk_at "call ref") => `(tactic| (k_here; k_dflt (refine' c_use (c_cal_g _ _ _ _ _ ?zzh1 ?zzh2 ?zzh3 ?zzh4) ?zz1 ?zz2 ?zz3 ?zz4 ?zz5 ?zzK ?zzd ?zzu trivial ?_; (case zzh1 => walk_at "m arith"); (case zzh2 => walk_at "m arith"); (case zzh3 => walk_at "m arith"); (case zzh4 => walk_at "m arith"); (case zz1 => k_asm); (case zz2 => k_asm); (case zz3 => k_asm); (case zz4 => k_asm); (case zz5 => k_asm); (case zzK => first | assumption | exact rfl); (case zzd => ktr_room); (case zzu => ktr_units)); intro v9 add9 h9 tk9 F9 N9 A9 P9; (try k_sweep); (try dsimp only); (try k_fold)))


set_option maxHeartbeats 4000000 in
theorem c_valid_a (w : World) (y mo : Int) (t u v : Tok) (h1 : 1 ≤ y) (h2 : y ≤ 500000) (h3 : 1 ≤ mo) (h4 : mo ≤ 13) : Ctr0 PR w (hd.heap_39 w.params) 2 485 [.int y t, .int mo u, .int 1 v, .none] (fun v => v = .bool true) := by
  unfold Ctr0
  intro p loose mean mg mb dp un gd cn cs a ccd cl outer A₀ base h₀ L m news s Q E B F X N T hk hd hu hret
  walk_at "m enter"
  k_steps
  all_goals first | (exfalso; omega) | (refine hret _ _ _ (by k_asm) (by walk_at "m news") ?_)
  all_goals exact rfl


local macro_rules | `(tactic| walk_at "call ref") => `(tactic| (k_here; k_dflt (refine' c0_use (c_valid_a _ _ _ _ _ _ ?zzh1 ?zzh2 ?zzh3 ?zzh4) ?zz1 ?zz2 ?zz3 ?zz4 ?zz5 ?zzK ?zzd ?zzu ?_; (case zzh1 => walk_at "m arith"); (case zzh2 => walk_at "m arith"); (case zzh3 => walk_at "m arith"); (case zzh4 => walk_at "m arith"); (case zz1 => k_asm); (case zz2 => k_asm); (case zz3 => k_asm); (case zz4 => k_asm); (case zz5 => k_asm); (case zzK => first | assumption | exact rfl); (case zzd => ktr_room); (case zzu => ktr_units)); intro v9 h9 tk9 F9 N9 P9; subst P9; (try k_sweep); (try dsimp only); (try k_fold)))

set_option maxHeartbeats 4000000 in
theorem c_mlen_a (w : World) (y mo : Int) (t u : Tok) (h3 : 1 ≤ mo) (h4 : mo ≤ 13) : Ctr0 PR w (hd.heap_39 w.params) 2 508 [.int y t, .int mo u, .none] (fun v => ∃ n t, v = .int n t ∧ n = armLen y mo ∧ 1 ≤ n ∧ n ≤ 31) := by
  unfold Ctr0
  intro p loose mean mg mb dp un gd cn cs a ccd cl outer A₀ base h₀ L m news s Q E B F X N T hk hd hu hret
  walk_at "m enter"
  k_steps
  all_goals first | (exfalso; omega) | (refine hret _ _ _ (by k_asm) (by walk_at "m news") ?_)
  all_goals (refine ⟨_, _, rfl, int_end ?_ (armLen_b y mo)⟩)
  all_goals (unfold armLen; (repeat' split) <;> omega)


local macro_rules | `(tactic| walk_at "call ref") => `(tactic| (k_here; k_dflt (refine' c0_use (c_mlen_a _ _ _ _ _ ?zzh3 ?zzh4) ?zz1 ?zz2 ?zz3 ?zz4 ?zz5 ?zzK ?zzd ?zzu ?_; (case zzh3 => walk_at "m arith"); (case zzh4 => walk_at "m arith"); (case zz1 => k_asm); (case zz2 => k_asm); (case zz3 => k_asm); (case zz4 => k_asm); (case zz5 => k_asm); (case zzK => first | assumption | exact rfl); (case zzd => ktr_room); (case zzu => ktr_units)); intro v9 h9 tk9 F9 N9 P9; obtain ⟨n9, t9, P9, e9, b9, c9⟩ := P9; subst P9; (try k_sweep); (try dsimp only); (try k_fold)))

set_option maxHeartbeats 4000000 in
theorem c_tojd_a (w : World) (y mo : Int) (t u v : Tok) (h1 : 1 ≤ y) (h2 : y ≤ 500000) (h3 : 1 ≤ mo) (h4 : mo ≤ 13) : Ctr0 PR w (hd.heap_39 w.params) 4 500 [.int y t, .int mo u, .int 1 v, .none] (fun v => ∃ x t j, v = .float x t ∧ Q4 x (4 * j - 2) ∧ j = armJ y mo ∧ 0 ≤ j ∧ j ≤ 900000000) := by
  unfold Ctr0
  intro p loose mean mg mb dp un gd cn cs a ccd cl outer A₀ base h₀ L m news s Q E B F X N T hk hd hu hret
  walk_at "m enter"
  k_steps
  all_goals first | (exfalso; omega) | (refine hret _ _ _ (by k_asm) (by walk_at "m news") ?_)
  all_goals (refine ⟨_, _, armJ y mo, rfl, q4_cast (by walk_at "m q4") ?_, rfl, ?_⟩)
  all_goals (unfold armJ; (repeat' split) <;> omega)


local macro_rules | `(tactic| walk_at "call ref") => `(tactic| (k_here; k_dflt (refine' c0_use (c_tojd_a _ _ _ _ _ _ ?zzh1 ?zzh2 ?zzh3 ?zzh4) ?zz1 ?zz2 ?zz3 ?zz4 ?zz5 ?zzK ?zzd ?zzu ?_; (case zzh1 => walk_at "m arith"); (case zzh2 => walk_at "m arith"); (case zzh3 => walk_at "m arith"); (case zzh4 => walk_at "m arith"); (case zz1 => k_asm); (case zz2 => k_asm); (case zz3 => k_asm); (case zz4 => k_asm); (case zz5 => k_asm); (case zzK => first | assumption | exact rfl); (case zzd => ktr_room); (case zzu => ktr_units)); intro v9 h9 tk9 F9 N9 P9; obtain ⟨x9, t9, j9, P9, q9, e9, b9, c9⟩ := P9; subst P9; (try k_sweep); (try dsimp only); (try k_fold)))

set_option maxHeartbeats 4000000 in
theorem c_cal_a (w : World) (y mo : Int) (t u : Tok) (h1 : 1 ≤ y) (h2 : y ≤ 500000) (h3 : 1 ≤ mo) (h4 : mo ≤ 13) : Ctr PR w (hd.heap_39 w.params) 6 516 [.int y t, .int mo u] (fun _ => True) (fun add v => DatIn add v (leafJ (armJ y mo) (armLen y mo))) := by
  unfold Ctr
  intro p loose mean mg mb dp un gd cn cs a ccd cl outer A₀ base h₀ L m news s Q E B F X N T hk hd hu _ hret
  walk_at "m enter"
  k_steps
  refine hret _ _ _ _ (by k_asm) (by k_asm) (by assumption) ?_
  subst_vars
  rw [← leafJ_of]
  assumption


local macro_rules | `(tactic| walk_at "call ref") => `(tactic| (k_here; k_dflt (refine' c_use (c_cal_a _ _ _ _ _ ?zzh1 ?zzh2 ?zzh3 ?zzh4) ?zz1 ?zz2 ?zz3 ?zz4 ?zz5 ?zzK ?zzd ?zzu trivial ?_; (case zzh1 => walk_at "m arith"); (case zzh2 => walk_at "m arith"); (case zzh3 => walk_at "m arith"); (case zzh4 => walk_at "m arith"); (case zz1 => k_asm); (case zz2 => k_asm); (case zz3 => k_asm); (case zz4 => k_asm); (case zz5 => k_asm); (case zzK => first | assumption | exact rfl); (case zzd => ktr_room); (case zzu => ktr_units)); intro v9 add9 h9 tk9 F9 N9 A9 P9; (try k_sweep); (try dsimp only); (try k_fold)))


end Mine
end
section
open PySem PySem.W PyProof.Rows PySem.Calls PySem.Spec PyProof.Rows.LCg
set_option linter.unusedVariables false
set_option exponentiation.threshold 100
set_option maxRecDepth 100000
namespace Mine

local macro_rules | `(tactic| walk_at "m enter") => `(tactic| (refine wpAny_call ?_; k_dflt (first
  | (refine' code_def ?k1 ?k2 ?k3 ?k4 ?k5 ?kA ?kF ?kK ?k6 ?k7 ?k8 ?k9 ?kB ?_ ?c2 ?c3 ?c4 ?c5; (case kA => exact rfl); (case kF => exact rfl); (case kK => first | assumption | exact rfl); (case k1 => k_asm); (case k2 => k_asm); (case k3 => k_asm); (case k4 => k_asm); (case k5 => k_asm); (case k6 => k_is); (case k7 => k_is); (case k8 => ktr_room); (case k9 => first | exact BindsTo.of_eq rfl | exact binds_K (by k_in) rfl (by k_is) rfl rfl rfl); (case c5 => decide); (case kB => exact locs rfl); (case c2 => exact rfl); (case c3 => exact rfl); (case c4 => exact rfl); k_whole; intro g' L' h' FG' F' N' B' X' T'; (try dsimp only); (try k_lift B'); (try k_fold))
  | (refine' code_defC ?k1 ?k2 ?k3 ?k4 ?k5 ?kA ?kF ?kK ?k6 ?k7 ?k8 ?k9 ?kB ?kD ?_ ?c2 ?c3 ?c4; (case kA => exact rfl); (case kF => exact rfl); (case kK => first | assumption | exact rfl); (case k1 => k_asm); (case k2 => k_asm); (case k3 => k_asm); (case k4 => k_asm); (case k5 => k_asm); (case k6 => k_is); (case k7 => k_is); (case k8 => ktr_room); (case k9 => first | exact BindsTo.of_eq rfl | exact binds_K (by k_in) rfl (by k_is) rfl rfl rfl); (case kB => exact rfl); (case kD => decide +kernel); (case c2 => exact rfl); (case c3 => exact rfl); (case c4 => exact rfl); k_whole; intro g' L' h' tk' cells' FG' F' N' Y' B' X' T' l1; (have bn := (show Bnd L' _ from l1)); k_cells Y'; (try simp only [List.cons_append, List.nil_append] at N'); (try dsimp only); (try k_lift B'); (try k_fold)))))
local macro_rules | `(tactic| k_all) => `(tactic| exact Bnd.ne (by assumption) (by omega))
local macro_rules | `(tactic| k_mem) => `(tactic| first | assumption | (with_reducible refine List.mem_cons_of_mem _ ?_; k_mem) | (with_reducible refine List.mem_append_left _ ?_; k_mem) | (with_reducible refine List.mem_append_right _ ?_; k_mem))
local macro_rules | `(tactic| walk_at "m news") => `(tactic| first | k_asm | (refine' News.sub (by k_asm) ?_; intro p9 hp9; simp only [List.mem_cons, List.mem_append, hp9, or_true, true_or]))
local macro_rules | `(tactic| walk_at "m arith") => `(tactic| first | omega | ((try simp only [fmod_lit, fdiv_lit] at *); omega))
local macro_rules | `(tactic| walk_at "m len") => `(tactic| ((simp only [List.length_append, List.length_replicate, List.length_cons, List.length_nil, rangeKs_length]); (try simp only [IntsAre.length (by assumption)]); (try simp only [rangeKs_length, fmod_lit]); omega))
local macro_rules | `(tactic| walk_at "m size") => `(tactic| (rw [sizeLine_eq, List.size_toArray]; walk_at "m len"))
local macro_rules | `(tactic| walk_at "binaryOp Mult ref int") => `(tactic| (k_here; k_dflt (refine' m_mul1 ?zzF ?zzN ?zzl ?zza ?zzb ?_; (case zzF => k_asm); (case zzN => k_asm); (case zzl => k_mem); (case zza => walk_at "m arith"); (case zzb => walk_at "m arith")); intro D' h' F' N' l1; (try k_lt l1); (try dsimp only)))
local macro_rules | `(tactic| walk_at "binaryOp Mult int ref") => `(tactic| (k_here; k_dflt (refine' m_mul1r ?zzF ?zzN ?zzl ?zza ?zzb ?_; (case zzF => k_asm); (case zzN => k_asm); (case zzl => k_mem); (case zza => walk_at "m arith"); (case zzb => walk_at "m arith")); intro D' h' F' N' l1; (try k_lt l1); (try dsimp only)))
local macro_rules | `(tactic| walk_at "binaryOp Add ref ref") => `(tactic| (k_here; k_dflt (refine' m_add ?zzF ?zzN ?zzl ?zzb ?zzz ?_; (case zzF => k_asm); (case zzN => k_asm); (case zzl => k_mem); (case zzb => k_mem); (case zzz => walk_at "m len")); intro D' h' F' N' l1; (try k_lt l1); (try dsimp only)))
local macro_rules | `(tactic| walk_at "call type:list") => `(tactic| (k_here; (with_reducible show wpAny _ _ (call (Value.type "list") [Value.ref _]) _ _ _); k_dflt (refine' m_listRange ?zzhh ?zzF ?zzN ?zzr ?zzsm ?zzn ?zzle ?_; (case zzhh => exact rfl); (case zzF => k_asm); (case zzN => k_asm); (case zzr => assumption); (case zzn => exact range_size (by walk_at "m arith")); (case zzsm => exact range_small (by walk_at "m arith") (by walk_at "m arith")); (case zzle => walk_at "m arith")); intro D' h' tk' ys' c' F' N' l1 hI'; (try k_lt l1); (try dsimp only)))
local macro_rules | `(tactic| walk_at "m q4") => `(tactic| first
  | assumption
  | (first | exact q4_c0 | exact q4_c1 | exact q4_c2 | exact q4_c3 | exact q4_c4 | exact q4_c5 | exact q4_c6 | exact q4_c7 | exact q4_c8)
  | (with_reducible refine q4_ofInt _ ?_; walk_at "m arith")
  | (with_reducible refine q4_quarter _ ?_; walk_at "m arith")
  | (with_reducible apply q4_add; (focus walk_at "m q4"); (focus walk_at "m q4"); walk_at "m arith")
  | (with_reducible apply q4_sub; (focus walk_at "m q4"); (focus walk_at "m q4"); walk_at "m arith")
  | (with_reducible apply q4_mul; (focus walk_at "m q4"); (focus walk_at "m q4"); walk_at "m arith"))
local macro_rules | `(tactic| walk_at "call builtin:math.floor") => `(tactic| (k_here; (with_reducible show wpAny _ _ (call _ [Value.float _ _]) _ _ _); k_dflt (first
  | (refine m_floorG rfl (by assumption) (by assumption) (by omega) (by omega) ?_)
  | (refine m_floorJ rfl (by walk_at "m arith") (by walk_at "m arith") ?_)
  | (refine' m_floor rfl ?zzq ?_; (case zzq => walk_at "m q4"))
  | (refine m_floorQuot rfl (by walk_at "m arith") (by walk_at "m arith") ?_)); (try dsimp only)))
local macro_rules | `(tactic| walk_at "call builtin:math.ceil") => `(tactic| (k_here; (with_reducible show wpAny _ _ (call _ [Value.float _ _]) _ _ _); k_dflt (refine' m_ceil rfl ?zzq ?_; (case zzq => walk_at "m q4")); (try dsimp only)))
local macro_rules | `(tactic| walk_at "call builtin:math.trunc") => `(tactic| (k_here; (with_reducible show wpAny _ _ (call _ [Value.float _ _]) _ _ _); k_dflt (refine' m_trunc rfl ?zzq ?zzp ?_; (case zzq => walk_at "m q4"); (case zzp => walk_at "m arith")); (try dsimp only)))
local macro_rules | `(tactic| walk_at "compareOp In int ref") => `(tactic| (k_here; k_dflt (refine' in_tuple_ints ?zzt ?zzi ?_; (case zzt => exact tupK (Frag.In.keeps (by k_asm) (Fr.keep (by k_asm))) (by k_is)); (case zzi => repeat constructor)); (try dsimp only)))
local macro_rules | `(tactic| walk_at "compareOp Eq int ref") => `(tactic| (k_here; k_dflt (refine' m_eqOwn ?zzX ?zzu ?zzo ?zzt ?zzs ?zzf ?_; (case zzX => exact Frag.In.keeps (by k_asm) (Fr.keep (by k_asm))); (case zzu => ktr_units); (case zzo => k_is); (case zzt => k_is); (case zzs => k_is); (case zzf => k_is)); (try dsimp only)))
local macro_rules | `(tactic| walk_at "call type:datetime.date") => `(tactic| (k_here; k_dflt (refine' m_date ?zzF ?zzN ?zza ?zzb ?zzc ?zzd ?zze ?zzf ?_; (case zzF => k_asm); (case zzN => k_asm); (case zza => walk_at "m arith"); (case zzb => walk_at "m arith"); (case zzc => walk_at "m arith"); (case zzd => walk_at "m arith"); (case zze => walk_at "m arith"); (case zzf => walk_at "m arith")); intro D' h' F' N' l1; (try k_lt l1); (try dsimp only)))
local macro_rules | `(tactic| walk_at "getMethod ref") => `(tactic| (k_here; k_dflt (refine' m_weekdayM ?zzN ?zzm ?_; (case zzN => k_asm); (case zzm => k_mem)); (try dsimp only)))
local macro_rules | `(tactic| walk_at "call builtin:datetime.date.weekday") => `(tactic| (k_here; k_dflt (refine' m_weekday ?zzN ?zzm ?_; (case zzN => k_asm); (case zzm => k_mem)); intro k' t' k0' k1'; (try dsimp only)))
local macro_rules | `(tactic| walk_at "subscriptTail Name") => `(tactic| (k_here; (with_reducible show wpAny _ _ (subscriptTail _ _ (Value.ref _) (Value.int _ _)) _ _ _); k_dflt (refine' m_item_any ?zzt ?zza ?zzb ?zzc ?_; (case zzt => exact tupK (Frag.In.keeps (by k_asm) (Fr.keep (by k_asm))) (by k_is)); (case zza => assumption); (case zzb => (simp only [List.length_cons, List.length_nil]; omega)); (case zzc => decide)); intro v' m'; (try dsimp only)))
local macro_rules | `(tactic| walk_at "subscriptTail Name") => `(tactic| (k_here; (with_reducible show wpAny _ _ (subscriptTail _ _ (Value.ref _) (Value.int _ _)) _ _ _); k_dflt (refine' m_item_int ?zzt ?zzi ?zza ?zzb ?zzc ?_; (case zzt => exact lstK (Frag.In.keeps (by k_asm) (Fr.keep (by k_asm))) (by k_is)); (case zzi => repeat constructor); (case zza => omega); (case zzb => (simp only [List.length_cons, List.length_nil]; omega)); (case zzc => decide)); intro t'; (try dsimp only)))
local macro_rules | `(tactic| walk_at "call ref") => `(tactic| (k_here; walk_at "m enter"))

local macro_rules | `(tactic| walk_at "call ref") => `(tactic| (k_here; k_dflt (refine' c_use (c_helper _ _ _ _ _ ?zzh1 ?zzh2 ?zzh3 ?zzh4) ?zz1 ?zz2 ?zz3 ?zz4 ?zz5 ?zzK ?zzd ?zzu trivial ?_; (case zzh1 => walk_at "m arith"); (case zzh2 => walk_at "m arith"); (case zzh3 => walk_at "m arith"); (case zzh4 => walk_at "m arith"); (case zz1 => k_asm); (case zz2 => k_asm); (case zz3 => k_asm); (case zz4 => k_asm); (case zz5 => k_asm); (case zzK => first | assumption | exact rfl); (case zzd => ktr_room); (case zzu => ktr_units)); intro v9 add9 h9 tk9 F9 N9 A9 P9; (try k_sweep); (try dsimp only); (try k_fold)))

local macro_rules | `(tactic| walk_at "call ref") => `(tactic| (k_here; k_dflt (refine' c0_use (c_isleap _ _ _ ) ?zz1 ?zz2 ?zz3 ?zz4 ?zz5 ?zzK ?zzd ?zzu ?_; (case zz1 => k_asm); (case zz2 => k_asm); (case zz3 => k_asm); (case zz4 => k_asm); (case zz5 => k_asm); (case zzK => first | assumption | exact rfl); (case zzd => ktr_room); (case zzu => ktr_units)); intro v9 h9 tk9 F9 N9 P9; subst P9; (try k_sweep); (try dsimp only); (try k_fold)))
local macro_rules | `(tactic| walk_at "call ref") => `(tactic| (k_here; k_dflt (refine' c0_use (c_weekday _ _ _ _ _ _ ?zzh1 ?zzh2 ?zzh3 ?zzh4) ?zz1 ?zz2 ?zz3 ?zz4 ?zz5 ?zzK ?zzd ?zzu ?_; (case zzh1 => walk_at "m arith"); (case zzh2 => walk_at "m arith"); (case zzh3 => walk_at "m arith"); (case zzh4 => walk_at "m arith"); (case zz1 => k_asm); (case zz2 => k_asm); (case zz3 => k_asm); (case zz4 => k_asm); (case zz5 => k_asm); (case zzK => first | assumption | exact rfl); (case zzd => ktr_room); (case zzu => ktr_units)); intro v9 h9 tk9 F9 N9 P9; obtain ⟨a9, P9⟩ := P9; subst P9; (try k_sweep); (try dsimp only); (try k_fold)))
local macro_rules | `(tactic| walk_at "call ref") => `(tactic| (k_here; k_dflt (refine' c0_use (c_jwday _ _ _ _ ?zzhq ?zzh1 ?zzh2) ?zz1 ?zz2 ?zz3 ?zz4 ?zz5 ?zzK ?zzd ?zzu ?_; (case zzhq => assumption); (case zzh1 => walk_at "m arith"); (case zzh2 => walk_at "m arith"); (case zz1 => k_asm); (case zz2 => k_asm); (case zz3 => k_asm); (case zz4 => k_asm); (case zz5 => k_asm); (case zzK => first | assumption | exact rfl); (case zzd => ktr_room); (case zzu => ktr_units)); intro v9 h9 tk9 F9 N9 P9; obtain ⟨n9, t9, P9, e9⟩ := P9; subst P9; (try k_sweep); (try dsimp only); (try k_fold)))
local macro_rules | `(tactic| walk_at "call ref") => `(tactic| (k_here; k_dflt (refine' c0_use (c_legal_g _ _ _ _ _ _ _ ?zzh3 ?zzh4 ?zzh5 ?zzh6) ?zz1 ?zz2 ?zz3 ?zz4 ?zz5 ?zzK ?zzd ?zzu ?_; (case zzh3 => walk_at "m arith"); (case zzh4 => walk_at "m arith"); (case zzh5 => walk_at "m arith"); (case zzh6 => walk_at "m arith"); (case zz1 => k_asm); (case zz2 => k_asm); (case zz3 => k_asm); (case zz4 => k_asm); (case zz5 => k_asm); (case zzK => first | assumption | exact rfl); (case zzd => ktr_room); (case zzu => ktr_units)); intro v9 h9 tk9 F9 N9 P9; subst P9; (try k_sweep); (try dsimp only); (try k_fold)))
local macro_rules | `(tactic| walk_at "call ref") => `(tactic| (k_here; k_dflt (refine' c0_use (c_mlen_g _ _ _ _ _ ?zzh1 ?zzh2 ?zzh3 ?zzh4) ?zz1 ?zz2 ?zz3 ?zz4 ?zz5 ?zzK ?zzd ?zzu ?_; (case zzh1 => walk_at "m arith"); (case zzh2 => walk_at "m arith"); (case zzh3 => walk_at "m arith"); (case zzh4 => walk_at "m arith"); (case zz1 => k_asm); (case zz2 => k_asm); (case zz3 => k_asm); (case zz4 => k_asm); (case zz5 => k_asm); (case zzK => first | assumption | exact rfl); (case zzd => ktr_room); (case zzu => ktr_units)); intro v9 h9 tk9 F9 N9 P9; obtain ⟨n9, t9, P9, e9, b9, c9⟩ := P9; subst P9; (try k_sweep); (try dsimp only); (try k_fold)))
local macro_rules | `(tactic| walk_at "call ref") => `(tactic| (k_here; k_dflt (refine' c0_use (c_tojd_g _ _ _ _ _ _ _ ?zzh1 ?zzh2 ?zzh3 ?zzh4 ?zzh5) ?zz1 ?zz2 ?zz3 ?zz4 ?zz5 ?zzK ?zzd ?zzu ?_; (case zzh1 => walk_at "m arith"); (case zzh2 => walk_at "m arith"); (case zzh3 => walk_at "m arith"); (case zzh4 => walk_at "m arith"); (case zzh5 => walk_at "m arith"); (case zz1 => k_asm); (case zz2 => k_asm); (case zz3 => k_asm); (case zz4 => k_asm); (case zz5 => k_asm); (case zzK => first | assumption | exact rfl); (case zzd => ktr_room); (case zzu => ktr_units)); intro v9 h9 tk9 F9 N9 P9; obtain ⟨x9, t9, j9, P9, q9, e9, b9, c9⟩ := P9; subst P9; (try k_sweep); (try dsimp only); (try k_fold)))
local macro_rules | `(tactic| walk_at "call ref") => `(tactic| (k_here; k_dflt (refine' c_use (c_cal_g _ _ _ _ _ ?zzh1 ?zzh2 ?zzh3 ?zzh4) ?zz1 ?zz2 ?zz3 ?zz4 ?zz5 ?zzK ?zzd ?zzu trivial ?_; (case zzh1 => walk_at "m arith"); (case zzh2 => walk_at "m arith"); (case zzh3 => walk_at "m arith"); (case zzh4 => walk_at "m arith"); (case zz1 => k_asm); (case zz2 => k_asm); (case zz3 => k_asm); (case zz4 => k_asm); (case zz5 => k_asm); (case zzK => first | assumption | exact rfl); (case zzd => ktr_room); (case zzu => ktr_units)); intro v9 add9 h9 tk9 F9 N9 A9 P9; (try k_sweep); (try dsimp only); (try k_fold)))


set_option maxHeartbeats 4000000 in
theorem c_leap_s (w : World) (y : Int) (t : Tok) (h1 : 533 ≤ y) : Ctr0 PR w (hd.heap_39 w.params) 1 492 [.int y t] (fun v => v = .bool (y % 4 == 0)) := by
  unfold Ctr0
  intro p loose mean mg mb dp un gd cn cs a ccd cl outer A₀ base h₀ L m news s Q E B F X N T hk hd hu hret
  walk_at "m enter"
  k_steps
  all_goals first | (exfalso; omega) | (refine hret _ _ _ (by k_asm) (by walk_at "m news") ?_)
  all_goals rw [fmod_lit]


local macro_rules | `(tactic| walk_at "call ref") => `(tactic| (k_here; k_dflt (refine' c0_use (c_leap_s _ _ _ ?zzh1) ?zz1 ?zz2 ?zz3 ?zz4 ?zz5 ?zzK ?zzd ?zzu ?_; (case zzh1 => walk_at "m arith"); (case zz1 => k_asm); (case zz2 => k_asm); (case zz3 => k_asm); (case zz4 => k_asm); (case zz5 => k_asm); (case zzK => first | assumption | exact rfl); (case zzd => ktr_room); (case zzu => ktr_units)); intro v9 h9 tk9 F9 N9 P9; subst P9; (try k_sweep); (try dsimp only); (try k_fold)))

set_option maxHeartbeats 4000000 in
theorem c_valid_s (w : World) (y mo : Int) (t u v z : Tok) (h1 : 533 ≤ y) (h2 : y ≤ 500000) (h3 : 1 ≤ mo) (h4 : mo ≤ 13) : Ctr0 PR w (hd.heap_39 w.params) 2 485 [.int y t, .int mo u, .int 1 v, .str (Str.ofString "sarkawag") z] (fun v => v = .bool true) := by
  unfold Ctr0
  intro p loose mean mg mb dp un gd cn cs a ccd cl outer A₀ base h₀ L m news s Q E B F X N T hk hd hu hret
  walk_at "m enter"
  k_steps
  all_goals first | (exfalso; omega) | (refine hret _ _ _ (by k_asm) (by walk_at "m news") ?_)
  all_goals exact rfl


local macro_rules | `(tactic| walk_at "call ref") => `(tactic| (k_here; k_dflt (refine' c0_use (c_valid_s _ _ _ _ _ _ _ ?zzh1 ?zzh2 ?zzh3 ?zzh4) ?zz1 ?zz2 ?zz3 ?zz4 ?zz5 ?zzK ?zzd ?zzu ?_; (case zzh1 => walk_at "m arith"); (case zzh2 => walk_at "m arith"); (case zzh3 => walk_at "m arith"); (case zzh4 => walk_at "m arith"); (case zz1 => k_asm); (case zz2 => k_asm); (case zz3 => k_asm); (case zz4 => k_asm); (case zz5 => k_asm); (case zzK => first | assumption | exact rfl); (case zzd => ktr_room); (case zzu => ktr_units)); intro v9 h9 tk9 F9 N9 P9; subst P9; (try k_sweep); (try dsimp only); (try k_fold)))

set_option maxHeartbeats 4000000 in
theorem c_mlen_s (w : World) (y mo : Int) (t u z : Tok) (h1 : 533 ≤ y) (h2 : y ≤ 500000) (h3 : 1 ≤ mo) (h4 : mo ≤ 13) : Ctr0 PR w (hd.heap_39 w.params) 2 508 [.int y t, .int mo u, .str (Str.ofString "sarkawag") z] (fun v => ∃ n t, v = .int n t ∧ n = sarLen y mo ∧ 1 ≤ n ∧ n ≤ 31) := by
  unfold Ctr0
  intro p loose mean mg mb dp un gd cn cs a ccd cl outer A₀ base h₀ L m news s Q E B F X N T hk hd hu hret
  walk_at "m enter"
  k_steps
  all_goals first | (exfalso; omega) | (refine hret _ _ _ (by k_asm) (by walk_at "m news") ?_)
  all_goals (refine ⟨_, _, rfl, int_end ?_ (sarLen_b y mo)⟩)
  all_goals (unfold sarLen; (repeat' split) <;> omega)


local macro_rules | `(tactic| walk_at "call ref") => `(tactic| (k_here; k_dflt (refine' c0_use (c_mlen_s _ _ _ _ _ _ ?zzh1 ?zzh2 ?zzh3 ?zzh4) ?zz1 ?zz2 ?zz3 ?zz4 ?zz5 ?zzK ?zzd ?zzu ?_; (case zzh1 => walk_at "m arith"); (case zzh2 => walk_at "m arith"); (case zzh3 => walk_at "m arith"); (case zzh4 => walk_at "m arith"); (case zz1 => k_asm); (case zz2 => k_asm); (case zz3 => k_asm); (case zz4 => k_asm); (case zz5 => k_asm); (case zzK => first | assumption | exact rfl); (case zzd => ktr_room); (case zzu => ktr_units)); intro v9 h9 tk9 F9 N9 P9; obtain ⟨n9, t9, P9, e9, b9, c9⟩ := P9; subst P9; (try k_sweep); (try dsimp only); (try k_fold)))

set_option maxHeartbeats 4000000 in
theorem c_tojd_s (w : World) (y mo : Int) (t u v z : Tok) (h1 : 533 ≤ y) (h2 : y ≤ 500000) (h3 : 1 ≤ mo) (h4 : mo ≤ 13) : Ctr0 PR w (hd.heap_39 w.params) 4 500 [.int y t, .int mo u, .int 1 v, .str (Str.ofString "sarkawag") z] (fun v => ∃ x t j, v = .float x t ∧ Q4 x (4 * j - 2) ∧ j = sarJ y mo ∧ 0 ≤ j ∧ j ≤ 900000000) := by
  unfold Ctr0
  intro p loose mean mg mb dp un gd cn cs a ccd cl outer A₀ base h₀ L m news s Q E B F X N T hk hd hu hret
  walk_at "m enter"
  k_steps
  all_goals first | (exfalso; omega) | (refine hret _ _ _ (by k_asm) (by walk_at "m news") ?_)
  all_goals (refine ⟨_, _, sarJ y mo, rfl, q4_cast (by walk_at "m q4") ?_, rfl, ?_⟩)
  all_goals (unfold sarJ; (repeat' split) <;> omega)


local macro_rules | `(tactic| walk_at "call ref") => `(tactic| (k_here; k_dflt (refine' c0_use (c_tojd_s _ _ _ _ _ _ _ ?zzh1 ?zzh2 ?zzh3 ?zzh4) ?zz1 ?zz2 ?zz3 ?zz4 ?zz5 ?zzK ?zzd ?zzu ?_; (case zzh1 => walk_at "m arith"); (case zzh2 => walk_at "m arith"); (case zzh3 => walk_at "m arith"); (case zzh4 => walk_at "m arith"); (case zz1 => k_asm); (case zz2 => k_asm); (case zz3 => k_asm); (case zz4 => k_asm); (case zz5 => k_asm); (case zzK => first | assumption | exact rfl); (case zzd => ktr_room); (case zzu => ktr_units)); intro v9 h9 tk9 F9 N9 P9; obtain ⟨x9, t9, j9, P9, q9, e9, b9, c9⟩ := P9; subst P9; (try k_sweep); (try dsimp only); (try k_fold)))

set_option maxHeartbeats 4000000 in
theorem c_cal_s (w : World) (y mo : Int) (t u z : Tok) (h1 : 533 ≤ y) (h2 : y ≤ 500000) (h3 : 1 ≤ mo) (h4 : mo ≤ 13) : Ctr PR w (hd.heap_39 w.params) 6 516 [.int y t, .int mo u, .str (Str.ofString "sarkawag") z] (fun _ => True) (fun add v => DatIn add v (leafJ (sarJ y mo) (sarLen y mo))) := by
  unfold Ctr
  intro p loose mean mg mb dp un gd cn cs a ccd cl outer A₀ base h₀ L m news s Q E B F X N T hk hd hu _ hret
  walk_at "m enter"
  k_steps
  refine hret _ _ _ _ (by k_asm) (by k_asm) (by assumption) ?_
  subst_vars
  rw [← leafJ_of]
  assumption


local macro_rules | `(tactic| walk_at "call ref") => `(tactic| (k_here; k_dflt (refine' c_use (c_cal_s _ _ _ _ _ _ ?zzh1 ?zzh2 ?zzh3 ?zzh4) ?zz1 ?zz2 ?zz3 ?zz4 ?zz5 ?zzK ?zzd ?zzu trivial ?_; (case zzh1 => walk_at "m arith"); (case zzh2 => walk_at "m arith"); (case zzh3 => walk_at "m arith"); (case zzh4 => walk_at "m arith"); (case zz1 => k_asm); (case zz2 => k_asm); (case zz3 => k_asm); (case zz4 => k_asm); (case zz5 => k_asm); (case zzK => first | assumption | exact rfl); (case zzd => ktr_room); (case zzu => ktr_units)); intro v9 add9 h9 tk9 F9 N9 A9 P9; (try k_sweep); (try dsimp only); (try k_fold)))


end Mine
end
section
open PySem PySem.W PyProof.Rows PySem.Calls PySem.Spec PyProof.Rows.LCg PyProof.Rows.LCt
set_option linter.unusedVariables false
set_option exponentiation.threshold 100
set_option maxRecDepth 100000
namespace Mine

local macro_rules | `(tactic| walk_at "m enter") => `(tactic| (refine wpAny_call ?_; k_dflt (first
  | (refine' code_def ?k1 ?k2 ?k3 ?k4 ?k5 ?kA ?kF ?kK ?k6 ?k7 ?k8 ?k9 ?kB ?_ ?c2 ?c3 ?c4 ?c5; (case kA => exact rfl); (case kF => exact rfl); (case kK => first | assumption | exact rfl); (case k1 => k_asm); (case k2 => k_asm); (case k3 => k_asm); (case k4 => k_asm); (case k5 => k_asm); (case k6 => k_is); (case k7 => k_is); (case k8 => ktr_room); (case k9 => first | exact BindsTo.of_eq rfl | exact binds_K (by k_in) rfl (by k_is) rfl rfl rfl); (case c5 => decide); (case kB => exact locs rfl); (case c2 => exact rfl); (case c3 => exact rfl); (case c4 => exact rfl); k_whole; intro g' L' h' FG' F' N' B' X' T'; (try dsimp only); (try k_lift B'); (try k_fold))
  | (refine' code_defC ?k1 ?k2 ?k3 ?k4 ?k5 ?kA ?kF ?kK ?k6 ?k7 ?k8 ?k9 ?kB ?kD ?_ ?c2 ?c3 ?c4; (case kA => exact rfl); (case kF => exact rfl); (case kK => first | assumption | exact rfl); (case k1 => k_asm); (case k2 => k_asm); (case k3 => k_asm); (case k4 => k_asm); (case k5 => k_asm); (case k6 => k_is); (case k7 => k_is); (case k8 => ktr_room); (case k9 => first | exact BindsTo.of_eq rfl | exact binds_K (by k_in) rfl (by k_is) rfl rfl rfl); (case kB => exact rfl); (case kD => decide +kernel); (case c2 => exact rfl); (case c3 => exact rfl); (case c4 => exact rfl); k_whole; intro g' L' h' tk' cells' FG' F' N' Y' B' X' T' l1; (have bn := (show Bnd L' _ from l1)); k_cells Y'; (try simp only [List.cons_append, List.nil_append] at N'); (try dsimp only); (try k_lift B'); (try k_fold)))))
local macro_rules | `(tactic| k_all) => `(tactic| exact Bnd.ne (by assumption) (by omega))
local macro_rules | `(tactic| k_mem) => `(tactic| first | assumption | (with_reducible refine List.mem_cons_of_mem _ ?_; k_mem) | (with_reducible refine List.mem_append_left _ ?_; k_mem) | (with_reducible refine List.mem_append_right _ ?_; k_mem))
local macro_rules | `(tactic| walk_at "m news") => `(tactic| first | k_asm | (refine' News.sub (by k_asm) ?_; intro p9 hp9; simp only [List.mem_cons, List.mem_append, hp9, or_true, true_or]))
local macro_rules | `(tactic| walk_at "m arith") => `(tactic| first | omega | ((try simp only [fmod_lit, fdiv_lit] at *); omega))
local macro_rules | `(tactic| walk_at "m len") => `(tactic| ((simp only [List.length_append, List.length_replicate, List.length_cons, List.length_nil, rangeKs_length]); (try simp only [IntsAre.length (by assumption)]); (try simp only [rangeKs_length, fmod_lit]); omega))
local macro_rules | `(tactic| walk_at "m size") => `(tactic| (rw [sizeLine_eq, List.size_toArray]; walk_at "m len"))
local macro_rules | `(tactic| walk_at "binaryOp Mult ref int") => `(tactic| (k_here; k_dflt (refine' m_mul1 ?zzF ?zzN ?zzl ?zza ?zzb ?_; (case zzF => k_asm); (case zzN => k_asm); (case zzl => k_mem); (case zza => walk_at "m arith"); (case zzb => walk_at "m arith")); intro D' h' F' N' l1; (try k_lt l1); (try dsimp only)))
local macro_rules | `(tactic| walk_at "binaryOp Mult int ref") => `(tactic| (k_here; k_dflt (refine' m_mul1r ?zzF ?zzN ?zzl ?zza ?zzb ?_; (case zzF => k_asm); (case zzN => k_asm); (case zzl => k_mem); (case zza => walk_at "m arith"); (case zzb => walk_at "m arith")); intro D' h' F' N' l1; (try k_lt l1); (try dsimp only)))
local macro_rules | `(tactic| walk_at "binaryOp Add ref ref") => `(tactic| (k_here; k_dflt (refine' m_add ?zzF ?zzN ?zzl ?zzb ?zzz ?_; (case zzF => k_asm); (case zzN => k_asm); (case zzl => k_mem); (case zzb => k_mem); (case zzz => walk_at "m len")); intro D' h' F' N' l1; (try k_lt l1); (try dsimp only)))
local macro_rules | `(tactic| walk_at "call type:list") => `(tactic| (k_here; (with_reducible show wpAny _ _ (call (Value.type "list") [Value.ref _]) _ _ _); k_dflt (refine' m_listRange ?zzhh ?zzF ?zzN ?zzr ?zzsm ?zzn ?zzle ?_; (case zzhh => exact rfl); (case zzF => k_asm); (case zzN => k_asm); (case zzr => assumption); (case zzn => exact range_size (by walk_at "m arith")); (case zzsm => exact range_small (by walk_at "m arith") (by walk_at "m arith")); (case zzle => walk_at "m arith")); intro D' h' tk' ys' c' F' N' l1 hI'; (try k_lt l1); (try dsimp only)))
local macro_rules | `(tactic| walk_at "m q4") => `(tactic| first
  | assumption
  | (first | exact q4_c0 | exact q4_c1 | exact q4_c2 | exact q4_c3 | exact q4_c4 | exact q4_c5 | exact q4_c6 | exact q4_c7 | exact q4_c8)
  | (with_reducible refine q4_ofInt _ ?_; walk_at "m arith")
  | (with_reducible refine q4_quarter _ ?_; walk_at "m arith")
  | (with_reducible apply q4_add; (focus walk_at "m q4"); (focus walk_at "m q4"); walk_at "m arith")
  | (with_reducible apply q4_sub; (focus walk_at "m q4"); (focus walk_at "m q4"); walk_at "m arith")
  | (with_reducible apply q4_mul; (focus walk_at "m q4"); (focus walk_at "m q4"); walk_at "m arith"))
local macro_rules | `(tactic| walk_at "call builtin:math.floor") => `(tactic| (k_here; (with_reducible show wpAny _ _ (call _ [Value.float _ _]) _ _ _); k_dflt (first
  | (refine m_floorG rfl (by assumption) (by assumption) (by omega) (by omega) ?_)
  | (refine m_floorJ rfl (by walk_at "m arith") (by walk_at "m arith") ?_)
  | (refine' m_floor rfl ?zzq ?_; (case zzq => walk_at "m q4"))
  | (refine m_floorQuot rfl (by walk_at "m arith") (by walk_at "m arith") ?_)); (try dsimp only)))
local macro_rules | `(tactic| walk_at "call builtin:math.ceil") => `(tactic| (k_here; (with_reducible show wpAny _ _ (call _ [Value.float _ _]) _ _ _); k_dflt (refine' m_ceil rfl ?zzq ?_; (case zzq => walk_at "m q4")); (try dsimp only)))
local macro_rules | `(tactic| walk_at "call builtin:math.trunc") => `(tactic| (k_here; (with_reducible show wpAny _ _ (call _ [Value.float _ _]) _ _ _); k_dflt (refine' m_trunc rfl ?zzq ?zzp ?_; (case zzq => walk_at "m q4"); (case zzp => walk_at "m arith")); (try dsimp only)))
local macro_rules | `(tactic| walk_at "compareOp In int ref") => `(tactic| (k_here; k_dflt (refine' in_tuple_ints ?zzt ?zzi ?_; (case zzt => exact tupK (Frag.In.keeps (by k_asm) (Fr.keep (by k_asm))) (by k_is)); (case zzi => repeat constructor)); (try dsimp only)))
local macro_rules | `(tactic| walk_at "compareOp Eq int ref") => `(tactic| (k_here; k_dflt (refine' m_eqOwn ?zzX ?zzu ?zzo ?zzt ?zzs ?zzf ?_; (case zzX => exact Frag.In.keeps (by k_asm) (Fr.keep (by k_asm))); (case zzu => ktr_units); (case zzo => k_is); (case zzt => k_is); (case zzs => k_is); (case zzf => k_is)); (try dsimp only)))
local macro_rules | `(tactic| walk_at "call type:datetime.date") => `(tactic| (k_here; k_dflt (refine' m_date ?zzF ?zzN ?zza ?zzb ?zzc ?zzd ?zze ?zzf ?_; (case zzF => k_asm); (case zzN => k_asm); (case zza => walk_at "m arith"); (case zzb => walk_at "m arith"); (case zzc => walk_at "m arith"); (case zzd => walk_at "m arith"); (case zze => walk_at "m arith"); (case zzf => walk_at "m arith")); intro D' h' F' N' l1; (try k_lt l1); (try dsimp only)))
local macro_rules | `(tactic| walk_at "getMethod ref") => `(tactic| (k_here; k_dflt (refine' m_weekdayM ?zzN ?zzm ?_; (case zzN => k_asm); (case zzm => k_mem)); (try dsimp only)))
local macro_rules | `(tactic| walk_at "call builtin:datetime.date.weekday") => `(tactic| (k_here; k_dflt (refine' m_weekday ?zzN ?zzm ?_; (case zzN => k_asm); (case zzm => k_mem)); intro k' t' k0' k1'; (try dsimp only)))
local macro_rules | `(tactic| walk_at "subscriptTail Name") => `(tactic| (k_here; (with_reducible show wpAny _ _ (subscriptTail _ _ (Value.ref _) (Value.int _ _)) _ _ _); k_dflt (refine' m_item_any ?zzt ?zza ?zzb ?zzc ?_; (case zzt => exact tupK (Frag.In.keeps (by k_asm) (Fr.keep (by k_asm))) (by k_is)); (case zza => assumption); (case zzb => (simp only [List.length_cons, List.length_nil]; omega)); (case zzc => decide)); intro v' m'; (try dsimp only)))
local macro_rules | `(tactic| walk_at "subscriptTail Name") => `(tactic| (k_here; (with_reducible show wpAny _ _ (subscriptTail _ _ (Value.ref _) (Value.int _ _)) _ _ _); k_dflt (refine' m_item_int ?zzt ?zzi ?zza ?zzb ?zzc ?_; (case zzt => exact lstK (Frag.In.keeps (by k_asm) (Fr.keep (by k_asm))) (by k_is)); (case zzi => repeat constructor); (case zza => omega); (case zzb => (simp only [List.length_cons, List.length_nil]; omega)); (case zzc => decide)); intro t'; (try dsimp only)))
local macro_rules | `(tactic| walk_at "call ref") => `(tactic| (k_here; walk_at "m enter"))

theorem leafJ_list (j n : Int) : leafJ j n = .list ((leafL ((j + 1) % 7).toNat n.toNat).map rowD) := rfl

section
local macro_rules | `(tactic| walk_at "subscriptTail Name") => `(tactic| (k_here; k_dflt (refine' m_itemP ?zzN ?zzm ?zza ?zzx ?_; (case zzN => k_asm); (case zzm => k_mem); (case zza => decide); (case zzx => assumption)); (try dsimp only)))
local macro_rules | `(tactic| walk_at "subscriptTail Name") => `(tactic| (k_here; k_dflt (refine' m_itemN ?zzN ?zzm ?zza ?zzb ?zzx ?_; (case zzN => k_asm); (case zzm => k_mem); (case zza => decide); (case zzx => assumption); (case zzb => omega)); (try dsimp only)))
local macro_rules | `(tactic| walk_at "call builtin:list.index") => `(tactic| (k_here; k_dflt (refine' m_index ?zzN ?zzm ?zzd ?zzl ?zz1 ?zz0 ?zzr ?_; (case zzN => k_asm); (case zzm => k_mem); (case zzd => assumption); (case zzl => omega); (case zz1 => assumption); (case zz0 => assumption); (case zzr => assumption)); (try dsimp only)))
local macro_rules | `(tactic| walk_at "exec Assign cons ListComp") => `(tactic| (k_here; k_dflt (refine LCt.Assign_ListComp_T (F₀ := by k_asm) (by rfl) (by with_unfolding_all rfl) (by with_unfolding_all rfl) (by decide) (by rfl) (by decide) (by rfl) (by rfl) (by rfl) ?_)))
set_option maxHeartbeats 4000000 in
theorem c_first (w : World) (al : Addr) (j n : Int) (h1 : 1 ≤ n) (h2 : n ≤ 31) : Ctr PR w (hd.heap_39 w.params) 1 607 [.ref al] (fun news => DatIn news (.ref al) (leafJ j n)) (fun add v => ∃ D t u c, v = .ref D ∧ (D, listOf [.int ((j + 1) % 7) t, .int n u].toArray c) ∈ add) := by
  unfold Ctr
  intro p loose mean mg mb dp un gd cn cs a ccd cl outer A₀ base h₀ L m news s Q E B F X N T hk hd hu hpre hret
  rw [leafJ_list] at hpre
  obtain ⟨al', vs, kl, e0, hm, hd9⟩ := datIn_list hpre
  cases e0
  have lf := leafF (lp := ((j + 1) % 7).toNat) (n := n.toNat) (by omega) (by omega) (by omega)
  have hlen : vs.length = (leafL ((j + 1) % 7).toNat n.toNat).length := by rw [datAll_len hd9, List.length_map]
  obtain ⟨v0, hv0, d0⟩ := datAll_get hd9 0 (rowD (rowAt ((j + 1) % 7).toNat n.toNat 0)) (by rw [List.getElem?_map, lf.row0]; rfl)
  obtain ⟨b0, w0, k0, e0, hm0, hd0⟩ := datIn_list d0
  obtain ⟨v1, hv1, d1⟩ := datAll_get hd9 _ (rowD (rowAt ((j + 1) % 7).toNat n.toNat (lastAt ((j + 1) % 7).toNat n.toNat))) (by rw [List.getElem?_map, lf.rowN]; rfl)
  obtain ⟨b1, w1, k1, e1, hm1, hd1⟩ := datIn_list d1
  subst e0 e1
  have x0 : vs[(0 : Int).toNat]? = some (.ref b0) := hv0
  have x1 : vs[(-1 + (vs.length : Int)).toNat]? = some (.ref b1) := by
    rw [show (-1 + (vs.length : Int)).toNat = lastAt ((j + 1) % 7).toNat n.toNat by have := lf.some; unfold lastAt; omega]
    exact hv1
  have hpos : 1 ≤ vs.length := by have := lf.some; omega
  have s0 := lf.short0
  have s1 := lf.shortN
  have i1 := lf.one
  have i0 := lf.before
  have er : ((((j + 1) % 7).toNat : Nat) : Int) = (j + 1) % 7 := Int.toNat_of_nonneg (by omega)
  walk_at "m enter"
  k_steps
  refine comp_some rfl (by k_asm) (by k_asm) (by k_mem) hd1 (by omega) ?_ ?_ (by decide) ?_
  · intro _; rfl
  · intro _; rfl
  intro g9 ys hy
  have hy1 := lf.last
  have hy2 := lf.seen1
  have hyl : ys.length = (seen ((j + 1) % 7).toNat n.toNat).length := by rw [datAll_len hy, List.length_map]; rfl
  obtain ⟨vl, hvl, dl⟩ := datAll_get hy _ (cellD (some ((n.toNat : Nat) : Int))) (by rw [List.getElem?_map]; exact congrArg (Option.map cellD) hy1)
  obtain ⟨tl, etl⟩ : ∃ t, vl = .int n t := by
    rcases datIn_cell dl with ⟨_, q⟩ | ⟨i, t, q, r⟩
    · cases q
    · cases r
      refine ⟨t, ?_⟩
      rw [q]
      congr 1
      omega
  subst etl
  have x2 : ys[(-1 + (ys.length : Int)).toNat]? = some (.int n tl) := by
    rw [show (-1 + (ys.length : Int)).toNat = (seen ((j + 1) % 7).toNat n.toNat).length - 1 by omega]
    exact hvl
  have hpos2 : 1 ≤ ys.length := by omega
  k_steps
  have q := (by assumption : _ ∧ AllLt _ news)
  exact fin_one hret (by k_asm) (by k_asm) List.mem_cons_self (fun p9 hp9 => List.mem_cons_of_mem _ (List.mem_cons_of_mem _ hp9)) q.2 ⟨_, _, _, _, rfl, List.mem_singleton.mpr rfl⟩
end

end Mine
end
section
open PySem PySem.W PyProof.Rows PySem.Calls PySem.Spec PyProof.Rows.LCg PyProof.Rows.LCt
set_option linter.unusedVariables false
set_option exponentiation.threshold 100
set_option maxRecDepth 100000
namespace Mine

local macro_rules | `(tactic| walk_at "m enter") => `(tactic| (refine wpAny_call ?_; k_dflt (first
  | (refine' code_def ?k1 ?k2 ?k3 ?k4 ?k5 ?kA ?kF ?kK ?k6 ?k7 ?k8 ?k9 ?kB ?_ ?c2 ?c3 ?c4 ?c5; (case kA => exact rfl); (case kF => exact rfl); (case kK => first | assumption | exact rfl); (case k1 => k_asm); (case k2 => k_asm); (case k3 => k_asm); (case k4 => k_asm); (case k5 => k_asm); (case k6 => k_is); (case k7 => k_is); (case k8 => ktr_room); (case k9 => first | exact BindsTo.of_eq rfl | exact binds_K (by k_in) rfl (by k_is) rfl rfl rfl); (case c5 => decide); (case kB => exact locs rfl); (case c2 => exact rfl); (case c3 => exact rfl); (case c4 => exact rfl); k_whole; intro g' L' h' FG' F' N' B' X' T'; (try dsimp only); (try k_lift B'); (try k_fold))
  | (refine' code_defC ?k1 ?k2 ?k3 ?k4 ?k5 ?kA ?kF ?kK ?k6 ?k7 ?k8 ?k9 ?kB ?kD ?_ ?c2 ?c3 ?c4; (case kA => exact rfl); (case kF => exact rfl); (case kK => first | assumption | exact rfl); (case k1 => k_asm); (case k2 => k_asm); (case k3 => k_asm); (case k4 => k_asm); (case k5 => k_asm); (case k6 => k_is); (case k7 => k_is); (case k8 => ktr_room); (case k9 => first | exact BindsTo.of_eq rfl | exact binds_K (by k_in) rfl (by k_is) rfl rfl rfl); (case kB => exact rfl); (case kD => decide +kernel); (case c2 => exact rfl); (case c3 => exact rfl); (case c4 => exact rfl); k_whole; intro g' L' h' tk' cells' FG' F' N' Y' B' X' T' l1; (have bn := (show Bnd L' _ from l1)); k_cells Y'; (try simp only [List.cons_append, List.nil_append] at N'); (try dsimp only); (try k_lift B'); (try k_fold)))))
local macro_rules | `(tactic| k_all) => `(tactic| exact Bnd.ne (by assumption) (by omega))
local macro_rules | `(tactic| k_mem) => `(tactic| first | assumption | (with_reducible refine List.mem_cons_of_mem _ ?_; k_mem) | (with_reducible refine List.mem_append_left _ ?_; k_mem) | (with_reducible refine List.mem_append_right _ ?_; k_mem))
local macro_rules | `(tactic| walk_at "m news") => `(tactic| first | k_asm | (refine' News.sub (by k_asm) ?_; intro p9 hp9; simp only [List.mem_cons, List.mem_append, hp9, or_true, true_or]))
local macro_rules | `(tactic| walk_at "m arith") => `(tactic| first | omega | ((try simp only [fmod_lit, fdiv_lit] at *); omega))
local macro_rules | `(tactic| walk_at "m len") => `(tactic| ((simp only [List.length_append, List.length_replicate, List.length_cons, List.length_nil, rangeKs_length]); (try simp only [IntsAre.length (by assumption)]); (try simp only [rangeKs_length, fmod_lit]); omega))
local macro_rules | `(tactic| walk_at "m size") => `(tactic| (rw [sizeLine_eq, List.size_toArray]; walk_at "m len"))
local macro_rules | `(tactic| walk_at "binaryOp Mult ref int") => `(tactic| (k_here; k_dflt (refine' m_mul1 ?zzF ?zzN ?zzl ?zza ?zzb ?_; (case zzF => k_asm); (case zzN => k_asm); (case zzl => k_mem); (case zza => walk_at "m arith"); (case zzb => walk_at "m arith")); intro D' h' F' N' l1; (try k_lt l1); (try dsimp only)))
local macro_rules | `(tactic| walk_at "binaryOp Mult int ref") => `(tactic| (k_here; k_dflt (refine' m_mul1r ?zzF ?zzN ?zzl ?zza ?zzb ?_; (case zzF => k_asm); (case zzN => k_asm); (case zzl => k_mem); (case zza => walk_at "m arith"); (case zzb => walk_at "m arith")); intro D' h' F' N' l1; (try k_lt l1); (try dsimp only)))
local macro_rules | `(tactic| walk_at "binaryOp Add ref ref") => `(tactic| (k_here; k_dflt (refine' m_add ?zzF ?zzN ?zzl ?zzb ?zzz ?_; (case zzF => k_asm); (case zzN => k_asm); (case zzl => k_mem); (case zzb => k_mem); (case zzz => walk_at "m len")); intro D' h' F' N' l1; (try k_lt l1); (try dsimp only)))
local macro_rules | `(tactic| walk_at "call type:list") => `(tactic| (k_here; (with_reducible show wpAny _ _ (call (Value.type "list") [Value.ref _]) _ _ _); k_dflt (refine' m_listRange ?zzhh ?zzF ?zzN ?zzr ?zzsm ?zzn ?zzle ?_; (case zzhh => exact rfl); (case zzF => k_asm); (case zzN => k_asm); (case zzr => assumption); (case zzn => exact range_size (by walk_at "m arith")); (case zzsm => exact range_small (by walk_at "m arith") (by walk_at "m arith")); (case zzle => walk_at "m arith")); intro D' h' tk' ys' c' F' N' l1 hI'; (try k_lt l1); (try dsimp only)))
local macro_rules | `(tactic| walk_at "m q4") => `(tactic| first
  | assumption
  | (first | exact q4_c0 | exact q4_c1 | exact q4_c2 | exact q4_c3 | exact q4_c4 | exact q4_c5 | exact q4_c6 | exact q4_c7 | exact q4_c8)
  | (with_reducible refine q4_ofInt _ ?_; walk_at "m arith")
  | (with_reducible refine q4_quarter _ ?_; walk_at "m arith")
  | (with_reducible apply q4_add; (focus walk_at "m q4"); (focus walk_at "m q4"); walk_at "m arith")
  | (with_reducible apply q4_sub; (focus walk_at "m q4"); (focus walk_at "m q4"); walk_at "m arith")
  | (with_reducible apply q4_mul; (focus walk_at "m q4"); (focus walk_at "m q4"); walk_at "m arith"))
local macro_rules | `(tactic| walk_at "call builtin:math.floor") => `(tactic| (k_here; (with_reducible show wpAny _ _ (call _ [Value.float _ _]) _ _ _); k_dflt (first
  | (refine m_floorG rfl (by assumption) (by assumption) (by omega) (by omega) ?_)
  | (refine m_floorJ rfl (by walk_at "m arith") (by walk_at "m arith") ?_)
  | (refine' m_floor rfl ?zzq ?_; (case zzq => walk_at "m q4"))
  | (refine m_floorQuot rfl (by walk_at "m arith") (by walk_at "m arith") ?_)); (try dsimp only)))
local macro_rules | `(tactic| walk_at "call builtin:math.ceil") => `(tactic| (k_here; (with_reducible show wpAny _ _ (call _ [Value.float _ _]) _ _ _); k_dflt (refine' m_ceil rfl ?zzq ?_; (case zzq => walk_at "m q4")); (try dsimp only)))
local macro_rules | `(tactic| walk_at "call builtin:math.trunc") => `(tactic| (k_here; (with_reducible show wpAny _ _ (call _ [Value.float _ _]) _ _ _); k_dflt (refine' m_trunc rfl ?zzq ?zzp ?_; (case zzq => walk_at "m q4"); (case zzp => walk_at "m arith")); (try dsimp only)))
local macro_rules | `(tactic| walk_at "compareOp In int ref") => `(tactic| (k_here; k_dflt (refine' in_tuple_ints ?zzt ?zzi ?_; (case zzt => exact tupK (Frag.In.keeps (by k_asm) (Fr.keep (by k_asm))) (by k_is)); (case zzi => repeat constructor)); (try dsimp only)))
local macro_rules | `(tactic| walk_at "compareOp Eq int ref") => `(tactic| (k_here; k_dflt (refine' m_eqOwn ?zzX ?zzu ?zzo ?zzt ?zzs ?zzf ?_; (case zzX => exact Frag.In.keeps (by k_asm) (Fr.keep (by k_asm))); (case zzu => ktr_units); (case zzo => k_is); (case zzt => k_is); (case zzs => k_is); (case zzf => k_is)); (try dsimp only)))
local macro_rules | `(tactic| walk_at "call type:datetime.date") => `(tactic| (k_here; k_dflt (refine' m_date ?zzF ?zzN ?zza ?zzb ?zzc ?zzd ?zze ?zzf ?_; (case zzF => k_asm); (case zzN => k_asm); (case zza => walk_at "m arith"); (case zzb => walk_at "m arith"); (case zzc => walk_at "m arith"); (case zzd => walk_at "m arith"); (case zze => walk_at "m arith"); (case zzf => walk_at "m arith")); intro D' h' F' N' l1; (try k_lt l1); (try dsimp only)))
local macro_rules | `(tactic| walk_at "getMethod ref") => `(tactic| (k_here; k_dflt (refine' m_weekdayM ?zzN ?zzm ?_; (case zzN => k_asm); (case zzm => k_mem)); (try dsimp only)))
local macro_rules | `(tactic| walk_at "call builtin:datetime.date.weekday") => `(tactic| (k_here; k_dflt (refine' m_weekday ?zzN ?zzm ?_; (case zzN => k_asm); (case zzm => k_mem)); intro k' t' k0' k1'; (try dsimp only)))
local macro_rules | `(tactic| walk_at "subscriptTail Name") => `(tactic| (k_here; (with_reducible show wpAny _ _ (subscriptTail _ _ (Value.ref _) (Value.int _ _)) _ _ _); k_dflt (refine' m_item_any ?zzt ?zza ?zzb ?zzc ?_; (case zzt => exact tupK (Frag.In.keeps (by k_asm) (Fr.keep (by k_asm))) (by k_is)); (case zza => assumption); (case zzb => (simp only [List.length_cons, List.length_nil]; omega)); (case zzc => decide)); intro v' m'; (try dsimp only)))
local macro_rules | `(tactic| walk_at "subscriptTail Name") => `(tactic| (k_here; (with_reducible show wpAny _ _ (subscriptTail _ _ (Value.ref _) (Value.int _ _)) _ _ _); k_dflt (refine' m_item_int ?zzt ?zzi ?zza ?zzb ?zzc ?_; (case zzt => exact lstK (Frag.In.keeps (by k_asm) (Fr.keep (by k_asm))) (by k_is)); (case zzi => repeat constructor); (case zza => omega); (case zzb => (simp only [List.length_cons, List.length_nil]; omega)); (case zzc => decide)); intro t'; (try dsimp only)))
local macro_rules | `(tactic| walk_at "call ref") => `(tactic| (k_here; walk_at "m enter"))

section
local macro_rules | `(tactic| walk_at "m none") => `(tactic| fail)
local macro_rules | `(tactic| walk_at "call ref") => `(tactic| (k_here; k_dflt (refine' c_use (c_first _ _ _ _ ?zzh1 ?zzh2) ?zz1 ?zz2 ?zz3 ?zz4 ?zz5 ?zzK ?zzd ?zzu ?zzp ?_; (case zz1 => k_asm); (case zz2 => k_asm); (case zz3 => k_asm); (case zz4 => k_asm); (case zz5 => k_asm); (case zzp => first | assumption | (refine' DatIn.mono ?_ (by assumption); intro p9 hp9; simp only [List.mem_cons, List.mem_append, hp9, or_true, true_or])); (case zzh1 => assumption); (case zzh2 => assumption); (case zzK => first | assumption | exact rfl); (case zzd => ktr_room); (case zzu => ktr_units)); intro v9 add9 h9 tk9 F9 N9 A9 P9; (obtain ⟨D9, t9, u9, c9, e9, m9⟩ := P9); subst e9; (try k_sweep); (try dsimp only); (try k_fold)))
local macro_rules | `(tactic| walk_at "subscriptTail Name") => `(tactic| (k_here; k_dflt (refine' m_itemP ?zzN ?zzm ?zza ?zzx ?_; (case zzN => k_asm); (case zzm => k_mem); (case zza => decide); (case zzx => exact rfl)); (try dsimp only)))
local macro_rules | `(tactic| walk_at "m sub") => `(tactic| (intro p9 hp9; simp only [List.mem_cons, List.mem_append, hp9, or_true, true_or]))
local macro_rules | `(tactic| walk_at "compareOp Eq ref ref") => `(tactic| (k_here; k_dflt (refine' m_eqLeaf ?zzN ?zza ?zzb ?zzc ?zzd ?zze ?zzf ?zzg ?_; (case zzN => k_asm); (case zza => assumption); (case zzc => assumption); (case zzb => walk_at "m sub"); (case zzd => walk_at "m sub"); (case zze => ktr_units); (case zzf => assumption); (case zzg => assumption)); (try dsimp only)))
set_option maxHeartbeats 4000000 in
theorem c_on (w : World) (al bl : Addr) (j1 j2 n more : Int) (t : Tok) (h1 : 1 ≤ n) (h2 : n ≤ 31) (hj : j2 % 7 = (j1 + more) % 7) : Ctr PR w (hd.heap_39 w.params) 2 614 [.ref al, .ref bl, .int more t] (fun news => DatIn news (.ref al) (leafJ j1 n) ∧ DatIn news (.ref bl) (leafJ j2 n)) (fun add v => v = .bool true) := by
  unfold Ctr
  intro p loose mean mg mb dp un gd cn cs a ccd cl outer A₀ base h₀ L m news s Q E B F X N T hk hd hu hpre hret
  obtain ⟨hp1, hp2⟩ := hpre
  walk_at "m enter"
  k_steps
  · have e : (decide (j2 % 7 = j1 % 7) == (more.fmod 7 == 0)) = true := by
      rw [fmod_lit]
      by_cases q : j2 % 7 = j1 % 7
      · rw [decide_eq_true q, show (more % 7 == 0) = true from by rw [beq_iff_eq]; omega]; rfl
      · rw [decide_eq_false q, show (more % 7 == 0) = false from by rw [beq_eq_false_iff_ne]; omega]; rfl
    rw [e]
    exact hret _ [] _ _ (by k_asm) (News.sub (by k_asm) (fun p9 hp9 => by simp only [List.mem_append, List.nil_append] at hp9 ⊢; simp only [hp9, or_true])) (fun p9 hp9 => absurd hp9 List.not_mem_nil) rfl
  · exact absurd rfl (by assumption)
  · exfalso
    have q9 := (by assumption : (j2 + 1) % 7 ≠ ((j1 + 1) % 7 + more).fmod 7)
    rw [fmod_lit] at q9
    omega
end

end Mine
end
section
open PySem PySem.W PyProof.Rows PySem.Calls PySem.Spec PyProof.Rows.LCg PyProof.Rows.LCt
set_option linter.unusedVariables false
set_option exponentiation.threshold 100
set_option maxRecDepth 100000
namespace Mine

section
local macro_rules | `(tactic| walk_at "m arith") => `(tactic| omega)
local macro_rules | `(tactic| walk_at "m sub") => `(tactic| (intro p9 hp9; simp only [List.mem_cons, List.mem_append, hp9, or_true, true_or]))
local macro_rules | `(tactic| walk_at "m on") => `(tactic| first | exact gOn _ _ _ _ | exact dOn _ _ _ | exact jOn _ _ _ | exact cOn _ _ _ | exact sOn _ _ _ | exact iOn _ _ _ | exact aOn _ _ _)
local macro_rules | `(tactic| walk_at "m bk") => `(tactic| first | exact jBk _ _ _ | exact cBk _ _ _ | exact sBk _ _ _ | exact iBk _ _ _ | exact aBk _ _ _)
local macro_rules | `(tactic| walk_at "m l1") => `(tactic| first | exact (gregLen_b _ _).1 | exact (indLen_b _ _).1 | exact (julLen_b _ _).1 | exact (copLen_b _ _).1 | exact (sarLen_b _ _).1 | exact (islLen_b _ _).1 | exact (armLenM_b _).1)
local macro_rules | `(tactic| walk_at "m l2") => `(tactic| first | exact (gregLen_b _ _).2 | exact (indLen_b _ _).2 | exact (julLen_b _ _).2 | exact (copLen_b _ _).2 | exact (sarLen_b _ _).2 | exact (islLen_b _ _).2 | exact (armLenM_b _).2)
local macro_rules | `(tactic| walk_at "binaryOp Mod int int") => `(tactic| (k_here; k_dflt (refine' m_modAny ?zza ?_; (case zza => decide)); intro c9 c0 c1; (try dsimp only)))
local macro_rules | `(tactic| walk_at "call ref") => `(tactic| (k_here; k_dflt (refine' c_use (c_cal_g _ _ _ _ _ ?zzh1 ?zzh2 ?zzh3 ?zzh4) ?zz1 ?zz2 ?zz3 ?zz4 ?zz5 ?zzK ?zzd ?zzu trivial ?_; (case zzh1 => walk_at "m arith"); (case zzh2 => walk_at "m arith"); (case zzh3 => walk_at "m arith"); (case zzh4 => walk_at "m arith"); (case zz1 => k_asm); (case zz2 => k_asm); (case zz3 => k_asm); (case zz4 => k_asm); (case zz5 => k_asm); (case zzK => first | assumption | exact rfl); (case zzd => ktr_room); (case zzu => ktr_units)); intro v9 add9 h9 tk9 F9 N9 A9 P9; (obtain ⟨a9, e9⟩ := leafJ_ref P9); subst e9; (try simp only [gregLen_400] at P9); (try k_sweep); (try dsimp only); (try k_fold)))
local macro_rules | `(tactic| walk_at "call ref") => `(tactic| (k_here; k_dflt (refine' c_use (c_cal_i _ _ _ _ _ ?zzh1 ?zzh2 ?zzh3 ?zzh4) ?zz1 ?zz2 ?zz3 ?zz4 ?zz5 ?zzK ?zzd ?zzu trivial ?_; (case zzh1 => walk_at "m arith"); (case zzh2 => walk_at "m arith"); (case zzh3 => walk_at "m arith"); (case zzh4 => walk_at "m arith"); (case zz1 => k_asm); (case zz2 => k_asm); (case zz3 => k_asm); (case zz4 => k_asm); (case zz5 => k_asm); (case zzK => first | assumption | exact rfl); (case zzd => ktr_room); (case zzu => ktr_units)); intro v9 add9 h9 tk9 F9 N9 A9 P9; (obtain ⟨a9, e9⟩ := leafJ_ref P9); subst e9; (try simp only [indLen_400] at P9); (try k_sweep); (try dsimp only); (try k_fold)))
local macro_rules | `(tactic| walk_at "call ref") => `(tactic| (k_here; k_dflt (refine' c_use (c_cal_j _ _ _ _ _ ?zzh1 ?zzh2 ?zzh3 ?zzh4) ?zz1 ?zz2 ?zz3 ?zz4 ?zz5 ?zzK ?zzd ?zzu trivial ?_; (case zzh1 => walk_at "m arith"); (case zzh2 => walk_at "m arith"); (case zzh3 => walk_at "m arith"); (case zzh4 => walk_at "m arith"); (case zz1 => k_asm); (case zz2 => k_asm); (case zz3 => k_asm); (case zz4 => k_asm); (case zz5 => k_asm); (case zzK => first | assumption | exact rfl); (case zzd => ktr_room); (case zzu => ktr_units)); intro v9 add9 h9 tk9 F9 N9 A9 P9; (obtain ⟨a9, e9⟩ := leafJ_ref P9); subst e9; (try simp only [julLen_4, jBl] at P9); (try k_sweep); (try dsimp only); (try k_fold)))
local macro_rules | `(tactic| walk_at "call ref") => `(tactic| (k_here; k_dflt (refine' c_use (c_cal_c _ _ _ _ _ ?zzh1 ?zzh2 ?zzh3 ?zzh4) ?zz1 ?zz2 ?zz3 ?zz4 ?zz5 ?zzK ?zzd ?zzu trivial ?_; (case zzh1 => walk_at "m arith"); (case zzh2 => walk_at "m arith"); (case zzh3 => walk_at "m arith"); (case zzh4 => walk_at "m arith"); (case zz1 => k_asm); (case zz2 => k_asm); (case zz3 => k_asm); (case zz4 => k_asm); (case zz5 => k_asm); (case zzK => first | assumption | exact rfl); (case zzd => ktr_room); (case zzu => ktr_units)); intro v9 add9 h9 tk9 F9 N9 A9 P9; (obtain ⟨a9, e9⟩ := leafJ_ref P9); subst e9; (try simp only [copLen_4, cBl] at P9); (try k_sweep); (try dsimp only); (try k_fold)))
local macro_rules | `(tactic| walk_at "call ref") => `(tactic| (k_here; k_dflt (refine' c_use (c_cal_s _ _ _ _ _ _ ?zzh1 ?zzh2 ?zzh3 ?zzh4) ?zz1 ?zz2 ?zz3 ?zz4 ?zz5 ?zzK ?zzd ?zzu trivial ?_; (case zzh1 => walk_at "m arith"); (case zzh2 => walk_at "m arith"); (case zzh3 => walk_at "m arith"); (case zzh4 => walk_at "m arith"); (case zz1 => k_asm); (case zz2 => k_asm); (case zz3 => k_asm); (case zz4 => k_asm); (case zz5 => k_asm); (case zzK => first | assumption | exact rfl); (case zzd => ktr_room); (case zzu => ktr_units)); intro v9 add9 h9 tk9 F9 N9 A9 P9; (obtain ⟨a9, e9⟩ := leafJ_ref P9); subst e9; (try simp only [sarLen_4, sBl] at P9); (try k_sweep); (try dsimp only); (try k_fold)))
local macro_rules | `(tactic| walk_at "call ref") => `(tactic| (k_here; k_dflt (refine' c_use (c_cal_m _ _ _ _ _ ?zzh1 ?zzh2 ?zzh3 ?zzh4) ?zz1 ?zz2 ?zz3 ?zz4 ?zz5 ?zzK ?zzd ?zzu trivial ?_; (case zzh1 => walk_at "m arith"); (case zzh2 => walk_at "m arith"); (case zzh3 => walk_at "m arith"); (case zzh4 => walk_at "m arith"); (case zz1 => k_asm); (case zz2 => k_asm); (case zz3 => k_asm); (case zz4 => k_asm); (case zz5 => k_asm); (case zzK => first | assumption | exact rfl); (case zzd => ktr_room); (case zzu => ktr_units)); intro v9 add9 h9 tk9 F9 N9 A9 P9; (obtain ⟨a9, e9⟩ := leafJ_ref P9); subst e9; (try simp only [islLen_30, iBl] at P9); (try k_sweep); (try dsimp only); (try k_fold)))
local macro_rules | `(tactic| walk_at "call ref") => `(tactic| (k_here; k_dflt (refine' c_use (c_cal_a _ _ _ _ _ ?zzh1 ?zzh2 ?zzh3 ?zzh4) ?zz1 ?zz2 ?zz3 ?zz4 ?zz5 ?zzK ?zzd ?zzu trivial ?_; (case zzh1 => walk_at "m arith"); (case zzh2 => walk_at "m arith"); (case zzh3 => walk_at "m arith"); (case zzh4 => walk_at "m arith"); (case zz1 => k_asm); (case zz2 => k_asm); (case zz3 => k_asm); (case zz4 => k_asm); (case zz5 => k_asm); (case zzK => first | assumption | exact rfl); (case zzd => ktr_room); (case zzu => ktr_units)); intro v9 add9 h9 tk9 F9 N9 A9 P9; (obtain ⟨a9, e9⟩ := leafJ_ref P9); subst e9; (try simp only [armLen_m] at P9); (try k_sweep); (try dsimp only); (try k_fold)))
local macro_rules | `(tactic| walk_at "call ref") => `(tactic| (k_here; k_dflt (refine' c_use (c_on _ _ _ _ _ _ _ _ ?zzh1 ?zzh2 ?zzhj) ?zz1 ?zz2 ?zz3 ?zz4 ?zz5 ?zzK ?zzd ?zzu ?zzp ?_; (case zz1 => k_asm); (case zz2 => k_asm); (case zz3 => k_asm); (case zz4 => k_asm); (case zz5 => k_asm); (case zzp => refine' ⟨DatIn.mono ?_ (by assumption), DatIn.mono ?_ (by assumption)⟩ <;> walk_at "m sub"); (case zzh1 => walk_at "m l1"); (case zzh2 => walk_at "m l2"); (case zzhj => walk_at "m on"); (case zzK => first | assumption | exact rfl); (case zzd => ktr_room); (case zzu => ktr_units)); intro v9 add9 h9 tk9 F9 N9 A9 P9; subst P9; (try k_sweep); (try dsimp only); (try k_fold)))
local macro_rules | `(tactic| walk_at "compareOp Eq ref ref") => `(tactic| (k_here; k_dflt (refine' m_eqLeafS ?zzN ?zza ?zzb ?zzc ?zzd ?zze ?zzf ?zzg ?zzj ?_; (case zzN => k_asm); (case zza => assumption); (case zzc => assumption); (case zzb => walk_at "m sub"); (case zzd => walk_at "m sub"); (case zze => ktr_units); (case zzf => walk_at "m l1"); (case zzg => walk_at "m l2"); (case zzj => walk_at "m bk")); (try dsimp only)))
local macro_rules | `(tactic| walk_at "compareOp NotEq ref ref") => `(tactic| (k_here; k_dflt (refine' m_neLeafS ?zzN ?zza ?zzb ?zzc ?zzd ?zze ?zzf ?zzg ?zzj ?_; (case zzN => k_asm); (case zza => assumption); (case zzc => assumption); (case zzb => walk_at "m sub"); (case zzd => walk_at "m sub"); (case zze => ktr_units); (case zzf => walk_at "m l1"); (case zzg => walk_at "m l2"); (case zzj => walk_at "m bk")); (try dsimp only)))

set_option maxHeartbeats 8000000 in
theorem law_holds : PySem.Challenge.rw_bd5017_02.Holds := Mine.hd (by
  k_go0
  (all_goals try k_fold)
  k_steps)
end

end Mine
end
theorem PySem.Challenge.cw_bd5017_02_holds : PySem.Challenge.rw_bd5017_02.Holds :=
  Mine.law_holds
