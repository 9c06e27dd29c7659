import PyProof.Rows.All
import Wide.All
import OpenK.AllK
import Wide.FinOn
import PySem.Challenge.RW_bd5017_01
set_option Elab.async false
set_option linter.unusedVariables false
section
open PySem PySem.W PyProof.Rows
namespace Mine
set_option maxRecDepth 100000 in
set_option maxHeartbeats 16000000 in
open_top hd for PySem.Challenge.rw_bd5017_01
end Mine
end
section
open PySem PySem.W PyProof.Rows PySem.Calls PySem.Spec
set_option linter.unusedVariables false
set_option exponentiation.threshold 100
namespace Mine
open PySem.Float64

/-- x is k quarters, exactly -/
def Q4 (x : UInt64) (k : Int) : Prop := Float64.isFinite x = true ∧ val x = k * 2 ^ 1072

theorem isFinite_of {x : UInt64} {a : Bool} {m : Nat} {e : Int} (h : decode x = .fin a m e) : Float64.isFinite x = true := by unfold Float64.isFinite; rw [h]
theorem fin_of {x : UInt64} (h : Float64.isFinite x = true) : ∃ a m e, decode x = .fin a m e := by
  unfold Float64.isFinite at h
  split at h
  · rename_i a m e hd; exact ⟨a, m, e, hd⟩
  · cases h

/-- each n 2^k with n below 2^53 is a magnitude -/
theorem V_has (n k : Nat) (hn : n < 2 ^ 53) (hk : 52 ≤ k) (hk2 : k ≤ 1200) : ∃ t, t < infMag ∧ V t = n * 2 ^ k := by
  by_cases h0 : n = 0
  · subst h0
    exact ⟨0, by decide, by rw [V_zero]; omega⟩
  · have hl1 := Nat.log2_self_le h0
    have hl2 := @Nat.lt_log2_self n
    have hL : n.log2 < 53 := (Nat.log2_lt h0).mpr hn
    generalize n.log2 = L at *
    have e1 : 2 ^ 52 = 2 ^ L * 2 ^ (52 - L) := by rw [← Nat.pow_add]; congr 1; omega
    have e2 : 2 ^ 53 = 2 ^ (L + 1) * 2 ^ (52 - L) := by rw [← Nat.pow_add]; congr 1; omega
    have hp := Nat.two_pow_pos (52 - L)
    have q1 : 2 ^ 52 ≤ n * 2 ^ (52 - L) := by rw [e1]; exact Nat.mul_le_mul_right _ hl1
    have q2 : n * 2 ^ (52 - L) < 2 ^ 53 := by rw [e2]; exact Nat.mul_lt_mul_of_pos_right hl2 hp
    refine ⟨(k - (52 - L)) * 2 ^ 52 + n * 2 ^ (52 - L), ?_, ?_⟩
    · have hi : infMag = 2047 * 2 ^ 52 := rfl
      rw [hi]
      omega
    · rw [V_at (Nat.le_of_lt q2) (.inl q1), Nat.mul_assoc, ← Nat.pow_add]
      congr 2
      omega

theorem dist_zero {a b : Nat} (h : dist a b = 0) : a = b := by unfold dist at h; omega
theorem dist_self (a : Nat) : dist a a = 0 := by unfold dist; omega

theorem big_gap (W D : Nat) (hD : 0 < D) (hD2 : D ≤ 2 ^ 1074) (hW : W < D * 2 ^ 1600) : ¬ D * ((2 ^ 54 - 1) * 2 ^ 2045) ≤ 2 * W := by
  intro h
  have e : (2 : Nat) ^ 1601 ≤ (2 ^ 54 - 1) * 2 ^ 2045 := by
    calc (2 : Nat) ^ 1601 ≤ 2 ^ 2045 := Nat.pow_le_pow_right (by decide) (by decide)
      _ ≤ (2 ^ 54 - 1) * 2 ^ 2045 := Nat.le_mul_of_pos_left _ (by decide)
  have h2 : D * 2 ^ 1601 ≤ D * ((2 ^ 54 - 1) * 2 ^ 2045) := Nat.mul_le_mul_left D e
  have e3 : (2 : Nat) ^ 1601 = 2 * 2 ^ 1600 := by rw [Nat.pow_succ, Nat.mul_comm]
  rw [e3] at h2
  generalize (2 : Nat) ^ 1600 = Z at *
  generalize D * ((2 ^ 54 - 1) * 2 ^ 2045) = Y at *
  rw [Nat.mul_left_comm] at h2
  omega

/-- what is right and can be said exactly is exact -/
theorem right_exact {r : UInt64} {neg : Bool} {W D : Nat} (R : Right r neg W D) (hD : 0 < D) (hD2 : D ≤ 2 ^ 1074) {t' : Nat} (ht' : t' < infMag) (hV : D * V t' = W) (hs : W < D * 2 ^ 1600) :
    Float64.isFinite r = true ∧ val r = sgn neg (V t') := by
  obtain ⟨t, rfl, hle, hover, hnear⟩ := R
  have ht : t < infMag := by
    rcases Nat.lt_or_ge t infMag with h | h
    · exact h
    · exact absurd (hover.mp (Nat.le_antisymm hle h)) (big_gap W D hD hD2 hs)
  have hn := (hnear ht t').1
  rw [hV, dist_self] at hn
  have e := dist_zero (Nat.le_zero.mp hn)
  have e2 : V t = V t' := by
    rw [← hV] at e
    exact (Nat.eq_of_mul_eq_mul_left hD e).symm
  obtain ⟨m, e', hd, hv⟩ := decode_pack neg ht
  exact ⟨isFinite_of hd, by rw [val_pack neg ht, e2]⟩

theorem lt_pow_aux (n : Nat) (hn : n < 2 ^ 53) : n * 2 ^ 1072 < 1 * 2 ^ 1600 := by
  rw [Nat.one_mul]
  calc n * 2 ^ 1072 < 2 ^ 53 * 2 ^ 1072 := Nat.mul_lt_mul_of_pos_right hn (Nat.two_pow_pos _)
    _ ≤ 2 ^ 1600 := by rw [← Nat.pow_add]; exact Nat.pow_le_pow_right (by decide) (by decide)

theorem sgn_of (k : Int) (z : Nat) : sgn (decide (k < 0)) (k.natAbs * z) = k * (z : Int) := by
  rw [sgn_mul]
  congr 1
  unfold sgn
  by_cases h : k < 0
  · simp [h]; omega
  · simp [h]; omega

theorem right_q4 {r : UInt64} {k : Int} (R : Right r (decide (k < 0)) (k.natAbs * 2 ^ 1072) 1) (hk : k.natAbs < 2 ^ 53) : Q4 r k := by
  obtain ⟨t, ht, hV⟩ := V_has k.natAbs 1072 hk (by decide) (by decide)
  have q := right_exact R (by decide) (Nat.one_le_two_pow) ht (by rw [Nat.one_mul]; exact hV) (lt_pow_aux _ hk)
  refine ⟨q.1, ?_⟩
  rw [q.2, hV, sgn_of, Int.natCast_pow]
  rfl

theorem q4_ofInt (n : Int) (hn : n.natAbs < 2 ^ 51) : Q4 (ofInt n) (4 * n) := by
  have R := ofInt_right n
  have e1 : n.natAbs * 2 ^ 1074 = (4 * n).natAbs * 2 ^ 1072 := by
    rw [Int.natAbs_mul, show (2 : Nat) ^ 1074 = 4 * 2 ^ 1072 by rw [show (4 : Nat) = 2 ^ 2 by rfl, ← Nat.pow_add]]
    show _ = 4 * n.natAbs * 2 ^ 1072
    generalize (2 : Nat) ^ 1072 = Z
    ac_rfl
  have e2 : decide (n < 0) = decide (4 * n < 0) := decide_eq_decide.mpr (by omega)
  rw [e1, e2] at R
  exact right_q4 R (by omega)

theorem isFinite_zero (b : Bool) : Float64.isFinite (zero b) = true ∧ val (zero b) = 0 := by
  cases b <;> exact ⟨by decide +kernel, by decide +kernel⟩

theorem q4_add {x y : UInt64} {a b : Int} (hx : Q4 x a) (hy : Q4 y b) (h : (a + b).natAbs < 2 ^ 53) : Q4 (Float64.add x y) (a + b) := by
  obtain ⟨sx, mx, ex, dx⟩ := fin_of hx.1
  obtain ⟨sy, my, ey, dy⟩ := fin_of hy.1
  have R := add_right dx dy
  rw [hx.2, hy.2, ← Int.add_mul] at R
  have hp : (0 : Int) < 2 ^ 1072 := Int.pow_pos (by decide)
  by_cases h0 : a + b = 0
  · rw [h0] at R ⊢
    rw [R.1 (Int.zero_mul _)]
    exact ⟨(isFinite_zero _).1, by rw [(isFinite_zero _).2, Int.zero_mul]⟩
  · have R2 := R.2 (fun e => h0 ((Int.mul_eq_zero.mp e).resolve_right (Int.ne_of_gt hp)))
    have e1 : ((a + b) * 2 ^ 1072).natAbs = (a + b).natAbs * 2 ^ 1072 := by rw [Int.natAbs_mul, Int.natAbs_pow]; rfl
    have e2 : decide ((a + b) * 2 ^ 1072 < 0) = decide (a + b < 0) := by
      refine decide_eq_decide.mpr ⟨fun q => ?_, fun q => Int.mul_neg_of_neg_of_pos q hp⟩
      rcases Int.lt_or_le (a + b) 0 with g | g
      · exact g
      · exact absurd q (Int.not_lt.mpr (Int.mul_nonneg g (Int.le_of_lt hp)))
    rw [e1, e2] at R2
    exact right_q4 R2 h

theorem q4_neg {y : UInt64} {b : Int} (hy : Q4 y b) : Q4 (Float64.neg y) (-b) := by
  obtain ⟨sy, my, ey, dy⟩ := fin_of hy.1
  exact ⟨isFinite_of (neg_decode dy), by rw [neg_val dy, hy.2, Int.neg_mul]⟩
theorem q4_sub {x y : UInt64} {a b : Int} (hx : Q4 x a) (hy : Q4 y b) (h : (a - b).natAbs < 2 ^ 53) : Q4 (Float64.sub x y) (a - b) := by
  have := q4_add hx (q4_neg hy) (by rw [← Int.sub_eq_add_neg]; exact h)
  rw [← Int.sub_eq_add_neg] at this
  unfold Float64.sub
  exact this

theorem val_sign {x : UInt64} {a : Bool} {m : Nat} {e : Int} (h : decode x = .fin a m e) (h0 : val x ≠ 0) : a = decide (val x < 0) := by
  have q := val_eq h
  cases a with
  | false =>
    have : 0 ≤ val x := by rw [q]; unfold sgn; rw [if_neg (by decide)]; exact Int.natCast_nonneg _
    exact (decide_eq_false (by omega)).symm
  | true =>
    have : val x ≤ 0 := by rw [q]; unfold sgn; rw [if_pos rfl]; exact Int.neg_nonpos_of_nonneg (Int.natCast_nonneg _)
    exact (decide_eq_true (by omega)).symm

theorem q4_mul {x y : UInt64} {a n : Int} (hx : Q4 x a) (hy : Q4 y (4 * n)) (h : (a * n).natAbs < 2 ^ 53) : Q4 (Float64.mul x y) (a * n) := by
  obtain ⟨sx, mx, ex, dx⟩ := fin_of hx.1
  obtain ⟨sy, my, ey, dy⟩ := fin_of hy.1
  have R := mul_right dx dy
  have e1 : (val x).natAbs * (val y).natAbs = 2 ^ 1074 * ((a * n).natAbs * 2 ^ 1072) := by
    rw [hx.2, hy.2, Int.natAbs_mul, Int.natAbs_mul, Int.natAbs_mul, Int.natAbs_mul, Int.natAbs_pow, show (2 : Nat) ^ 1074 = 4 * 2 ^ 1072 by rw [show (4 : Nat) = 2 ^ 2 by rfl, ← Nat.pow_add]]
    show a.natAbs * 2 ^ 1072 * (4 * n.natAbs * 2 ^ 1072) = _
    generalize (2 : Nat) ^ 1072 = Z
    ac_rfl
  rw [e1] at R
  obtain ⟨t, ht, hV⟩ := V_has (a * n).natAbs 1072 h (by decide) (by decide)
  have q := right_exact R (Nat.two_pow_pos _) (Nat.le_refl _) ht (by rw [hV]) (by
    have := lt_pow_aux _ h
    rw [Nat.one_mul] at this
    exact Nat.mul_lt_mul_of_pos_left this (Nat.two_pow_pos _))
  refine ⟨q.1, ?_⟩
  rw [q.2, hV]
  have hp : (0 : Int) < 2 ^ 1072 := Int.pow_pos (by decide)
  by_cases h0 : a * n = 0
  · rw [h0]
    simp [sgn]
  · have ha : a ≠ 0 := fun e => h0 (by rw [e, Int.zero_mul])
    have hn : n ≠ 0 := fun e => h0 (by rw [e, Int.mul_zero])
    have vx : val x ≠ 0 := by rw [hx.2]; exact Int.mul_ne_zero ha (Int.ne_of_gt hp)
    have vy : val y ≠ 0 := by rw [hy.2]; exact Int.mul_ne_zero (by omega) (Int.ne_of_gt hp)
    have s1 := val_sign dx vx
    have s2 := val_sign dy vy
    have k1 : (val x < 0) ↔ a < 0 := by
      rw [hx.2]
      refine ⟨fun q => ?_, fun q => Int.mul_neg_of_neg_of_pos q hp⟩
      rcases Int.lt_or_le a 0 with g | g
      · exact g
      · exact absurd q (Int.not_lt.mpr (Int.mul_nonneg g (Int.le_of_lt hp)))
    have k2 : (val y < 0) ↔ n < 0 := by
      rw [hy.2]
      refine ⟨fun q => ?_, fun q => Int.mul_neg_of_neg_of_pos (by omega) hp⟩
      rcases Int.lt_or_le n 0 with g | g
      · exact g
      · exact absurd q (Int.not_lt.mpr (Int.mul_nonneg (by omega) (Int.le_of_lt hp)))
    have e3 : (sx != sy) = decide (a * n < 0) := by
      rw [s1, s2]
      rcases Int.lt_or_gt_of_ne ha with ga | ga <;> rcases Int.lt_or_gt_of_ne hn with gn | gn
      · have := Int.mul_pos_of_neg_of_neg ga gn
        simp [k1, k2, ga, gn]; omega
      · have := Int.mul_neg_of_neg_of_pos ga gn
        have : ¬ n < 0 := by omega
        simp [k1, k2, ga, this]; omega
      · have := Int.mul_neg_of_pos_of_neg ga gn
        have : ¬ a < 0 := by omega
        simp [k1, k2, gn, this]; omega
      · have := Int.mul_pos ga gn
        have : ¬ a < 0 := by omega
        have : ¬ n < 0 := by omega
        simp [k1, k2, *]; omega
    rw [e3, sgn_of, Int.natCast_pow]
    rfl

/-- an int by four -/
theorem q4_quarter (n : Int) (hn : n.natAbs < 2 ^ 51) : Q4 (ofFrac (decide (n < 0) != decide ((4 : Int) < 0)) n.natAbs (4 : Int).natAbs) n := by
  have e0 : (decide (n < 0) != decide ((4 : Int) < 0)) = decide (n < 0) := by simp
  rw [e0]
  have R : Right (ofFrac (decide (n < 0)) n.natAbs (4 : Int).natAbs) (decide (n < 0)) (n.natAbs * 2 ^ 1072) 1 :=
    ofFrac_right (by decide) (by
      rw [show (2 : Nat) ^ 1074 = 2 ^ 1072 * 4 by rw [show (4 : Nat) = 2 ^ 2 by rfl, ← Nat.pow_add]]
      show n.natAbs * (2 ^ 1072 * 4) * 1 = n.natAbs * 2 ^ 1072 * 4
      rw [Nat.mul_one, Nat.mul_assoc]) (by decide)
  exact right_q4 R (by omega)

theorem pow_split (e : Int) (he : -1074 ≤ e) (hle : e < 0) : (2 : Nat) ^ (e + 1074).toNat * 2 ^ (-e).toNat = 2 ^ 1074 := by
  rw [← Nat.pow_add]; congr 1; omega
theorem pow_split' (e : Int) (he : 0 ≤ e) : (2 : Nat) ^ (e + 1074).toNat = 2 ^ e.toNat * 2 ^ 1074 := by
  rw [← Nat.pow_add]; congr 1; omega

/-- floor by the value -/
theorem floor_val {x : UInt64} (hf : Float64.isFinite x = true) : Flt.toInt floorOf x = (val x).fdiv (2 ^ 1074) := by
  obtain ⟨a, m, e, hd⟩ := fin_of hf
  have hge := decode_ge hd
  have hv := val_eq hd
  unfold Flt.toInt
  rw [hd]
  show floorOf a m e = _
  unfold floorOf
  have hp : ((2 : Int) ^ 1074) ≠ 0 := Int.ne_of_gt (Int.pow_pos (by decide))
  by_cases he : e ≥ 0
  · rw [if_pos he, hv, pow_split' e he, ← Nat.mul_assoc, sgn_mul, sgn_mul, Int.natCast_pow, Int.natCast_pow]
    show _ = (sgn a m * 2 ^ e.toNat * 2 ^ 1074).fdiv (2 ^ 1074)
    rw [Int.mul_fdiv_cancel _ hp]
  · rw [if_neg he, hv, sgn_mul]
    have e1 := pow_split e hge (by omega)
    have e2 : ((2 : Int) ^ 1074) = ((2 ^ (e + 1074).toNat : Nat) : Int) * ((2 ^ (-e).toNat : Nat) : Int) := by
      rw [← Int.natCast_mul, e1, Int.natCast_pow]; rfl
    rw [e2]
    have hpos : (0 : Int) < ((2 ^ (e + 1074).toNat : Nat) : Int) := Int.ofNat_lt.mpr (Nat.two_pow_pos _)
    have hpos2 : (0 : Int) ≤ ((2 ^ (-e).toNat : Nat) : Int) := Int.natCast_nonneg _
    have L1 : (sgn a m).fdiv (2 ^ (-e).toNat) = sgn a m / ((2 ^ (-e).toNat : Nat) : Int) := by
      rw [Int.fdiv_eq_ediv_of_nonneg _ (Int.le_of_lt (Int.pow_pos (by decide))), Int.natCast_pow]; rfl
    rw [L1, Int.fdiv_eq_ediv_of_nonneg _ (Int.mul_nonneg (Int.le_of_lt hpos) hpos2), Int.mul_comm (sgn a m) ((2 ^ (e + 1074).toNat : Nat) : Int), Int.mul_ediv_mul_of_pos _ _ hpos]

theorem fdiv_q4 (k : Int) : (k * 2 ^ 1072).fdiv (2 ^ 1074) = k / 4 := by
  rw [Int.fdiv_eq_ediv_of_nonneg _ (Int.le_of_lt (Int.pow_pos (by decide)))]
  have e : (2 : Int) ^ 1074 = 2 ^ 1072 * 4 := by rw [show (4 : Int) = 2 ^ 2 by rfl, ← Int.pow_add]
  rw [e, Int.mul_comm k, Int.mul_ediv_mul_of_pos _ _ (Int.pow_pos (by decide))]

theorem q4_floor {x : UInt64} {k : Int} (h : Q4 x k) : Flt.toInt floorOf x = k / 4 := by
  rw [floor_val h.1, h.2, fdiv_q4]
theorem neg_floorOf {x : UInt64} {a : Bool} {m : Nat} {e : Int} (h : decode x = .fin a m e) : floorOf (!a) m e = Flt.toInt floorOf (Float64.neg x) := by
  unfold Flt.toInt
  rw [neg_decode h]
theorem q4_ceil {x : UInt64} {k : Int} (h : Q4 x k) : Flt.toInt ceilOf x = -((-k) / 4) := by
  obtain ⟨a, m, e, hd⟩ := fin_of h.1
  have q := q4_floor (q4_neg h)
  rw [← neg_floorOf hd] at q
  unfold Flt.toInt
  rw [hd]
  show -floorOf (!a) m e = _
  rw [q]
theorem q4_trunc {x : UInt64} {k : Int} (h : Q4 x k) (hk : 0 ≤ k) : Flt.toInt truncOf x = k / 4 := by
  obtain ⟨a, m, e, hd⟩ := fin_of h.1
  have hv := val_eq hd
  have q := q4_floor h
  have q2 := q4_floor (q4_neg h)
  rw [← neg_floorOf hd] at q2
  have hp : (0 : Int) < 2 ^ 1072 := Int.pow_pos (by decide)
  unfold Flt.toInt at q ⊢
  rw [hd] at q ⊢
  show truncOf a m e = _
  replace q : floorOf a m e = k / 4 := q
  unfold truncOf
  cases a with
  | false => exact q
  | true =>
    have h1 : val x ≤ 0 := by rw [hv]; unfold sgn; rw [if_pos rfl]; exact Int.neg_nonpos_of_nonneg (Int.natCast_nonneg _)
    have h2 : 0 ≤ val x := by rw [h.2]; exact Int.mul_nonneg hk (Int.le_of_lt hp)
    have h3 : k = 0 := by
      have : val x = 0 := Int.le_antisymm h1 h2
      rw [h.2] at this
      exact (Int.mul_eq_zero.mp this).resolve_right (Int.ne_of_gt hp)
    subst h3
    unfold ceilOf
    rw [if_pos rfl, q2]
    rfl

/-- the floor of a quotient of ints, rounded, is the quotient -/
theorem quot_floor (n d : Nat) (hn : n < 2 ^ 40) (hd : 0 < d) (hd2 : d < 2 ^ 10) : Float64.isFinite (ofFrac false n d) = true ∧ Flt.toInt floorOf (ofFrac false n d) = ((n / d : Nat) : Int) := by
  have R : Right (ofFrac false n d) false (n * 2 ^ 1074) d := ofFrac_right hd (by rw [Nat.mul_assoc]) hd
  have hq := Nat.div_add_mod n d
  have hr := Nat.mod_lt n hd
  generalize hQ : n / d = q at *
  generalize hM : n % d = r at *
  have hqn : q ≤ n := by rw [← hQ]; exact Nat.div_le_self _ _
  obtain ⟨t1, ht1, hV1⟩ := V_has q 1074 (by omega) (by decide) (by decide)
  obtain ⟨t2, ht2, hV2⟩ := V_has ((q + 1) * 2 ^ 11 - 1) 1063 (by omega) (by decide) (by decide)
  obtain ⟨t, hrr, hle, hover, hnear⟩ := R
  have hW : n * 2 ^ 1074 < d * 2 ^ 1600 := by
    calc n * 2 ^ 1074 < 2 ^ 40 * 2 ^ 1074 := Nat.mul_lt_mul_of_pos_right hn (Nat.two_pow_pos _)
      _ ≤ 2 ^ 1600 := by rw [← Nat.pow_add]; exact Nat.pow_le_pow_right (by decide) (by decide)
      _ ≤ d * 2 ^ 1600 := Nat.le_mul_of_pos_left _ hd
  have ht : t < infMag := by
    rcases Nat.lt_or_ge t infMag with h | h
    · exact h
    · exact absurd (hover.mp (Nat.le_antisymm hle h)) (big_gap _ _ hd (Nat.le_trans (Nat.le_of_lt hd2) (Nat.pow_le_pow_right (by decide) (by decide))) hW)
  rw [hrr]
  obtain ⟨m, e', hdec, hv⟩ := decode_pack false ht
  have hfin := isFinite_of hdec
  refine ⟨hfin, ?_⟩
  rw [floor_val hfin, val_pack false ht]
  have n1 := (hnear ht t1).1
  have n2 := (hnear ht t2).1
  rw [hV1] at n1
  rw [hV2] at n2
  have ep : (2 : Nat) ^ 1074 = 2 ^ 11 * 2 ^ 1063 := by rw [← Nat.pow_add]
  have hZ : 0 < (2 : Nat) ^ 1063 := Nat.two_pow_pos _
  have hs : sgn false (V t) = ((V t : Nat) : Int) := by unfold sgn; rw [if_neg (by decide)]
  rw [hs]
  have e3 : ((2 : Int) ^ 1074) = ((2 ^ 1074 : Nat) : Int) := by rw [Int.natCast_pow]; rfl
  rw [e3]
  generalize V t = v at *
  have bounds : q * 2 ^ 1074 ≤ v ∧ v < (q + 1) * 2 ^ 1074 := by
    rw [ep] at n1 n2 ⊢
    generalize (2 : Nat) ^ 1063 = Z at *
    have x1 : n * (2 ^ 11 * Z) = d * (q * (2 ^ 11 * Z)) + r * (2 ^ 11 * Z) := by rw [← hq, Nat.add_mul, Nat.mul_assoc]
    have x2 : d * ((q + 1) * (2 ^ 11 * Z)) = d * (q * (2 ^ 11 * Z)) + d * (2 ^ 11 * Z) := by rw [← Nat.mul_add, Nat.add_mul, Nat.one_mul]
    have x3 : d * (((q + 1) * 2 ^ 11 - 1) * Z) + d * Z = d * ((q + 1) * (2 ^ 11 * Z)) := by
      rw [← Nat.mul_add]
      refine congrArg (d * ·) ?_
      show ((q + 1) * 2 ^ 11 - 1) * Z + Z = (q + 1) * (2 ^ 11 * Z)
      rw [← Nat.mul_assoc, Nat.sub_mul, Nat.one_mul]
      have : 1 * Z ≤ (q + 1) * 2 ^ 11 * Z := Nat.mul_le_mul_right Z (by omega)
      rw [Nat.one_mul] at this
      exact Nat.sub_add_cancel this
    constructor
    · rcases Nat.lt_or_ge v (q * (2 ^ 11 * Z)) with h | h
      · exfalso
        have y : d * v < d * (q * (2 ^ 11 * Z)) := Nat.mul_lt_mul_of_pos_left h hd
        unfold dist at n1
        omega
      · exact h
    · rcases Nat.lt_or_ge v ((q + 1) * (2 ^ 11 * Z)) with h | h
      · exact h
      · exfalso
        have y : d * ((q + 1) * (2 ^ 11 * Z)) ≤ d * v := Nat.mul_le_mul_left d h
        have z1 : r * (2 ^ 11 * Z) + 2 ^ 11 * Z ≤ d * (2 ^ 11 * Z) := by
          have := Nat.mul_le_mul_right (2 ^ 11 * Z) (Nat.succ_le_of_lt hr)
          rw [Nat.succ_mul] at this
          exact this
        have z2 : d * Z < 2 ^ 10 * Z := Nat.mul_lt_mul_of_pos_right hd2 hZ
        have z4 : 0 < d * Z := Nat.mul_pos hd hZ
        have z3 : 2 ^ 11 * Z = 2 * (2 ^ 10 * Z) := by rw [← Nat.mul_assoc]
        generalize 2 ^ 11 * Z = X at *
        generalize 2 ^ 10 * Z = X2 at *
        generalize n * X = A at *
        generalize d * (q * X) = B at *
        generalize r * X = C at *
        generalize d * X = D at *
        generalize d * ((q + 1) * X) = E at *
        generalize d * (((q + 1) * 2 ^ 11 - 1) * Z) = G at *
        generalize d * Z = H at *
        generalize d * v = J at *
        clear n1 hover hnear
        unfold dist at n2
        omega
  have hpz : (0 : Int) < ((2 ^ 1074 : Nat) : Int) := Int.ofNat_lt.mpr (Nat.two_pow_pos _)
  rw [Int.fdiv_eq_ediv_of_nonneg _ (Int.le_of_lt hpz), ← Int.natCast_ediv]
  have hdiv : v / 2 ^ 1074 = q := by
    clear hover hnear n1 n2 hV1 hV2 ep hW e3 hpz
    generalize (2 : Nat) ^ 1074 = Y at *
    exact Nat.div_eq_of_lt_le bounds.1 bounds.2
  rw [hdiv]
end Mine
end
section
open PySem PySem.W PyProof.Rows PySem.Calls PySem.Spec PyProof.Rows.LCg
set_option linter.unusedVariables false
set_option maxRecDepth 100000
namespace Mine

/-! ### contracts -/
abbrev Led := List (Addr × Obj)
/-- no address stands in both -/
def Apart (a b : Led) : Prop := ∀ p ∈ a, ∀ q ∈ b, @Ne Nat p.1 q.1
/-- what a call hands back: the ledger with the new objects ahead -/
abbrev Ret (h₀ : Heap) (L : Addr) (m : Str → Option Value) (news : Led) (s : Shared) (Q : Value → Shared → Prop) (Post : Led → Value → Prop) : Prop :=
  ∀ (v : Value) (add : Led) (h' : Heap) (tk' : Nat), Fr h₀ L h' m → News h₀ L h' (add ++ news) → Apart add news → Post add v → Q v { s with heap := h', toks := tk' }
abbrev Ret0 (h₀ : Heap) (L : Addr) (m : Str → Option Value) (news : Led) (s : Shared) (Q : Value → Shared → Prop) (Post : Value → Prop) : Prop :=
  ∀ (v : Value) (h' : Heap) (tk' : Nat), Fr h₀ L h' m → News h₀ L h' news → Post v → Q v { s with heap := h', toks := tk' }

/-- a def that makes nothing that stays -/
def Ctr0 (prog : Program) (w : World) (K : Frag) (d : Nat) (f : Addr) (vs : List Value) (Post : Value → Prop) : Prop :=
  ∀ (p : Program) (loose : List Str) (mean : ExcName → Option Value) (mg mb : Str → Option Value) (dp un : Nat) (gd : Option (List Code)) (cn : Str) (cs : Scope) (a : Addr) (ccd : Value) (cl : List (Str × Addr)) (outer : List Env) (A₀ : Around) (base h₀ : Heap) (L : Addr) (m : Str → Option Value) (news : Led) (s : Shared) (Q E : Value → Shared → Prop),
    Below A₀ base outer h₀ → Fr h₀ L s.heap m → K.In h₀ → News h₀ L s.heap news → Top p loose mean mg mb h₀ → cs.kind = .function → dp + d < recursionLimit → un + (8 * d + 80) < cLine →
    Ret0 h₀ L m news s Q Post →
    wpAny (model prog w) (ktrTop dp un gd cn cs L a ccd cl outer) (call (.ref f) vs) Q E s
/-- a def that hands back new objects, and reads those of the ledger -/
def Ctr (prog : Program) (w : World) (K : Frag) (d : Nat) (f : Addr) (vs : List Value) (Pre : Led → Prop) (Post : Led → Value → Prop) : Prop :=
  ∀ (p : Program) (loose : List Str) (mean : ExcName → Option Value) (mg mb : Str → Option Value) (dp un : Nat) (gd : Option (List Code)) (cn : Str) (cs : Scope) (a : Addr) (ccd : Value) (cl : List (Str × Addr)) (outer : List Env) (A₀ : Around) (base h₀ : Heap) (L : Addr) (m : Str → Option Value) (news : Led) (s : Shared) (Q E : Value → Shared → Prop),
    Below A₀ base outer h₀ → Fr h₀ L s.heap m → K.In h₀ → News h₀ L s.heap news → Top p loose mean mg mb h₀ → cs.kind = .function → dp + d < recursionLimit → un + (8 * d + 80) < cLine → Pre news →
    Ret h₀ L m news s Q Post →
    wpAny (model prog w) (ktrTop dp un gd cn cs L a ccd cl outer) (call (.ref f) vs) Q E s

/-! ### cells, rows, leaves as data -/
def cellD : Option Int → Dat
  | none => .none
  | some i => .int i
def rowD (cs : List (Option Int)) : Dat := .list (cs.map cellD)
def leafD (rows : List (List (Option Int))) : Dat := .list (rows.map rowD)
def chunk (xs : List (Option Int)) (k : Nat) : List (List (Option Int)) := (List.range k).map fun i => (xs.drop (7 * i)).take 7
def dayNs (n : Nat) : List (Option Int) := (List.range n).map fun (i : Nat) => some ((i : Int) + 1)
/-- the helper's days, and its leaf -/
def daysL (lp n : Nat) : List (Option Int) := List.replicate lp none ++ dayNs n ++ List.replicate 7 none
def leafL (lp n : Nat) : List (List (Option Int)) := chunk (daysL lp n) ((lp + n + 6) / 7)

theorem datAll_rep (news : Led) (k : Nat) : DatAll news (List.replicate k Value.none) ((List.replicate k (none : Option Int)).map cellD) := by
  induction k with
  | zero => exact .nil
  | succ k ih => exact .cons .none ih
theorem datAll_map_ints {news : Led} : ∀ {vs : List Value} {ns : List Int}, IntsAre vs ns → DatAll news vs ((ns.map some).map cellD)
  | _, _, .nil => .nil
  | _, _, .cons i t h => .cons (.int _ _) (datAll_map_ints h)
theorem DatAll.drop' {news : Led} : ∀ {vs : List Value} {ds : List Dat}, DatAll news vs ds → ∀ k : Nat, DatAll news (vs.drop k) (ds.drop k)
  | _, _, h, 0 => by simpa using h
  | _, _, .nil, _ + 1 => .nil
  | _, _, .cons _ h, k + 1 => DatAll.drop' h k
theorem DatAll.take' {news : Led} : ∀ {vs : List Value} {ds : List Dat}, DatAll news vs ds → ∀ k : Nat, DatAll news (vs.take k) (ds.take k)
  | _, _, _, 0 => .nil
  | _, _, .nil, _ + 1 => .nil
  | _, _, .cons x h, k + 1 => .cons x (DatAll.take' h k)

/-! ### list rules over the ledger -/
section
variable {prog : Program} {w : World} {A : Around} {E : Value → Shared → Prop} {s : Shared} {h₀ : Heap} {L : Addr} {m : Str → Option Value} {news : Led}

theorem foldl_rep (v : Value) (n : Nat) (acc : Array Value) : List.foldl (fun x1 x2 => x1 ++ x2) acc (List.replicate n #[v]) = acc ++ (List.replicate n v).toArray := by
  induction n generalizing acc with
  | zero => simp
  | succ n ih =>
    rw [List.replicate_succ, List.foldl_cons, ih]
    apply Array.ext'
    simp [List.replicate_succ]

theorem m_mul1 {l : Addr} {v : Value} {k : Nat} {x : Int} {u : Tok} {Q : Value → Shared → Prop} (F : Fr h₀ L s.heap m) (N : News h₀ L s.heap news) (hl : (l, listOf [v].toArray k) ∈ news) (h0 : 0 ≤ x) (h1 : x ≤ 10000)
    (h : ∀ D h', Fr h₀ L h' m → News h₀ L h' ((D, listOf (List.replicate x.toNat v).toArray 0) :: news) → (∀ p ∈ news, p.1 < D) → Q (.ref D) { s with heap := h' }) :
    wpAny (model prog w) A (binaryOp .Mult (.ref l) (.int x u)) Q E s := by
  refine mul_list F N (N.get hl) (by omega) (by omega) (by simp; omega) fun h' F' N' => ?_
  refine h _ h' F' ?_ fun p hp => Heap.lt_size (N p hp).1
  have e : List.foldl (fun x1 x2 => x1 ++ x2) #[] (List.replicate (if ([v].toArray).isEmpty = true then 0 else x.toNat) [v].toArray) = (List.replicate x.toNat v).toArray := by
    have := foldl_rep v x.toNat #[]
    simpa using this
  rw [e] at N'
  exact N'
theorem m_mul1r {l : Addr} {v : Value} {k : Nat} {x : Int} {u : Tok} {Q : Value → Shared → Prop} (F : Fr h₀ L s.heap m) (N : News h₀ L s.heap news) (hl : (l, listOf [v].toArray k) ∈ news) (h0 : 0 ≤ x) (h1 : x ≤ 10000)
    (h : ∀ D h', Fr h₀ L h' m → News h₀ L h' ((D, listOf (List.replicate x.toNat v).toArray 0) :: news) → (∀ p ∈ news, p.1 < D) → Q (.ref D) { s with heap := h' }) :
    wpAny (model prog w) A (binaryOp .Mult (.int x u) (.ref l)) Q E s := by
  refine mul_list_r F N (N.get hl) (by omega) (by omega) (by simp; omega) fun h' F' N' => ?_
  refine h _ h' F' ?_ fun p hp => Heap.lt_size (N p hp).1
  have e : List.foldl (fun x1 x2 => x1 ++ x2) #[] (List.replicate (if ([v].toArray).isEmpty = true then 0 else x.toNat) [v].toArray) = (List.replicate x.toNat v).toArray := by
    have := foldl_rep v x.toNat #[]
    simpa using this
  rw [e] at N'
  exact N'
theorem m_add {l b : Addr} {vs ws : List Value} {k j : Nat} {Q : Value → Shared → Prop} (F : Fr h₀ L s.heap m) (N : News h₀ L s.heap news) (hl : (l, listOf vs.toArray k) ∈ news) (hb : (b, listOf ws.toArray j) ∈ news)
    (hsz : vs.length + ws.length ≤ 100000)
    (h : ∀ D h', Fr h₀ L h' m → News h₀ L h' ((D, listOf (vs ++ ws).toArray 0) :: news) → (∀ p ∈ news, p.1 < D) → Q (.ref D) { s with heap := h' }) :
    wpAny (model prog w) A (binaryOp .Add (.ref l) (.ref b)) Q E s := by
  refine add_lists (hsz := by rw [sizeLine_eq]; omega) F N ⟨_, N.get hl, rfl, k, rfl⟩ ⟨_, N.get hb, rfl, j, rfl⟩ fun h' F' N' => ?_
  exact h _ h' F' N' fun p hp => Heap.lt_size (N p hp).1

theorem m_listRange {r : Addr} {a b : Int} {t u v : Tok} {n : Nat} {Q : Value → Shared → Prop} (hh : A.handled = none) (F : Fr h₀ L s.heap m) (N : News h₀ L s.heap news)
    (hr : IsRange s.heap r a b 1 t u v) (hsmall : Builtin.Range.small a b 1 = true) (hn : Builtin.Range.rangeSize a b 1 = (n : Int)) (hlen : n ≤ 2 ^ 24)
    (h : ∀ D h' tk ys c, Fr h₀ L h' m → News h₀ L h' ((D, listOf (List.toArray ys) c) :: news) → (∀ p ∈ news, p.1 < D) → IntsAre ys (rangeKs a n) → Q (.ref D) { s with heap := h', toks := tk }) :
    wpAny (model prog w) A (call (.type "list") [.ref r]) Q E s := by
  refine call_list_range hh hr hsmall hn hlen fun h' tk acc' c' hk hS' hacc => ?_
  have hD0 : h₀.get? s.heap.objs.size = none := next_is_new F
  have hDL : s.heap.objs.size ≠ L := Nat.ne_of_gt F.ns.lt
  refine h _ h' tk acc'.toList c' (F.keeps hk) ?_ (fun p hp => Heap.lt_size (N p hp).1) ?_
  · intro p hp
    rcases List.mem_cons.mp hp with rfl | hp
    · exact ⟨by simpa using hS', hDL, hD0⟩
    · exact ⟨hk _ _ (N p hp).1, (N p hp).2⟩
  · obtain ⟨h1, h2⟩ := hacc
    have key : ∀ (ys : List Value) (a : Int), (∀ i v, ys[i]? = some v → ∃ t, v = Value.int (a + (i : Nat) * 1) t) → IntsAre ys (rangeKs a ys.length) := by
      intro ys
      induction ys with
      | nil => intro a _; exact .nil
      | cons y ys ih =>
        intro a hy
        obtain ⟨t, ht⟩ := hy 0 y rfl
        have e : rangeKs a (y :: ys).length = a :: rangeKs (a + 1) ys.length := by
          unfold rangeKs
          rw [List.length_cons, List.range_succ_eq_map, List.map_cons, List.map_map]
          congr 1
          · simp
          · apply List.map_congr_left
            intro i _
            simp only [Function.comp]
            omega
        rw [e, ht]
        have e0 : a + ((0 : Nat) : Int) * 1 = a := by omega
        rw [e0]
        refine .cons _ _ (ih (a + 1) fun i v hv => ?_)
        obtain ⟨t', ht'⟩ := hy (i + 1) v (by simpa using hv)
        refine ⟨t', ?_⟩
        rw [ht']
        congr 1
        omega
    have := key acc'.toList a (fun i v hv => h2 i v (by simpa using hv))
    rw [Array.length_toList, h1] at this
    exact this
end

/-! ### a comprehension over a range by steps -/

section
variable {prog : Program} {w : World} {A : Around} {E : Value → Shared → Prop} {s : Shared} {h₀ : Heap} {L : Addr} {m : Str → Option Value} {env : Env}

/-- the turns by an invariant -/
theorem rest_inv {elt : Expr} {x : Str} {scope : Scope} {cl : List (Str × Addr)} {S : Led → Prop} {P : Nat → Value → Prop} {Fin : List Value → Led → Prop} {n : Nat} (J : Nat → List Value → Led → Prop)
    (turn : ∀ i ys news v I oI C oC D m₂ h tk (E' : Value → Shared → Prop), i < n → J i ys news → P i v → NsObj oC m₂ → m₂ x = some v → Fr h₀ L h m → News h₀ L h ((I, oI) :: (C, oC) :: (D, lst ys) :: news) → Off3 I C D news → ((@Ne Nat I C) ∧ (@Ne Nat I D) ∧ (@Ne Nat C D)) →
      wpAny (model prog w) A (eval elt (compEnvC scope cl C env)) (CompEnd h₀ L m { s with heap := h, toks := tk } I oI C oC D (lst ys) S (fun y news' => J (i + 1) (ys ++ [y]) news')) E' { s with heap := h, toks := tk })
    (fin : ∀ ys news, J n ys news → Fin ys news) : ∀ (k i : Nat) (ys : List Value) (news : Led), i + k = n → J i ys news → CompRest prog w A h₀ L m env elt x scope cl s S P Fin k i ys news := by
  intro k
  induction k with
  | zero =>
    intro i ys news e hJ
    obtain rfl : i = n := e
    exact CompRest.zero (fin _ _ hJ)
  | succ k ih =>
    intro i ys news e hJ
    refine CompRest.succ fun v I oI C oC D m₂ h tk E' hP hC hx F N off ne => ?_
    refine wpAny_mono (turn i ys news v I oI C oC D m₂ h tk E' (by omega) hJ hP hC hx F N off ne) (fun y s' he => ?_) fun _ _ e => e
    obtain ⟨h', tk', news', e', F', N', off', hS', hj⟩ := he
    exact ⟨h', tk', news', e', F', N', off', hS', ih (i + 1) (ys ++ [y]) news' (by omega) hj⟩

def SrcStep (prog : Program) (w : World) (A : Around) (h₀ : Heap) (L : Addr) (m : Str → Option Value) (env : Env) (elt : Expr) (x : Str) (scope : Scope) (cl : List (Str × Addr)) (Fin : Shared → List Value → Led → Prop) (xv : Value) (s₁ : Shared) : Prop :=
  ∃ r a b c t u v n news, xv = .ref r ∧ A.handled = none ∧ Fr h₀ L s₁.heap m ∧ News h₀ L s₁.heap news ∧ IsRange s₁.heap r a b c t u v ∧ Builtin.Range.small a b c = true ∧ Builtin.Range.rangeSize a b c = ((n : Nat) : Int) ∧ n ≤ sizeLine ∧
    ∀ s₂ : Shared, (∃ h, s₂ = { s₁ with heap := h }) → CompRest prog w A h₀ L m env elt x scope cl s₂ (fun _ => True) (fun i v => ∃ t, v = .int (a + (i : Int) * c) t) (Fin s₂) n 0 [] news

theorem ListComp_step {elt iter : Expr} {x : Str} {px : Pos} {scope : Scope} {cl : List (Str × Addr)} {pos : Pos} {Q : Value → Shared → Prop} (F₀ : Fr h₀ L s.heap m)
    (hclos : closureFor scope env = pure cl) (hcell : ∀ y ∈ scope.names, y.2 ≠ .cell) (hkind : scope.kind = .function)
    (hnames : ∀ y ∈ scope.names, y.2 = .local → scope.names.lookup y.1 = some .local) (hx : scope.names.lookup x = some .local)
    (h : wpAny (model prog w) A (eval iter env) (SrcStep prog w A h₀ L m env elt x scope cl (fun s₂ => FinE h₀ L m s₂ Q)) E s)
    (hs : ∀ x, foldedSetIterable iter env x = pure x := by intro _; rfl) :
    wpAny (model prog w) A (eval (.ListComp elt [⟨.Name x px, iter, [], 0⟩] scope pos) env) Q E s := by
  rw [eval_ListComp]
  refine wpAny_comprehension_free (use := none) rfl hs hclos hkind hnames (wpAny_mono h (fun xv s₁ h₁ => ?_) fun _ _ e => e)
  obtain ⟨r, a, b, c, t, u, v, n, news, rfl, hh, F, N, hr, hsm, hn, hsz, R⟩ := h₁
  refine wpAny_pyIter_range hr hsm ?_
  have W : Walks prog w A s₁.heap.objs.size [s₁.heap.objs.size] [s₁.heap.objs.size] n (fun i v => ∃ t, v = .int (a + (i : Int) * c) t) (fun i h => IsRangeIter h s₁.heap.objs.size (a + (i : Nat) * c) ((n : Int) - (i : Nat)) c) := Walks.range hh _ a c n
  refine block_U (S := fun _ => True) W hsz (fun i h st => ⟨_, st⟩) (fun i h h' o nw st e e' _ _ _ => ?_) hcell hkind hx (by show IsRangeIter _ _ _ _ _; rw [hn]; simpa using Heap.get?_push_size _ rfl) (fun b hb => ?_)
    (F.keeps fun _ _ e => Heap.get?_push_of_some _ e) (N.grown fun _ _ e => Heap.get?_push_of_some _ e) (Nat.ne_of_lt F.ns.lt) (next_is_new F) (fun p hp => Nat.ne_of_lt (Heap.lt_size (N p hp).1)) trivial (R _ ⟨_, rfl⟩) ?_
  · have st' : h.get? s₁.heap.objs.size = some _ := st
    show h'.get? s₁.heap.objs.size = some _
    rw [e', ← e]; exact st'
  · rw [List.mem_singleton.mp hb]
    show s₁.heap.objs.size < (s₁.heap.push _).objs.size
    rw [Heap.size_push]; exact Nat.lt_succ_self _
  · intro D C h tk m' ys news' F' N' o1 hn' hC₀ hD₀ hCL hDL hCD offC fin
    refine ⟨m', hn', fun h'' hs'' => fin D h'' tk (F'.change hs'' hCL hC₀) (fun p hp => ?_) o1⟩
    refine ⟨hs''.extBut _ _ ?_ (N' p hp).1, (N' p hp).2⟩
    rcases List.mem_cons.mp hp with rfl | hp
    · exact Ne.symm hCD
    · exact offC p hp
end

end Mine
namespace Mine
theorem fmod_lit (x : Int) (n : Nat) : x.fmod (no_index (OfNat.ofNat n)) = x % (OfNat.ofNat n) := Int.fmod_eq_emod_of_nonneg _ (Int.natCast_nonneg n)
theorem fdiv_lit (x : Int) (n : Nat) : x.fdiv (no_index (OfNat.ofNat n)) = x / (OfNat.ofNat n) := Int.fdiv_eq_ediv_of_nonneg _ (Int.natCast_nonneg n)
theorem range_size {a b : Int} {n : Nat} (h : b - a = (n : Int)) : Builtin.Range.rangeSize a b 1 = (n : Int) := by
  unfold Builtin.Range.rangeSize
  simp only [show (1 : Int) > 0 by decide, if_true]
  split <;> omega
theorem fitsLong {x : Int} (h1 : -(2 ^ 62) ≤ x) (h2 : x ≤ 2 ^ 62) : Builtin.Range.rangeFitsLong x = true := by
  unfold Builtin.Range.rangeFitsLong
  simp
  omega
theorem range_small_of {a b c : Int} (h1 : -1000000 ≤ a ∧ a ≤ 1000000) (h2 : -1000000 ≤ b ∧ b ≤ 1000000) (h3 : 0 < c ∧ c ≤ 1000) (h4 : -10000000 ≤ Builtin.Range.rangeSize a b c ∧ Builtin.Range.rangeSize a b c ≤ 10000000) : Builtin.Range.small a b c = true := by
  unfold Builtin.Range.small
  rw [fitsLong (by omega) (by omega), fitsLong (by omega) (by omega), fitsLong (by omega) (by omega), fitsLong (by omega) (by omega), if_pos h3.1, fitsLong (by omega) (by omega)]
  simp
theorem range_small {a b : Int} (h1 : -1000000 ≤ a ∧ a ≤ 1000000) (h2 : -1000000 ≤ b ∧ b ≤ 1000000) : Builtin.Range.small a b 1 = true := by
  refine range_small_of h1 h2 (by decide) ?_
  unfold Builtin.Range.rangeSize
  simp only [show (1 : Int) > 0 by decide, if_true]
  split <;> omega
theorem range_small7 {a b : Int} (h1 : -1000000 ≤ a ∧ a ≤ 1000000) (h2 : -1000000 ≤ b ∧ b ≤ 1000000) : Builtin.Range.small a b 7 = true := by
  refine range_small_of h1 h2 (by decide) ?_
  unfold Builtin.Range.rangeSize
  simp only [show (7 : Int) > 0 by decide, if_true]
  split <;> omega
theorem range_size7 {b : Int} {n : Nat} (h0 : 0 ≤ b) (h : (b + 6) / 7 = (n : Int)) : Builtin.Range.rangeSize 0 b 7 = (n : Int) := by
  unfold Builtin.Range.rangeSize
  simp only [show (7 : Int) > 0 by decide, if_true]
  split <;> omega
end Mine
namespace Mine
theorem pick7 (vs : List Value) (i : Nat) {a b : Int} (ha : a = 7 * (i : Int)) (hb : b = 7 * (i : Int) + 7) : kms_pick vs (some a) (some b) = (vs.drop (7 * i)).take 7 := by
  subst ha hb
  unfold kms_pick
  have e1 : kms_lo (some (7 * (i : Int))) vs.length = min (7 * i) vs.length := by
    unfold kms_lo
    simp only
    rw [if_neg (by omega)]
    omega
  have e2 : kms_hi (some (7 * (i : Int) + 7)) vs.length = min (7 * i + 7) vs.length := by
    unfold kms_hi
    simp only
    rw [if_neg (by omega)]
    omega
  rw [e1, e2, kmk_drop_min]
  have e3 : (vs.drop (7 * i)).length = vs.length - 7 * i := List.length_drop
  rcases Nat.le_total (7 * i + 7) vs.length with h | h
  · congr 1
    omega
  · rw [List.take_of_length_le (by omega), List.take_of_length_le (by omega)]

/-- the end of an element: one new list on the ledger -/
def RowEnd (h₀ : Heap) (L : Addr) (m : Str → Option Value) (led : Led) (ws : List Value) (s₁ : Shared) (y : Value) (s' : Shared) : Prop :=
  ∃ D' h' tk' c, y = .ref D' ∧ s' = { s₁ with heap := h', toks := tk' } ∧ Fr h₀ L h' m ∧ News h₀ L h' ((D', listOf ws.toArray c) :: led) ∧ ∀ p ∈ led, @LT.lt Nat _ p.1 D'

theorem chunk_succ (xs : List (Option Int)) (k : Nat) : chunk xs (k + 1) = chunk xs k ++ [(xs.drop (7 * k)).take 7] := by
  unfold chunk
  rw [List.range_succ, List.map_append]
  rfl

section
variable {prog : Program} {w : World} {A : Around} {E : Value → Shared → Prop} {s : Shared} {h₀ : Heap} {L : Addr} {m : Str → Option Value} {env : Env}
/-- [xs[i:i + 7] for i in range(0, b, 7)] -/
theorem comp7 {elt : Expr} {x : Str} {scope : Scope} {cl : List (Str × Addr)} {Q : Value → Shared → Prop} {r : Addr} {b : Int} {t u v : Tok} {n : Nat} {base : Led} {vs : List Value} {xs : List (Option Int)}
    (hh : A.handled = none) (F : Fr h₀ L s.heap m) (N : News h₀ L s.heap base) (hr : IsRange s.heap r 0 b 7 t u v) (hb : 0 ≤ b ∧ b ≤ 10000) (hn : (b + 6) / 7 = (n : Int)) (hx : DatAll [] vs (xs.map cellD))
    (turn : ∀ (i : Nat) (rows : Led) ys t I oI C oC D m₂ h tk (E' : Value → Shared → Prop), i < n → NsObj oC m₂ → m₂ x = some (.int (0 + (i : Int) * 7) t) → Fr h₀ L h m → News h₀ L h ((I, oI) :: (C, oC) :: (D, lst ys) :: (base ++ rows)) →
      wpAny (model prog w) A (eval elt (compEnvC scope cl C env)) (RowEnd h₀ L m ((I, oI) :: (C, oC) :: (D, lst ys) :: (base ++ rows)) ((vs.drop (7 * i)).take 7) { s with heap := h, toks := tk }) E' { s with heap := h, toks := tk })
    (fin : ∀ D h tk ys rows, Fr h₀ L h m → News h₀ L h ((D, lst ys) :: (rows ++ base)) → Apart ((D, lst ys) :: rows) base → DatAll rows ys ((chunk xs n).map rowD) → Q (.ref D) { s with heap := h, toks := tk }) :
    SrcStep prog w A h₀ L m env elt x scope cl (fun s₂ => FinE h₀ L m s₂ Q) (.ref r) s := by
  refine ⟨r, 0, b, 7, t, u, v, n, base, rfl, hh, F, N, hr, range_small7 (by omega) (by omega), range_size7 hb.1 hn, by rw [sizeLine_eq]; omega, ?_⟩
  rintro _ ⟨g, rfl⟩
  refine rest_inv (n := n) (fun i ys nw => ∃ rows, nw = base ++ rows ∧ Apart rows base ∧ DatAll rows ys ((chunk xs i).map rowD)) ?_ ?_ n 0 [] base (by omega) ⟨[], by simp, fun _ hp => absurd hp List.not_mem_nil, .nil⟩
  · rintro i ys _ v I oI C oC D m₂ h tk E' hi ⟨rows, rfl, ha, hd⟩ ⟨t', rfl⟩ hC hx' F' N' off ne
    refine wpAny_mono (turn i rows ys t' I oI C oC D m₂ h tk E' hi hC hx' F' N') (fun y s' he => ?_) fun _ _ e => e
    obtain ⟨D', h', tk', c, rfl, rfl, F₂, N₂, lt⟩ := he
    refine ⟨h', tk', base ++ ((D', listOf ((vs.drop (7 * i)).take 7).toArray c) :: rows), rfl, F₂, fun p hp => N₂ p ?_, ?_, trivial, _, rfl, ?_, ?_⟩
    · simp only [List.mem_cons, List.mem_append] at hp ⊢
      rcases hp with h | h | h | h | h | h
      · exact .inr (.inl h)
      · exact .inr (.inr (.inl h))
      · exact .inr (.inr (.inr (.inl h)))
      · exact .inr (.inr (.inr (.inr (.inl h))))
      · exact .inl h
      · exact .inr (.inr (.inr (.inr (.inr h))))
    · refine Off3.of fun p hp => ?_
      have o3 := off.mem
      have l1 := lt (I, oI) (by simp)
      have l2 := lt (C, oC) (by simp)
      have l3 := lt (D, lst ys) (by simp)
      simp only [List.mem_cons, List.mem_append] at hp
      rcases hp with h | rfl | h
      · exact o3 p (List.mem_append_left _ h)
      · exact ⟨Nat.ne_of_gt l1, Nat.ne_of_gt l2, Nat.ne_of_gt l3⟩
      · exact o3 p (List.mem_append_right _ h)
    · intro p hp q hq
      rcases List.mem_cons.mp hp with rfl | hp
      · exact Nat.ne_of_gt (lt q (by simp [hq]))
      · exact ha p hp q hq
    · rw [chunk_succ, List.map_append]
      refine DatAll.append (hd.mono fun p hp => List.mem_cons_of_mem _ hp) (.one (.list (List.mem_cons_self) ?_))
      rw [List.map_take, List.map_drop]
      exact DatAll.take' (DatAll.drop' (hx.mono fun _ hp => absurd hp List.not_mem_nil) _) _
  · rintro ys _ ⟨rows, rfl, ha, hd⟩ D h tk F' N' o1
    refine fin D h tk ys rows F' (fun p hp => N' p ?_) ?_ hd
    · simp only [List.mem_cons, List.mem_append] at hp ⊢
      rcases hp with h | h | h
      · exact .inl h
      · exact .inr (.inr h)
      · exact .inr (.inl h)
    · have off1 : ∀ (l : Led), Off1 D l → ∀ p ∈ l, @Ne Nat p.1 D := by
        intro l
        induction l with
        | nil => intro _ p hp; exact nomatch hp
        | cons a l ih =>
          intro o p hp
          rcases List.mem_cons.mp hp with rfl | hp
          · exact o.1
          · exact ih o.2 p hp
      intro p hp q hq
      rcases List.mem_cons.mp hp with rfl | hp
      · exact Ne.symm (off1 _ o1 q (List.mem_append_left _ hq))
      · exact ha p hp q hq
end

/-- all of the ledger stands below d -/
def Bnd (d : Addr) (l : Led) : Prop := ∀ p ∈ l, p.1 < d
theorem Bnd.ne {d e : Addr} {l : Led} (h : Bnd d l) (k : @LE.le Nat _ d e) : ∀ p ∈ l, p.1 ≠ e := fun p hp => Nat.ne_of_lt (Nat.lt_of_lt_of_le (h p hp) k)
theorem Bnd.lt {d e : Addr} {l : Led} (h : Bnd d l) (k : @LE.le Nat _ d e) : ∀ p ∈ l, p.1 < e := fun p hp => Nat.lt_of_lt_of_le (h p hp) k
end Mine
namespace Mine
theorem rangeKs_days (N : Nat) : (rangeKs 1 N).map some = dayNs N := by
  unfold rangeKs dayNs
  rw [List.map_map]
  apply List.map_congr_left
  intro i _
  simp only [Function.comp]
  congr 1
  omega
theorem days_all {vs : List Value} {N : Nat} (h : IntsAre vs (rangeKs 1 N)) (lp : Nat) : DatAll [] (List.replicate lp Value.none ++ vs ++ List.replicate (Int.toNat 7) Value.none) ((daysL lp N).map cellD) := by
  unfold daysL
  rw [List.map_append, List.map_append, ← rangeKs_days]
  exact ((datAll_rep [] lp).append (datAll_map_ints h)).append (datAll_rep [] 7)
end Mine
namespace Mine
theorem pick7' (vs : List Value) (i : Nat) : kms_pick vs (some (0 + (i : Int) * 7)) (some (0 + (i : Int) * 7 + 7)) = (vs.drop (7 * i)).take 7 := pick7 vs i (by omega) (by omega)
theorem News.sub {h₀ h : Heap} {L : Addr} {a b : Led} (N : News h₀ L h a) (s : ∀ p ∈ b, p ∈ a) : News h₀ L h b := fun p hp => N p (s p hp)
theorem Apart.sub {a b c : Led} (A : Apart a b) (s : ∀ p ∈ c, p ∈ b) : Apart a c := fun p hp q hq => A p hp q (s q hq)
end Mine
end
section
open PySem PySem.W PyProof.Rows PySem.Calls PySem.Spec PyProof.Rows.LCg
set_option linter.unusedVariables false
set_option maxRecDepth 100000
namespace Mine
open PySem.Builtin PySem.Builtin._datetime

theorem mro_date : mroOf (.type "datetime.date") = pure [.type "datetime.date", .type "object"] := by rw [mroOf_type]; kernel_rfl
theorem lookup_date_new : typeLookup (.type "datetime.date") "__new__" = pure (some (.builtin "datetime.date.__new__")) := by rw [typeLookup_type, builtinLookup_eq_fast]; kernel_rfl
theorem sub_date : isSubtype (.type "datetime.date") (.type "datetime.date") = pure true := by rw [isSubtype_type]; kernel_rfl
theorem sub_date_dt : isSubtype (.type "datetime.date") (.type "datetime.datetime") = pure false := by rw [isSubtype_type]; kernel_rfl
theorem slot_date_init : Slot "datetime.date" "__init__" "object.__init__" :=
  .of (owner := "object") (n := "__init__") (by rw [typeLookup_type, builtinLookup_eq_fast]; kernel_rfl) (by decide +kernel) (by decide +kernel) (by decide +kernel)
    (by first | exact .inl (by decide +kernel) | exact .inr (by decide +kernel)) (by rw [isSubtype_type]; kernel_rfl)
theorem slot_date_weekday : Slot "datetime.date" "weekday" "datetime.date.weekday" :=
  .of (owner := "datetime.date") (n := "weekday") (by rw [typeLookup_type, builtinLookup_eq_fast]; kernel_rfl) (by decide +kernel) (by decide +kernel) (by decide +kernel)
    (by first | exact .inl (by decide +kernel) | exact .inr (by decide +kernel)) (by rw [isSubtype_type]; kernel_rfl)
theorem called_date : TypeCalled "datetime.date" "datetime.date.__new__" "object.__init__" :=
  ⟨by decide +kernel, by decide +kernel, ⟨_, _, mro_date⟩, madeBy_type mro_date lookup_date_new (by decide +kernel), by decide +kernel, sub_date, slot_date_init⟩
theorem typeCall_date (a b c : Value) : checkTypeCall "datetime.date" ⟨[a, b, c], []⟩ = pure () := by kernel_rfl
theorem newCall_date (a b c : Value) : checkBuiltinCall "datetime.date.__new__" ⟨[.type "datetime.date", a, b, c], []⟩ = pure () := by kernel_rfl
theorem entry_date_new : entryFor table "datetime.date.__new__" = some Builtin.«datetime.date.__new__» := entryFor_of_tree (by kernel_rfl)
theorem entry_date_weekday : entryFor table "datetime.date.weekday" = some Builtin.«datetime.date.weekday» := entryFor_of_tree (by kernel_rfl)
theorem args_date_weekday (a : Value) : argsOk "datetime.date.weekday" ⟨[a], []⟩ := by unfold argsOk; kernel_rfl
theorem args_oinit_4 (a b c d : Value) : argsOk "object.__init__" ⟨[a, b, c, d], []⟩ := by unfold argsOk; kernel_rfl
theorem newNe_date : (some "datetime.date.__new__" != some "object.__new__") = true := by decide +kernel

theorem cint {i : Int} {t : Tok} (h1 : -1000000 ≤ i) (h2 : i ≤ 1000000) : dtCInt (.int i t) = pure i := by
  unfold dtCInt
  show (do let i ← (pure i : Sem Int); _) = _
  rw [pure_bind]
  have a1 : ¬ ((decide (i ≥ 2 ^ 63) || decide (i < -(2 ^ 63 : Int))) = true) := by
    rw [Bool.or_eq_true, decide_eq_true_eq, decide_eq_true_eq]
    omega
  have a2 : ¬ (i ≥ 2 ^ 31) := by omega
  have a3 : ¬ (i < -(2 ^ 31 : Int)) := by omega
  rw [if_neg a1, if_neg a2, if_neg a3]
theorem bindInts {y m d : Int} {t u v : Tok} (h1 : 1 ≤ y) (h2 : y ≤ 9999) (h3 : 1 ≤ m) (h4 : m ≤ 12) (h5 : 1 ≤ d) (h6 : d ≤ 31) :
    dtBindInts "datetime.date.__new__" "function" ["year", "month", "day"] 3 [.int y t, .int m u, .int d v] [] = pure [some y, some m, some d] := by
  unfold dtBindInts
  have e1 := cint (t := t) (show -1000000 ≤ y by omega) (show y ≤ 1000000 by omega)
  have e2 := cint (t := u) (show -1000000 ≤ m by omega) (show m ≤ 1000000 by omega)
  have e3 := cint (t := v) (show -1000000 ≤ d by omega) (show d ≤ 1000000 by omega)
  simp [e1, e2, e3, dtBind]

theorem dim28 (y : Int) {m : Int} (h3 : 1 ≤ m) (h4 : m ≤ 12) : 28 ≤ daysInMonth y m := by
  have : m = 1 ∨ m = 2 ∨ m = 3 ∨ m = 4 ∨ m = 5 ∨ m = 6 ∨ m = 7 ∨ m = 8 ∨ m = 9 ∨ m = 10 ∨ m = 11 ∨ m = 12 := by omega
  rcases this with h | h | h | h | h | h | h | h | h | h | h | h <;> subst h <;> unfold daysInMonth <;> split <;> decide
theorem meets_date_new {y m d : Int} {t u v : Tok} (h1 : 1 ≤ y) (h2 : y ≤ 9999) (h3 : 1 ≤ m) (h4 : m ≤ 12) (h5 : 1 ≤ d) (h6 : d ≤ 28) :
    Meets (Builtin.«datetime.date.__new__» ⟨[.type "datetime.date", .int y t, .int m u, .int d v], []⟩)
      (fun _ R s => R (.ok (.ret (.ref s.heap.objs.size))) { s with heap := s.heap.push { cls := .type "datetime.date", data := .fields #[rawInt y, rawInt m, rawInt d] } }) := by
  refine Meets.of_wp fun prog w A R s hs => ?_
  have b := bindInts (t := t) (u := u) (v := v) h1 h2 h3 h4 h5 (show d ≤ 31 by omega)
  unfold Builtin.«datetime.date.__new__» dtNewClass
  have s1 := sub_date
  have s2 := sub_date_dt
  repeat (any_goals (first | assumption | wp_step))
  have d28 := dim28 y h3 h4
  rw [if_neg (by rw [Bool.or_eq_true, decide_eq_true_eq, decide_eq_true_eq]; omega)]
  repeat (any_goals (first | assumption | wp_step))
  exact ⟨_, rfl, hs⟩

theorem meets_weekday {a : Addr} {y m d : Int} {t u v : Tok} : 
    Meets (Builtin.«datetime.date.weekday» ⟨[.ref a], []⟩)
      (fun _ R s => s.heap.get? a = some { cls := .type "datetime.date", data := .fields #[.int y t, .int m u, .int d v] } ∧ R (.ok (.ret (.int (weekdayOf (toOrdinal y m d)) s.toks))) { s with toks := s.toks + 1 }) := by
  refine Meets.of_wp fun prog w A R s hs => ?_
  obtain ⟨ho, hs⟩ := hs
  show wpAny _ _ (do let (y, m, d) ← dateParts (← selfOnly _ ⟨[.ref a], []⟩); retInt (weekdayOf (toOrdinal y m d))) _ _ s
  unfold dateParts dateParts? selfOnly
  have s1 := sub_date
  repeat (any_goals (first | assumption | wp_step))
  exact ⟨_, rfl, hs⟩

section
variable {prog : Program} {w : World} {A : Around} {E : Value → Shared → Prop} {s : Shared} {h₀ : Heap} {L : Addr} {m : Str → Option Value} {news : Led}
abbrev dateObj (y m d : Int) : Obj := { cls := .type "datetime.date", data := .fields #[rawInt y, rawInt m, rawInt d] }
theorem m_date {y mo d : Int} {t u v : Tok} {Q : Value → Shared → Prop} (F : Fr h₀ L s.heap m) (N : News h₀ L s.heap news) (h1 : 1 ≤ y) (h2 : y ≤ 9999) (h3 : 1 ≤ mo) (h4 : mo ≤ 12) (h5 : 1 ≤ d) (h6 : d ≤ 28)
    (h : ∀ D h', Fr h₀ L h' m → News h₀ L h' ((D, dateObj y mo d) :: news) → (∀ p ∈ news, p.1 < D) → Q (.ref D) { s with heap := h' }) :
    wpAny (model prog w) A (call (.type "datetime.date") [.int y t, .int mo u, .int d v]) Q E s := by
  refine callType_new called_date newNe_date (typeCall_date _ _ _) (newCall_date _ _ _) (fun obj => args_oinit_4 obj _ _ _) entry_date_new (meets_date_new h1 h2 h3 h4 h5 h6) ?_
  exact ⟨⟨_, Heap.get?_push_size _ rfl, rfl⟩, h _ _ (F.push _) (N.push F _ rfl) fun p hp => Heap.lt_size (N p hp).1⟩
theorem plainAttrs_date : PlainAttrs "datetime.date" :=
  ⟨⟨"object.__getattribute__", by rw [typeLookup_type, builtinLookup_eq_fast]; kernel_rfl, by decide +kernel⟩, by rw [typeLookup_type, builtinLookup_eq_fast]; kernel_rfl⟩
theorem type_weekday : typeOf (.builtin "datetime.date.weekday") = pure (.type "method_descriptor") := by kernel_rfl
theorem m_weekdayM {D : Addr} {y mo d : Int} {pl : Sem Bool} {Q : Value × List Value → Shared → Prop} (N : News h₀ L s.heap news) (hm : (D, dateObj y mo d) ∈ news) (h : Q (.builtin "datetime.date.weekday", [.ref D]) s) :
    wpAny (model prog w) A (getMethod (.ref D) "weekday" pl) Q E s :=
  getMethod_builtin ⟨_, N.get hm, rfl⟩ plainAttrs_date slot_date_weekday type_weekday (fun a e => by cases e; exact ⟨_, N.get hm, rfl⟩) h
theorem m_weekday {D : Addr} {y mo d : Int} {Q : Value → Shared → Prop} (N : News h₀ L s.heap news) (hm : (D, dateObj y mo d) ∈ news)
    (h : ∀ k t, 0 ≤ k → k ≤ 6 → Q (.int k t) { s with toks := s.toks + 1 }) :
    wpAny (model prog w) A (call (.builtin "datetime.date.weekday") [.ref D]) Q E s := by
  refine call_meets slot_date_weekday ⟨_, N.get hm, rfl⟩ entry_date_weekday (args_date_weekday _) (meets_weekday (y := y) (m := mo) (d := d) (t := 0) (u := 0) (v := 0)) ?_
  refine ⟨N.get hm, h _ _ ?_ ?_⟩ <;> (unfold weekdayOf; omega)
end
end Mine
end
section
open PySem PySem.W PyProof.Rows PySem.Calls PySem.Spec PyProof.Rows.LCg
set_option linter.unusedVariables false
set_option maxRecDepth 100000
namespace Mine
section
variable {prog : Program} {w : World} {A : Around} {E : Value → Shared → Prop} {s : Shared} {K : Frag} {x C : Addr}

theorem entry_int_eq : entryFor table "int.__eq__" = some Builtin.«int.__eq__» := entryFor_of_tree (by kernel_rfl)
theorem kind_int_eq : builtinKind "int.__eq__" = some .slot := by decide +kernel
theorem split_int_eq : splitId "int.__eq__" = some ("int", "__eq__") := by decide +kernel
theorem bind_int_eq (self : Value) : bindSpecial (.builtin "int.__eq__") self = pure (.builtin "int.__eq__", [self]) := PySem.F.slot_int_eq.bind self
theorem args_int_eq (a b : Value) : argsOk "int.__eq__" ⟨[a, b], []⟩ := by unfold argsOk; kernel_rfl

theorem check_int_eq {M : Model} {A : Around} {s : Shared} {a b T : Value} {Q : Unit → Shared → Prop} (h1 : Looks M s.heap (typeOf a) T) (h2 : Looks M s.heap (isSubtype T (.type "int")) true) (h : Q () s) :
    wpAny M A (checkBuiltinCall "int.__eq__" ⟨[a, b], []⟩) Q E s := by
  unfold checkBuiltinCall
  simp only [kind_int_eq, split_int_eq]
  unfold isInstance
  refine wpAny_bind (wpAny_bind (h1.here (h2.here ?_)))
  simp only [Bool.not_true, Bool.false_eq_true, if_false]
  have ok := args_int_eq a b
  cases hsig : Manifest.signature? "int.__eq__" with
  | none => exact wpAny_pure h
  | some sig =>
    simp only [argsOk, hsig] at ok
    have e : Bind.checkArgs "int.__eq__" sig ⟨[a, b], []⟩ = pure () := ok
    show wpAny M A (Bind.checkArgs "int.__eq__" sig ⟨[a, b], []⟩) Q E s
    rw [e]; exact wpAny_pure h

/-- an int compared with an object of an own class over int that keeps int's == -/
theorem m_eqOwn {n k : Int} {t tk : Tok} {dd : Option Addr} {sl : Array (Option Value)} {Q : Value → Shared → Prop} (X : K.In s.heap) (hu : A.units < cLine)
    (ho : K.lookup x = some ⟨.ref C, dd, .prim (.int k tk), sl⟩) (ht : typeIn K (.ref x) = some (.ref C)) (hs : subIn K (.ref C) (.type "int") = some true) (hf : findIn K (.ref C) "__eq__" = some (some (.builtin "int.__eq__")))
    (h : Q (.bool (k == n)) s) : wpAny (model prog w) A (compareOp .Eq (.int n t) (.ref x)) Q E s := by
  have hob : s.heap.get? x = some ⟨.ref C, dd, .prim (.int k tk), sl⟩ := X _ _ ho
  have L1 : Looks (model prog w) s.heap (typeOf (.ref x)) (.ref C) := looks_typeIn X ht
  have L2 : Looks (model prog w) s.heap (isSubtype (.ref C) (.type "int")) true := looks_subIn X hs
  have L3 : Looks (model prog w) s.heap (typeLookup (.ref C) "__eq__") (some (.builtin "int.__eq__")) := looks_findIn X hf
  show wpAny _ _ (richCompare .Eq (.int n t) (.ref x)) _ _ _
  unfold richCompare
  refine wpAny_holding (wpAny_bind (wpAny_cRoomFor hu ?_))
  show wpAny _ _ (do let ta ← typeOf (.int n t); _) _ _ _
  refine wpAny_bind (show wpAny _ _ (pure (Value.type "int") : Sem Value) _ _ _ from wpAny_pure ?_)
  refine wpAny_bind (L1.here ?_)
  refine wpAny_bind ?_
  show wpAny _ _ (isSubtype (.ref C) (.type "int")) _ _ _
  refine L2.here ?_
  simp only [if_true]
  have tail : wpAny (model prog w) A (call (.builtin "int.__eq__") [.ref x, .int n t]) (fun v s' => v = .bool (k == n) ∧ Q v s') E s := by
    refine wpAny_call (codeAny_call_builtin PySem.F.slot_int_eq.plain entry_int_eq (check_int_eq L1 L2 ?_))
    show wpAny _ _ (Builtin.Int.intBinary "__eq__" (fun x y => ret (.bool (x == y))) false ⟨[.ref x, .int n t], []⟩) _ _ _
    unfold Builtin.Int.intBinary slotArgs Builtin.Int.intOfSelf asInt?
    repeat (any_goals (first | assumption | wp_step))
    exact ⟨rfl, h⟩
  refine wpAny_bind ?_
  unfold tryCompare callSpecialIfBound? bindSpecialIfBound?
  have fin : wpAny (model prog w) A (call (.builtin "int.__eq__") ([.ref x] ++ [.int n t]) >>= fun v => pure (some v)) (fun r s' => r = some (Value.bool (k == n)) ∧ Q (.bool (k == n)) s') E s :=
    wpAny_bind (wpAny_mono tail (fun v s' h' => wpAny_pure ⟨by rw [h'.1], h'.1 ▸ h'.2⟩) fun _ _ h' => h')
  have both : wpAny (model prog w) A (holding [Value.ref x, Value.int n t] do
      let some (g, first) ← (do
        let some f ← specialOf (Value.ref x) "__eq__" | return none
        let bind : Sem (Option (Value × List Value)) := do return some (← bindSpecial f (Value.ref x))
        if (← ask).params.followText "special-get-raises" then bind
        else bind.tryCatch fun _ => do rule "special.get-raises-dropped"; pure none) | return none
      return some (← call g (first ++ [Value.int n t]))) (fun r s' => r = some (Value.bool (k == n)) ∧ Q (.bool (k == n)) s') E s := by
    refine wpAny_holding (wpAny_bind (wpAny_bind (wpAny_bind (L1.here (L3.here ?_)))))
    refine wpAny_bind (wpAny_askSetting (wpAny_ite ?_))
    split
    · exact wpAny_bind (wpAny_of_eq (bind_int_eq _) (wpAny_pure fin))
    · exact wpAny_tryCatch (wpAny_bind (wpAny_of_eq (bind_int_eq _) (wpAny_pure fin)))
  refine wpAny_bind (wpAny_mono both (fun r s' h' => ?_) fun _ _ h' => h')
  obtain ⟨rfl, hq⟩ := h'
  refine wpAny_pure (wpAny_bind (wpAny_rule (wpAny_pure hq)))
end
end Mine
namespace Mine
section
variable {prog : Program} {w : World} {A : Around} {E : Value → Shared → Prop} {s : Shared} {K : Frag}
theorem c0_use {d : Nat} {f : Addr} {vs : List Value} {Post : Value → Prop} {p : Program} {loose : List Str} {mean : ExcName → Option Value} {mg mb : Str → Option Value} {dp un : Nat} {gd : Option (List Code)} {cn : Str} {cs : Scope} {a : Addr} {ccd : Value} {cl : List (Str × Addr)} {outer : List Env} {A₀ : Around} {base h₀ : Heap} {L : Addr} {m : Str → Option Value} {news : Led} {s : Shared} {Q E : Value → Shared → Prop}
    (C : Ctr0 prog w K d f vs Post) (B : Below A₀ base outer h₀) (F : Fr h₀ L s.heap m) (X : K.In h₀) (N : News h₀ L s.heap news) (T : Top p loose mean mg mb h₀) (hk : cs.kind = .function) (hd : dp + d < recursionLimit) (hu : un + (8 * d + 80) < cLine)
    (ret : Ret0 h₀ L m news s Q Post) : wpAny (model prog w) (ktrTop dp un gd cn cs L a ccd cl outer) (call (.ref f) vs) Q E s := C p loose mean mg mb dp un gd cn cs a ccd cl outer A₀ base h₀ L m news s Q E B F X N T hk hd hu ret
theorem c_use {d : Nat} {f : Addr} {vs : List Value} {Pre : Led → Prop} {Post : Led → Value → Prop} {p : Program} {loose : List Str} {mean : ExcName → Option Value} {mg mb : Str → Option Value} {dp un : Nat} {gd : Option (List Code)} {cn : Str} {cs : Scope} {a : Addr} {ccd : Value} {cl : List (Str × Addr)} {outer : List Env} {A₀ : Around} {base h₀ : Heap} {L : Addr} {m : Str → Option Value} {news : Led} {s : Shared} {Q E : Value → Shared → Prop}
    (C : Ctr prog w K d f vs Pre Post) (B : Below A₀ base outer h₀) (F : Fr h₀ L s.heap m) (X : K.In h₀) (N : News h₀ L s.heap news) (T : Top p loose mean mg mb h₀) (hk : cs.kind = .function) (hd : dp + d < recursionLimit) (hu : un + (8 * d + 80) < cLine) (pre : Pre news)
    (ret : Ret h₀ L m news s Q Post) : wpAny (model prog w) (ktrTop dp un gd cn cs L a ccd cl outer) (call (.ref f) vs) Q E s := C p loose mean mg mb dp un gd cn cs a ccd cl outer A₀ base h₀ L m news s Q E B F X N T hk hd hu pre ret
theorem m_item_any {a : Addr} {l : List Value} {k : Int} {u : Tok} {value slice : PySem.Expr} {Q : Value → Shared → Prop} (ht : IsTup s.heap a l.toArray) (h0 : 0 ≤ k) (h1 : k < (l.length : Int)) (hl : l.length ≤ 1000)
    (h : ∀ v, v ∈ l → Q v s) (hs : subscripted slice false (.ref a) (.int k u) = operate [.ref a, .int k u] (getItem (.ref a) (.int k u)) := by with_unfolding_all rfl) :
    wpAny (model prog w) A (subscriptTail value slice (.ref a) (.int k u)) Q E s := by
  have hk : k.toNat < l.length := by omega
  refine item_tupleT ht (by omega) (by omega) (j := k.toNat) ?_ (List.getElem?_eq_getElem hk) (h _ (List.getElem_mem hk)) hs
  unfold seqIndex?
  simp only
  rw [if_pos (by simp; omega)]
  simp
  omega
theorem m_item_int {a : Addr} {l : List Value} {ns : List Int} {k : Int} {u : Tok} {value slice : PySem.Expr} {Q : Value → Shared → Prop} (ht : s.heap.IsList a l.toArray) (hi : IntsAre l ns) (h0 : 0 ≤ k) (h1 : k < (ns.length : Int)) (hl : ns.length ≤ 1000)
    (h : ∀ t, Q (.int (ns.getD k.toNat 0) t) s) (hs : subscripted slice false (.ref a) (.int k u) = operate [.ref a, .int k u] (getItem (.ref a) (.int k u)) := by with_unfolding_all rfl) :
    wpAny (model prog w) A (subscriptTail value slice (.ref a) (.int k u)) Q E s := by
  have hk : k.toNat < ns.length := by omega
  obtain ⟨t, ht'⟩ := hi.get k.toNat _ (List.getElem?_eq_getElem hk)
  refine tail_any ht.typeIs slot_list_getitem.lookup (wpAny_getItem_list ht h0 (by omega) (by simpa using ht') ?_) hs
  have := h t
  rw [List.getD_eq_getElem?_getD, List.getElem?_eq_getElem hk] at this
  exact this
end
end Mine
end
section
open PySem PySem.W PyProof.Rows PySem.Calls PySem.Spec PyProof.Rows.LCg
set_option linter.unusedVariables false
set_option exponentiation.threshold 100
set_option maxRecDepth 100000
namespace Mine
open PySem.Float64 in
theorem q4_c0 : Q4 4700144277945057280 6885702 := ⟨by decide +kernel, by decide +kernel⟩
theorem q4_c1 : Q4 4700589253736792064 7300118 := ⟨by decide +kernel, by decide +kernel⟩
theorem q4_c2 : Q4 4701007892789067776 7690006 := ⟨by decide +kernel, by decide +kernel⟩
theorem q4_c3 : Q4 4701801086275551232 8468842 := ⟨by decide +kernel, by decide +kernel⟩
theorem q4_c4 : Q4 4701119295650791424 7793758 := ⟨by decide +kernel, by decide +kernel⟩
theorem q4_c5 : Q4 4602678819172646912 2 := ⟨by decide +kernel, by decide +kernel⟩
theorem q4_c6 : Q4 4654419637352529920 6098 := ⟨by decide +kernel, by decide +kernel⟩
theorem q4_c7 : Q4 4645133162144333824 1461 := ⟨by decide +kernel, by decide +kernel⟩
theorem q4_c8 : Q4 4628996729495093248 118 := ⟨by decide +kernel, by decide +kernel⟩

/-- the month's part of the Gregorian day number: twelve months, three corrections, three days -/
def gPart (mo adj dd : Int) : UInt64 := Float64.add (Float64.add (Float64.ofFrac (decide (367 * mo - 362 < 0) != decide ((12 : Int) < 0)) (367 * mo - 362).natAbs (12 : Int).natAbs) (Float64.ofInt adj)) (Float64.ofInt dd)
def gOk (mo adj dd : Int) : Bool := Float64.isFinite (gPart mo adj dd) && (Flt.toInt Float64.floorOf (gPart mo adj dd) == (367 * mo - 362) / 12 + adj + dd)
theorem gOk_all : (([1, 2, 3, 4, 5, 6, 7, 8, 9, 10, 11, 12] : List Int).all fun mo => ([0, -1, -2] : List Int).all fun a => ([1, 21, 22] : List Int).all fun d => gOk mo a d) = true := by decide +kernel
theorem gPart_floor {mo adj dd : Int} (h1 : 1 ≤ mo) (h2 : mo ≤ 12) (ha : adj = 0 ∨ adj = -1 ∨ adj = -2) (hd : dd = 1 ∨ dd = 21 ∨ dd = 22) :
    Float64.isFinite (gPart mo adj dd) = true ∧ Flt.toInt Float64.floorOf (gPart mo adj dd) = (367 * mo - 362) / 12 + adj + dd := by
  have hm : mo ∈ ([1, 2, 3, 4, 5, 6, 7, 8, 9, 10, 11, 12] : List Int) := by
    simp only [List.mem_cons, List.not_mem_nil, or_false]
    omega
  have ha' : adj ∈ ([0, -1, -2] : List Int) := by simpa using ha
  have hd' : dd ∈ ([1, 21, 22] : List Int) := by simpa using hd
  have := List.all_eq_true.mp (List.all_eq_true.mp (List.all_eq_true.mp gOk_all mo hm) adj ha') dd hd'
  unfold gOk at this
  rw [Bool.and_eq_true, beq_iff_eq] at this
  exact this
/-- the Julian month's part -/
def jPart (n : Int) : UInt64 := Float64.mul 4629306380116972641 (Float64.ofInt n)
def jOk (n : Int) : Bool := Float64.isFinite (jPart n) && (Flt.toInt Float64.floorOf (jPart n) == 306001 * n / 10000)
theorem jOk_all : (([4, 5, 6, 7, 8, 9, 10, 11, 12, 13, 14, 15] : List Int).all jOk) = true := by decide +kernel
theorem jPart_floor {n : Int} (h1 : 4 ≤ n) (h2 : n ≤ 15) : Float64.isFinite (jPart n) = true ∧ Flt.toInt Float64.floorOf (jPart n) = 306001 * n / 10000 := by
  have hm : n ∈ ([4, 5, 6, 7, 8, 9, 10, 11, 12, 13, 14, 15] : List Int) := by
    simp only [List.mem_cons, List.not_mem_nil, or_false]
    omega
  have := List.all_eq_true.mp jOk_all n hm
  unfold jOk at this
  rw [Bool.and_eq_true, beq_iff_eq] at this
  exact this

theorem notNaN {x : UInt64} (h : Float64.isFinite x = true) : ¬ Float64.isNaN x = true := by
  obtain ⟨a, m, e, hd⟩ := fin_of h
  unfold Float64.isNaN
  rw [hd]
  exact Bool.false_ne_true
theorem notInf {x : UInt64} (h : Float64.isFinite x = true) : ¬ Float64.isInf x = true := by
  obtain ⟨a, m, e, hd⟩ := fin_of h
  unfold Float64.isInf
  rw [hd]
  exact Bool.false_ne_true

section
variable {prog : Program} {w : World} {A : Around} {E : Value → Shared → Prop} {s : Shared} {x : UInt64} {t : Tok} {k r n d : Int} {Q : Value → Shared → Prop}
theorem m_floorBy (hA : A.handled = none) (hf : Float64.isFinite x = true ∧ Flt.toInt Float64.floorOf x = r) (h : Q (.int r s.toks) { s with toks := s.toks + 1 }) :
    wpAny (model prog w) A (call (.builtin "math.floor") [.float x t]) Q E s :=
  Flt.call_floor_float hA (fun q => absurd q (notNaN hf.1)) (fun q => absurd q (notInf hf.1)) fun _ => hf.2.symm ▸ h
theorem m_floor (hA : A.handled = none) (q : Q4 x k) (h : Q (.int (k / 4) s.toks) { s with toks := s.toks + 1 }) : wpAny (model prog w) A (call (.builtin "math.floor") [.float x t]) Q E s :=
  m_floorBy hA ⟨q.1, q4_floor q⟩ h
theorem m_ceil (hA : A.handled = none) (q : Q4 x k) (h : Q (.int (-((-k) / 4)) s.toks) { s with toks := s.toks + 1 }) : wpAny (model prog w) A (call (.builtin "math.ceil") [.float x t]) Q E s :=
  Flt.call_ceil_float hA (fun z => absurd z (notNaN q.1)) (fun z => absurd z (notInf q.1)) fun _ => (q4_ceil q).symm ▸ h
theorem m_trunc (hA : A.handled = none) (q : Q4 x k) (hk : 0 ≤ k) (h : Q (.int (k / 4) s.toks) { s with toks := s.toks + 1 }) : wpAny (model prog w) A (call (.builtin "math.trunc") [.float x t]) Q E s :=
  Flt.call_trunc_float hA (fun z => absurd z (notNaN q.1)) (fun z => absurd z (notInf q.1)) fun _ => (q4_trunc q hk).symm ▸ h
theorem m_floorQuot (hA : A.handled = none) (h0 : 0 ≤ n ∧ n ≤ 1000000000) (h1 : 0 < d ∧ d ≤ 1000) (h : Q (.int (n / d) s.toks) { s with toks := s.toks + 1 }) :
    wpAny (model prog w) A (call (.builtin "math.floor") [.float (Float64.ofFrac (decide (n < 0) != decide (d < 0)) n.natAbs d.natAbs) t]) Q E s := by
  have e : (decide (n < 0) != decide (d < 0)) = false := by
    rw [decide_eq_false (by omega : ¬ n < 0), decide_eq_false (by omega : ¬ d < 0)]
    rfl
  rw [e]
  have q := quot_floor n.natAbs d.natAbs (by omega) (by omega) (by omega)
  refine m_floorBy hA ⟨q.1, ?_⟩ h
  rw [q.2, Int.natCast_ediv, Int.natAbs_of_nonneg h0.1, Int.natAbs_of_nonneg (Int.le_of_lt h1.1)]
theorem m_floorG {mo adj dd : Int} (hA : A.handled = none) (h1 : 1 ≤ mo) (h2 : mo ≤ 12) (ha : adj = 0 ∨ adj = -1 ∨ adj = -2) (hd : dd = 1 ∨ dd = 21 ∨ dd = 22)
    (h : Q (.int ((367 * mo - 362) / 12 + adj + dd) s.toks) { s with toks := s.toks + 1 }) :
    wpAny (model prog w) A (call (.builtin "math.floor") [.float (Float64.add (Float64.add (Float64.ofFrac (decide (367 * mo - 362 < 0) != decide ((12 : Int) < 0)) (367 * mo - 362).natAbs (12 : Int).natAbs) (Float64.ofInt adj)) (Float64.ofInt dd)) t]) Q E s :=
  m_floorBy hA (gPart_floor h1 h2 ha hd) h
theorem m_floorJ {n : Int} (hA : A.handled = none) (h1 : 4 ≤ n) (h2 : n ≤ 15) (h : Q (.int (306001 * n / 10000) s.toks) { s with toks := s.toks + 1 }) :
    wpAny (model prog w) A (call (.builtin "math.floor") [.float (Float64.mul 4629306380116972641 (Float64.ofInt n)) t]) Q E s :=
  m_floorBy hA (jPart_floor h1 h2) h
end

/-! ### what the defs reckon, in plain ints -/
def isleapB (y : Int) : Bool := y % 4 == 0 && (y % 100 != 0 || y % 400 == 0)
def gregJ (y m d : Int) : Int := 1721425 + 365 * (y - 1) + (y - 1) / 4 - (y - 1) / 100 + (y - 1) / 400 + ((367 * m - 362) / 12 + (if m ≤ 2 then 0 else if isleapB y = true then -1 else -2) + d)
def gregLen (y m : Int) : Int := if m = 2 then (if isleapB y = true then 29 else 28) else if m = 4 ∨ m = 6 ∨ m = 9 ∨ m = 11 then 30 else 31
def julJ (y m : Int) : Int := if m ≤ 2 then 1461 * (y - 1 + 4716) / 4 + 306001 * (m + 12 + 1) / 10000 + 1 - 1524 else 1461 * (y + 4716) / 4 + 306001 * (m + 1) / 10000 + 1 - 1524
def julLen (y m : Int) : Int := if m = 2 then (if y % 4 = 0 then 29 else 28) else if m = 4 ∨ m = 6 ∨ m = 9 ∨ m = 11 then 30 else 31
def copJ (y m : Int) : Int := 1 + (m - 1) * 30 + (y - 1) * 365 + y / 4 + 1825029
def copLen (y m : Int) : Int := if m ≤ 12 then 30 else if y % 4 = 3 then 6 else 5
def armJ (y m : Int) : Int := 1922502 + 365 * y + ((m - 1) * 30 + 1)
def armLen (y m : Int) : Int := if m = 13 then 5 else 30
def sarJ (y m : Int) : Int := 2117211 + 365 * (y - 533) + (y - 533) / 4 + ((m - 1) * 30 + 1)
def sarLen (y m : Int) : Int := if m = 13 then (if y % 4 = 0 then 6 else 5) else 30
def islJ (y m : Int) : Int := 1 + -((-(59 * (m - 1))) / 2) + (y - 1) * 354 + (3 + 11 * y) / 30 + 1948439
def islLen (y m : Int) : Int := if m % 2 = 1 then 30 else if m = 12 ∧ (y * 11 + 14) % 30 < 11 then 30 else 29
def indJ (y m : Int) : Int := gregJ (y + 78) 3 (if isleapB (y + 78) = true then 21 else 22) + (if m = 1 then 0 else (if isleapB (y + 78) = true then 31 else 30) + (if m ≤ 7 then (m - 2) * 31 else 155 + (m - 7) * 30))
def indLen (y m : Int) : Int := if 2 ≤ m ∧ m ≤ 6 then 31 else if m = 1 ∧ isleapB (y - 78) = true then 31 else 30

/-! ### the ends -/
def leafJ (j n : Int) : Dat := leafD (leafL ((j + 1) % 7).toNat n.toNat)
theorem leafJ_of (j n : Int) : leafD (leafL ((j % 7 + 1) % 7).toNat n.toNat) = leafJ j n := by
  unfold leafJ
  rw [show (j % 7 + 1) % 7 = (j + 1) % 7 by omega]
theorem q4_cast {x : UInt64} {a b : Int} (h : Q4 x a) (e : a = b) : Q4 x b := e ▸ h
theorem all_refs {l : List Value} {v : Value} (h : (l.all fun v => match v with | .ref _ => true | _ => false) = true) (m : v ∈ l) : ∃ a, v = .ref a := by
  have := List.all_eq_true.mp h v m
  cases v with
  | ref a => exact ⟨a, rfl⟩
  | _ => cases this
theorem months {m : Int} (h1 : 1 ≤ m) (h2 : m ≤ 12) : m = 1 ∨ m = 2 ∨ m = 3 ∨ m = 4 ∨ m = 5 ∨ m = 6 ∨ m = 7 ∨ m = 8 ∨ m = 9 ∨ m = 10 ∨ m = 11 ∨ m = 12 := by omega
theorem gLen1 {y m : Int} (h : 2 = m) : [0, 31, 28, 31, 30, 31, 30, 31, 31, 30, 31, 30, 31].getD m.toNat 0 + (if isleapB y = true then 1 else 0) = gregLen y m := by
  subst h
  unfold gregLen
  rw [if_pos rfl]
  split <;> rfl
theorem gLen2 {y m : Int} (h1 : 1 ≤ m) (h2 : m ≤ 12) (h : 2 ≠ m) : [0, 31, 28, 31, 30, 31, 30, 31, 31, 30, 31, 30, 31].getD m.toNat 0 + (if (2 == m) = true then 1 else 0) = gregLen y m := by
  rcases months h1 h2 with e | e | e | e | e | e | e | e | e | e | e | e <;> subst e <;> first | exact absurd rfl h | rfl
theorem gregLen_b (y m : Int) : 1 ≤ gregLen y m ∧ gregLen y m ≤ 31 := by unfold gregLen; (repeat' split) <;> omega
theorem julLen_b (y m : Int) : 1 ≤ julLen y m ∧ julLen y m ≤ 31 := by unfold julLen; (repeat' split) <;> omega
theorem copLen_b (y m : Int) : 1 ≤ copLen y m ∧ copLen y m ≤ 31 := by unfold copLen; (repeat' split) <;> omega
theorem armLen_b (y m : Int) : 1 ≤ armLen y m ∧ armLen y m ≤ 31 := by unfold armLen; (repeat' split) <;> omega
theorem sarLen_b (y m : Int) : 1 ≤ sarLen y m ∧ sarLen y m ≤ 31 := by unfold sarLen; (repeat' split) <;> omega
theorem islLen_b (y m : Int) : 1 ≤ islLen y m ∧ islLen y m ≤ 31 := by unfold islLen; (repeat' split) <;> omega
theorem indLen_b (y m : Int) : 1 ≤ indLen y m ∧ indLen y m ≤ 31 := by unfold indLen; (repeat' split) <;> omega
theorem gregJ1 {y m : Int} (d : Int) (h : m ≤ 2) : gregJ y m d = 1721425 + 365 * (y - 1) + (y - 1) / 4 - (y - 1) / 100 + (y - 1) / 400 + ((367 * m - 362) / 12 + 0 + d) := by unfold gregJ; rw [if_pos h]
theorem gregJ2 {y m : Int} (d : Int) (h : ¬ m ≤ 2) (h2 : isleapB y = true) : gregJ y m d = 1721425 + 365 * (y - 1) + (y - 1) / 4 - (y - 1) / 100 + (y - 1) / 400 + ((367 * m - 362) / 12 + -1 + d) := by unfold gregJ; rw [if_neg h, if_pos h2]
theorem gregJ3 {y m : Int} (d : Int) (h : ¬ m ≤ 2) (h2 : isleapB y = false) : gregJ y m d = 1721425 + 365 * (y - 1) + (y - 1) / 4 - (y - 1) / 100 + (y - 1) / 400 + ((367 * m - 362) / 12 + -2 + d) := by unfold gregJ; rw [if_neg h, if_neg (by rw [h2]; exact Bool.false_ne_true)]
end Mine
namespace Mine
theorem int_end {n N : Int} (e : n = N) (b : 1 ≤ N ∧ N ≤ 31) : n = N ∧ 1 ≤ n ∧ n ≤ 31 := by subst e; exact ⟨rfl, b⟩
end Mine
namespace Mine
theorem jl1 {y m : Int} (h : m = 2) (k : y.fmod 4 = 0) : 29 = julLen y m := by
  rw [fmod_lit] at k; unfold julLen; rw [if_pos h, if_pos k]
theorem jl2 {y m : Int} (h : m = 2) (k : y.fmod 4 ≠ 0) : 28 = julLen y m := by
  rw [fmod_lit] at k; unfold julLen; rw [if_pos h, if_neg k]
theorem any4 {m : Int} : ([4, 6, 9, 11].any fun x => x == m) = true ↔ (m = 4 ∨ m = 6 ∨ m = 9 ∨ m = 11) := by
  simp only [List.any_cons, List.any_nil, Bool.or_false, Bool.or_eq_true, beq_iff_eq]
  omega
theorem jl3 {y m : Int} (h : m ≠ 2) (k : ([4, 6, 9, 11].any fun x => x == m) = true) : 30 = julLen y m := by
  unfold julLen; rw [if_neg h, if_pos (any4.mp k)]
theorem jl4 {y m : Int} (h : m ≠ 2) (k : ([4, 6, 9, 11].any fun x => x == m) = false) : 31 = julLen y m := by
  unfold julLen; rw [if_neg h, if_neg (fun q => by rw [any4.mpr q] at k; cases k)]
theorem any6 {m : Int} (h1 : 1 ≤ m) (h2 : m ≤ 12) : ([1, 3, 5, 7, 9, 11].any fun x => x == m) = true ↔ m % 2 = 1 := by
  simp only [List.any_cons, List.any_nil, Bool.or_false, Bool.or_eq_true, beq_iff_eq]
  omega
theorem il1 {y m : Int} (h1 : 1 ≤ m) (h2 : m ≤ 12) (k : ([1, 3, 5, 7, 9, 11].any fun x => x == m) = true) : 30 = islLen y m := by
  unfold islLen; rw [if_pos ((any6 h1 h2).mp k)]
theorem il0 {m : Int} (h1 : 1 ≤ m) (h2 : m ≤ 12) (k : ([1, 3, 5, 7, 9, 11].any fun x => x == m) = false) : ¬ m % 2 = 1 := fun q => by
  rw [(any6 h1 h2).mpr q] at k; cases k
theorem il2 {y m : Int} (h1 : 1 ≤ m) (h2 : m ≤ 12) (k : ([1, 3, 5, 7, 9, 11].any fun x => x == m) = false) (e : m = 12) (l : (y * 11 + 14).fmod 30 < 11) : 30 = islLen y m := by
  rw [fmod_lit] at l; unfold islLen; rw [if_neg (il0 h1 h2 k), if_pos ⟨e, l⟩]
theorem il3 {y m : Int} (h1 : 1 ≤ m) (h2 : m ≤ 12) (k : ([1, 3, 5, 7, 9, 11].any fun x => x == m) = false) (e : m = 12) (l : ¬ (y * 11 + 14).fmod 30 < 11) : 29 = islLen y m := by
  rw [fmod_lit] at l; unfold islLen; rw [if_neg (il0 h1 h2 k), if_neg (fun q => l q.2)]
theorem il4 {y m : Int} (h1 : 1 ≤ m) (h2 : m ≤ 12) (k : ([1, 3, 5, 7, 9, 11].any fun x => x == m) = false) (e : m ≠ 12) : 29 = islLen y m := by
  unfold islLen; rw [if_neg (il0 h1 h2 k), if_neg (fun q => e q.1)]
end Mine
namespace Mine
theorem cl2 {y m : Int} (h : ¬ m ≤ 12) (k : (if y.fmod 4 = 3 then y.fmod 4 == 3 else y.fmod 4 == -1) = true) : 6 = copLen y m := by
  rw [fmod_lit] at k
  unfold copLen
  rw [if_neg h]
  split at k
  · rename_i e; rw [if_pos e]
  · rw [beq_iff_eq] at k; omega
theorem cl3 {y m : Int} (h : ¬ m ≤ 12) (k : (if y.fmod 4 = 3 then y.fmod 4 == 3 else y.fmod 4 == -1) = false) : 5 = copLen y m := by
  rw [fmod_lit] at k
  unfold copLen
  rw [if_neg h]
  split at k
  · rename_i e; rw [e] at k; cases k
  · rename_i e; rw [if_neg e]
theorem any5 {m : Int} : ([2, 3, 4, 5, 6].any fun x => x == m) = true ↔ (2 ≤ m ∧ m ≤ 6) := by
  simp only [List.any_cons, List.any_nil, Bool.or_false, Bool.or_eq_true, beq_iff_eq]
  omega
theorem nl1 {y m : Int} (k : ([2, 3, 4, 5, 6].any fun x => x == m) = true) : 31 = indLen y m := by unfold indLen; rw [if_pos (any5.mp k)]
theorem nl0 {m : Int} (k : ([2, 3, 4, 5, 6].any fun x => x == m) = false) : ¬ (2 ≤ m ∧ m ≤ 6) := fun q => by rw [any5.mpr q] at k; cases k
theorem nl2 {y m : Int} (k : ([2, 3, 4, 5, 6].any fun x => x == m) = false) (e : m = 1) (l : isleapB (y - 78) = true) : 31 = indLen y m := by unfold indLen; rw [if_neg (nl0 k), if_pos ⟨e, l⟩]
theorem nl3 {y m : Int} (k : ([2, 3, 4, 5, 6].any fun x => x == m) = false) (e : m = 1) (l : isleapB (y - 78) = false) : 30 = indLen y m := by unfold indLen; rw [if_neg (nl0 k), if_neg (fun q => by rw [q.2] at l; cases l)]
theorem nl4 {y m : Int} (k : ([2, 3, 4, 5, 6].any fun x => x == m) = false) (e : m ≠ 1) : 30 = indLen y m := by unfold indLen; rw [if_neg (nl0 k), if_neg (fun q => e q.1)]
theorem indJ_t {y m j : Int} (l : isleapB (y + 78) = true) (e : j = gregJ (y + 78) 3 (22 - if isleapB (y + 78) = true then 1 else 0)) : indJ y m = j + (if m = 1 then 0 else 31 + (if m ≤ 7 then (m - 2) * 31 else 155 + (m - 7) * 30)) := by
  unfold indJ
  rw [if_pos l] at e ⊢
  rw [if_pos l, e]
  rfl
theorem indJ_f {y m j : Int} (l : isleapB (y + 78) = false) (e : j = gregJ (y + 78) 3 (22 - if isleapB (y + 78) = true then 1 else 0)) : indJ y m = j + (if m = 1 then 0 else 30 + (if m ≤ 7 then (m - 2) * 31 else 155 + (m - 7) * 30)) := by
  have l' : ¬ isleapB (y + 78) = true := by rw [l]; exact Bool.false_ne_true
  unfold indJ
  rw [if_neg l'] at e ⊢
  rw [if_neg l', e]
  rfl
end Mine
end
section
open PySem PySem.W PyProof.Rows PySem.Calls PySem.Spec PyProof.Rows.LCg PyProof.Rows.LCt
set_option linter.unusedVariables false
set_option exponentiation.threshold 100
set_option maxRecDepth 100000
namespace Mine

theorem datAll_get {led : Led} : ∀ {vs : List Value} {ds : List Dat}, DatAll led vs ds → ∀ (i : Nat) (d : Dat), ds[i]? = some d → ∃ v, vs[i]? = some v ∧ DatIn led v d
  | _, _, .nil, i, d, h => by simp at h
  | _, _, .cons (v := v) x r, 0, d, h => by
    simp at h
    exact ⟨v, rfl, h ▸ x⟩
  | _, _, .cons x r, i + 1, d, h => by
    obtain ⟨v, a, b⟩ := datAll_get r i d (by simpa using h)
    exact ⟨v, by simpa using a, b⟩
theorem datAll_len {led : Led} {vs : List Value} {ds : List Dat} (h : DatAll led vs ds) : vs.length = ds.length := h.length
theorem datIn_list {led : Led} {v : Value} {ds : List Dat} (h : DatIn led v (.list ds)) : ∃ a vs k, v = .ref a ∧ (a, listOf (List.toArray vs) k) ∈ led ∧ DatAll led vs ds := by
  cases h with
  | list hm r => exact ⟨_, _, _, rfl, hm, r⟩
theorem datIn_cell {led : Led} {v : Value} {c : Option Int} (h : DatIn led v (cellD c)) : (v = .none ∧ c = none) ∨ ∃ i t, v = .int i t ∧ c = some i := by
  cases c with
  | none => cases h; exact .inl ⟨rfl, rfl⟩
  | some i => cases h; exact .inr ⟨_, _, rfl, rfl⟩
/-- cells refer to nothing -/
theorem datAll_free {led led' : Led} : ∀ {vs : List Value} {cs : List (Option Int)}, DatAll led vs (cs.map cellD) → DatAll led' vs (cs.map cellD)
  | _, [], .nil => .nil
  | _, c :: cs, .cons x r => by
    refine .cons ?_ (datAll_free r)
    rcases datIn_cell x with ⟨rfl, rfl⟩ | ⟨i, t, rfl, rfl⟩
    · exact .none
    · exact .int _ _

section
variable {prog : Program} {w : World} {A : Around} {E : Value → Shared → Prop} {s : Shared} {h₀ : Heap} {L : Addr} {m : Str → Option Value} {news led : Led}

/-- the place of an int among cells -/
theorem m_index {D : Addr} {vs : List Value} {cs : List (Option Int)} {c j : Nat} {k r : Int} {t : Tok} {Q : Value → Shared → Prop} (N : News h₀ L s.heap news) (hm : (D, listOf vs.toArray c) ∈ news) (hd : DatAll led vs (cs.map cellD))
    (hl : cs.length ≤ 1000) (h1 : cs[j]? = some (some k)) (h0 : ∀ i, i < j → cs[i]? ≠ some (some k)) (er : (j : Int) = r) (h : Q (.int r s.toks) { s with toks := s.toks + 1 }) :
    wpAny (model prog w) A (call (.builtin "list.index") [.ref D, .int k t]) Q E s := by
  subst er
  have hlen : vs.length = cs.length := by rw [hd.length, List.length_map]
  have hj : j < cs.length := (List.getElem?_eq_some_iff.mp h1).1
  have item : ∀ i, i < cs.length → ∃ v, vs[i]? = some v ∧ DatIn led v (cellD (cs[i]?.getD none)) := by
    intro i hi
    have e : (cs.map cellD)[i]? = some (cellD (cs[i]?.getD none)) := by
      rw [List.getElem?_map, List.getElem?_eq_getElem hi]; rfl
    exact datAll_get hd i _ e
  refine call_meets PySem.F.slot_list_index ⟨_, N.get hm, rfl⟩ PySem.F.entry_list_index (PySem.F.args_list_index_2 _ _)
    (PySem.SeqAt.list_indexAt D vs.toArray c none #[] (.int k t) (isInt k) j (by simp; omega) (by omega) ?_ ?_) ⟨N.get hm, fun y hy => ?_, h⟩
  · obtain ⟨v, hv, hc⟩ := item j hj
    rw [h1] at hc
    have e : vs.toArray[j]'(by simp; omega) = v := by
      have := (List.getElem?_eq_some_iff.mp hv).2
      simpa using this
    rw [e]
    cases hc
    simp [isInt]
  · intro i hi hlt
    obtain ⟨v, hv, hc⟩ := item i (by omega)
    have e : vs.toArray[i]'hi = v := by
      have := (List.getElem?_eq_some_iff.mp hv).2
      simpa using this
    rw [e]
    have hn := h0 i hlt
    have hi' : i < cs.length := by omega
    rw [List.getElem?_eq_getElem hi'] at hc hn
    rcases datIn_cell hc with ⟨rfl, _⟩ | ⟨n, t', rfl, en⟩
    · rfl
    · simp only [Option.getD_some] at en
      rw [en] at hn
      simp [isInt]
      intro q
      exact hn (by rw [q])
  · have hy' : y ∈ vs := by simpa using hy
    obtain ⟨i, hi, rfl⟩ := List.getElem_of_mem hy'
    obtain ⟨v, hv, hc⟩ := item i (by omega)
    rw [List.getElem?_eq_getElem hi] at hv
    cases hv
    rcases datIn_cell hc with ⟨e, _⟩ | ⟨n, t', e, _⟩
    · rw [e]; exact PySem.SeqAt.EqAt.none_int _ _
    · rw [e]; exact PySem.SeqAt.EqAt.int_int _ _ _ _

/-- an item of a list of the ledger, from the front or the end -/
theorem m_itemP {a : Addr} {l : List Value} {c : Nat} {k : Int} {u : Tok} {v : Value} {value slice : PySem.Expr} {Q : Value → Shared → Prop} (N : News h₀ L s.heap news) (hm : (a, listOf l.toArray c) ∈ news)
    (h0 : 0 ≤ k ∧ k ≤ 1000000) (hx : l[k.toNat]? = some v) (h : Q v s) (hs : subscripted slice false (.ref a) (.int k u) = operate [.ref a, .int k u] (getItem (.ref a) (.int k u)) := by with_unfolding_all rfl) :
    wpAny (model prog w) A (subscriptTail value slice (.ref a) (.int k u)) Q E s := by
  have hl : s.heap.IsList a l.toArray := ⟨_, N.get hm, rfl, c, rfl⟩
  exact tail_any hl.typeIs slot_list_getitem.lookup (wpAny_getItem_list hl h0.1 (by omega) (by simpa using hx) h) hs
theorem m_itemN {a : Addr} {l : List Value} {c : Nat} {k : Int} {u : Tok} {v : Value} {value slice : PySem.Expr} {Q : Value → Shared → Prop} (N : News h₀ L s.heap news) (hm : (a, listOf l.toArray c) ∈ news)
    (h0 : -1000000 ≤ k ∧ k < 0) (h1 : -(l.length : Int) ≤ k) (hx : l[(k + (l.length : Int)).toNat]? = some v) (h : Q v s) (hs : subscripted slice false (.ref a) (.int k u) = operate [.ref a, .int k u] (getItem (.ref a) (.int k u)) := by with_unfolding_all rfl) :
    wpAny (model prog w) A (subscriptTail value slice (.ref a) (.int k u)) Q E s := by
  have hl : s.heap.IsList a l.toArray := ⟨_, N.get hm, rfl, c, rfl⟩
  exact tail_any hl.typeIs slot_list_getitem.lookup (wpAny_getItem_list_neg hl h0.2 (by simp; omega) (by omega) (by simpa using hx) h) hs
end

section
variable {prog : Program} {w : World} {A : Around} {E : Value → Shared → Prop} {s : Shared} {h₀ : Heap} {L : Addr} {m : Str → Option Value} {env : Env}
theorem restT_inv {ct elt : Expr} {x : Str} {scope : Scope} {cl : List (Str × Addr)} {S : Led → Prop} {P : Nat → Value → Prop} {Fin : List Value → Led → Prop} {n : Nat} (J : Nat → List Value → Led → Prop)
    (turn : ∀ i ys news v I oI C oC D m₂ h tk (E' : Value → Shared → Prop), i < n → J i ys news → P i v → NsObj oC m₂ → m₂ x = some v → Fr h₀ L h m → News h₀ L h ((I, oI) :: (C, oC) :: (D, lst ys) :: news) → Off3 I C D news → ((@Ne Nat I C) ∧ (@Ne Nat I D) ∧ (@Ne Nat C D)) →
      wpAny (model prog w) A (isTrue ct (compEnvC scope cl C env) (eval ct (compEnvC scope cl C env))) (fun ok s' => if ok = true then
        wpAny (model prog w) A (eval elt (compEnvC scope cl C env)) (CompEnd h₀ L m { s with heap := h, toks := tk } I oI C oC D (lst ys) S (fun y news' => J (i + 1) (ys ++ [y]) news')) E' s'
        else CompEnd h₀ L m { s with heap := h, toks := tk } I oI C oC D (lst ys) S (fun _ news' => J (i + 1) ys news') Value.none s') E' { s with heap := h, toks := tk })
    (fin : ∀ ys news, J n ys news → Fin ys news) : ∀ (k i : Nat) (ys : List Value) (news : Led), i + k = n → J i ys news → CompRestT prog w A h₀ L m env ct elt x scope cl s S P Fin k i ys news := by
  intro k
  induction k with
  | zero =>
    intro i ys news e hJ
    obtain rfl : i = n := e
    exact CompRestT.zero (fin _ _ hJ)
  | succ k ih =>
    intro i ys news e hJ
    refine CompRestT.succ fun v I oI C oC D m₂ h tk E' hP hC hx F N off ne => ?_
    refine wpAny_mono (turn i ys news v I oI C oC D m₂ h tk E' (by omega) hJ hP hC hx F N off ne) (fun ok s' he => ?_) fun _ _ e => e
    have up : ∀ {R₁ R₂ : Value → Led → Prop} {y s'}, (∀ y nw, R₁ y nw → R₂ y nw) → CompEnd h₀ L m { s with heap := h, toks := tk } I oI C oC D (lst ys) S R₁ y s' → CompEnd h₀ L m { s with heap := h, toks := tk } I oI C oC D (lst ys) S R₂ y s' := by
      rintro R₁ R₂ y s' hr ⟨h', tk', news', e', F', N', off', hS', hj⟩
      exact ⟨h', tk', news', e', F', N', off', hS', hr _ _ hj⟩
    cases ok with
    | true =>
      simp only [if_true] at he ⊢
      exact wpAny_mono he (fun y s'' h'' => up (fun y nw hj => ih (i + 1) (ys ++ [y]) nw (by omega) hj) h'') fun _ _ e => e
    | false =>
      simp only [Bool.false_eq_true, if_false] at he ⊢
      exact up (fun y nw hj => ih (i + 1) ys nw (by omega) hj) he

/-- [x for x in SRC if x is not None] -/
theorem comp_some {x : Str} {p1 p2 p3 p4 : Pos} {kk : Nat} {scope : Scope} {cl : List (Str × Addr)} {Fin : Shared → List Value → Led → Prop} {ax : Addr} {k : Nat} {base led : Led} {vs : List Value} {cs : List (Option Int)}
    (hh : A.handled = none) (F : Fr h₀ L s.heap m) (N : News h₀ L s.heap base) (hm : (ax, listOf vs.toArray k) ∈ base) (hd : DatAll led vs (cs.map cellD)) (hl : cs.length ≤ 1000)
    (hk : ∀ C, (compEnvC scope cl C env).scope.kind = .function) (hx : ∀ C, (compEnvC scope cl C env).kindOf x = some .local) (hxd : (x == ("__debug__" : Str)) = false)
    (fin : ∀ g ys, DatAll [] ys ((cs.filter Option.isSome).map cellD) → Fin { s with heap := g } ys base) :
    CompSrcT prog w A h₀ L m env (.Compare (.Name x p1) [.IsNot] [.Constant .none kk p2] p3) (.Name x p4) x scope cl Fin (.ref ax) s := by
  have hlen : vs.length = cs.length := by rw [hd.length, List.length_map]
  refine CompSrcT.ledger hh F N hm (by rw [sizeLine_eq]; simp; omega) fun g => ?_
  refine restT_inv (n := vs.toArray.size) (fun i ys nw => nw = base ∧ DatAll [] ys (((cs.take i).filter Option.isSome).map cellD)) ?_ ?_ _ 0 [] base (by omega) ⟨rfl, .nil⟩
  · rintro i ys _ v I oI C oC D m₂ h tk E' hi ⟨rfl, hj⟩ hP hC hx' F' N' off ne
    have hi' : i < cs.length := by simp at hi; omega
    have e1 : (cs.map cellD)[i]? = some (cellD cs[i]) := by rw [List.getElem?_map, List.getElem?_eq_getElem hi']; rfl
    obtain ⟨v', hv', hc⟩ := datAll_get hd i _ e1
    have : v = v' := by
      have hP' : vs[i]? = some v := by simpa using hP
      rw [hv'] at hP'
      exact (Option.some.inj hP').symm
    subst this
    have ht : cs.take (i + 1) = cs.take i ++ [cs[i]] := by rw [List.take_add_one, List.getElem?_eq_getElem hi']; rfl
    have nm : ∀ (tk' : Nat) (R : Value → Shared → Prop), R v { { s with heap := g } with heap := h, toks := tk' } → ∀ p E'', wpAny (model prog w) A (eval (.Name x p) (compEnvC scope cl C env)) R E'' { { s with heap := g } with heap := h, toks := tk' } :=
      fun tk' R hR p E'' => LCgL.ld_own (s := { { s with heap := g } with heap := h, toks := tk' }) N' (List.mem_cons_of_mem _ List.mem_cons_self) hC hx' hR (hk C) (hx C) hxd
    refine wpAny_isTrue_Compare1 (nm tk _ ?_ p1 _)
    refine wpAny_Constant_none ?_
    rcases datIn_cell hc with ⟨rfl, en⟩ | ⟨n, t, rfl, en⟩
    · refine wpAny_isNot_self rfl (wpAny_truthy_bool ?_)
      simp only [Bool.false_eq_true, if_false]
      refine ⟨h, tk, _, rfl, F', N', off, ?_, rfl, ?_⟩
      · exact .inr ⟨_, hm, rfl, k, rfl⟩
      · rw [ht, List.filter_append, en]
        simpa using hj
    · refine wpAny_isNot_other rfl (by simp) (wpAny_truthy_bool ?_)
      simp only [if_true]
      refine nm tk _ ?_ p4 _
      refine ⟨h, tk, _, rfl, F', N', off, ?_, rfl, ?_⟩
      · exact .inr ⟨_, hm, rfl, k, rfl⟩
      · rw [ht, List.filter_append, List.map_append, en]
        exact hj.append (.one (.int _ _))
  · rintro ys _ ⟨rfl, hj⟩
    have e : cs.take vs.toArray.size = cs := List.take_of_length_le (by simp; omega)
    rw [e] at hj
    exact fin g ys hj
end
end Mine
namespace Mine
/-! ### the first row's place of 1, the last row's last day -/
def rowAt (lp n i : Nat) : List (Option Int) := ((leafL lp n)[i]?).getD []
def lastAt (lp n : Nat) : Nat := (leafL lp n).length - 1
def seen (lp n : Nat) : List (Option Int) := (rowAt lp n (lastAt lp n)).filter Option.isSome
def leafOk (lp n : Nat) : Bool :=
  decide (1 ≤ (leafL lp n).length) && decide ((leafL lp n).length ≤ 10) && ((rowAt lp n 0)[lp]? == some (some 1)) && ((List.range lp).all fun i => (rowAt lp n 0)[i]? == some none) && decide ((rowAt lp n 0).length ≤ 7) &&
    decide (1 ≤ (seen lp n).length) && ((seen lp n)[(seen lp n).length - 1]? == some (some (n : Int))) && ((leafL lp n).all fun r => decide (r.length ≤ 7))
theorem leafOk_all : ((List.range 7).all fun lp => (List.range 32).all fun n => n == 0 || leafOk lp n) = true := by decide +kernel
theorem leafOk_at {lp n : Nat} (h1 : lp < 7) (h2 : 1 ≤ n) (h3 : n ≤ 31) : leafOk lp n = true := by
  have a := List.all_eq_true.mp leafOk_all lp (List.mem_range.mpr h1)
  have b := List.all_eq_true.mp a n (List.mem_range.mpr (by omega))
  rw [Bool.or_eq_true, beq_iff_eq] at b
  exact b.resolve_left (by omega)
structure LeafF (lp n : Nat) : Prop where
  some : 1 ≤ (leafL lp n).length
  few : (leafL lp n).length ≤ 10
  row0 : (leafL lp n)[0]? = Option.some (rowAt lp n 0)
  rowN : (leafL lp n)[lastAt lp n]? = Option.some (rowAt lp n (lastAt lp n))
  one : (rowAt lp n 0)[lp]? = Option.some (Option.some 1)
  before : ∀ i, i < lp → (rowAt lp n 0)[i]? ≠ Option.some (Option.some 1)
  short0 : (rowAt lp n 0).length ≤ 7
  shortN : (rowAt lp n (lastAt lp n)).length ≤ 7
  seen1 : 1 ≤ (seen lp n).length
  last : (seen lp n)[(seen lp n).length - 1]? = Option.some (Option.some (n : Int))
theorem leafF {lp n : Nat} (h1 : lp < 7) (h2 : 1 ≤ n) (h3 : n ≤ 31) : LeafF lp n := by
  have h := leafOk_at h1 h2 h3
  unfold leafOk at h
  simp only [Bool.and_eq_true, decide_eq_true_eq, beq_iff_eq, List.all_eq_true] at h
  obtain ⟨⟨⟨⟨⟨⟨⟨a, b⟩, c⟩, d⟩, e⟩, f⟩, g⟩, k⟩ := h
  have at0 : ∀ i, i < (leafL lp n).length → (leafL lp n)[i]? = some (rowAt lp n i) := by
    intro i hi
    unfold rowAt
    rw [List.getElem?_eq_getElem hi]
    rfl
  have hN : lastAt lp n < (leafL lp n).length := by unfold lastAt; omega
  refine ⟨a, b, at0 0 (by omega), at0 _ hN, c, fun i hi q => ?_, e, ?_, f, g⟩
  · have := d i (List.mem_range.mpr hi)
    rw [this] at q
    cases q
  · have hm : rowAt lp n (lastAt lp n) ∈ leafL lp n := List.mem_of_getElem? (at0 _ hN)
    exact k _ hm
theorem cells_inj {a b : List (Option Int)} (h : a.map cellD = b.map cellD) : a = b := by
  induction a generalizing b with
  | nil => cases b with
    | nil => rfl
    | cons y b => cases h
  | cons x a ih =>
    cases b with
    | nil => cases h
    | cons y b =>
      simp only [List.map_cons, List.cons.injEq] at h
      rw [ih h.2]
      congr 1
      cases x <;> cases y <;> first | rfl | (cases h.1; done) | (have := h.1; simp only [cellD] at this; cases this; rfl)
theorem rowD_inj {a b : List (Option Int)} (h : rowD a = rowD b) : a = b := cells_inj (Dat.list.inj h)
theorem map_rowD_inj {a b : List (List (Option Int))} (h : a.map rowD = b.map rowD) : a = b := by
  induction a generalizing b with
  | nil => cases b with
    | nil => rfl
    | cons y b => cases h
  | cons x a ih =>
    cases b with
    | nil => cases h
    | cons y b =>
      simp only [List.map_cons, List.cons.injEq] at h
      rw [ih h.2, rowD_inj h.1]
/-- two leaves of one length are the same leaf only with the same pad -/
theorem leafL_inj {lp lq n : Nat} (h1 : lp < 7) (h1' : lq < 7) (h2 : 1 ≤ n) (h3 : n ≤ 31) (h : leafL lp n = leafL lq n) : lp = lq := by
  have a := leafF h1 h2 h3
  have b := leafF h1' h2 h3
  have e : rowAt lp n 0 = rowAt lq n 0 := by unfold rowAt; rw [h]
  rcases Nat.lt_trichotomy lp lq with q | q | q
  · exact absurd (e ▸ a.one) (b.before lp q)
  · exact q
  · exact absurd (e ▸ b.one) (a.before lq q)
end Mine
namespace Mine
theorem allLt_mem {d : Addr} : ∀ {l : Led}, AllLt d l → ∀ p ∈ l, @LT.lt Nat _ p.1 d
  | [], _, _, hp => absurd hp List.not_mem_nil
  | _ :: _, ⟨a, b⟩, p, hp => by
    rcases List.mem_cons.mp hp with rfl | hp
    · exact a
    · exact allLt_mem b p hp
theorem apart_one {d : Addr} {o : Obj} {l : Led} (h : AllLt d l) : Apart [(d, o)] l := fun p hp q hq => by
  rw [List.mem_singleton.mp hp]
  exact Nat.ne_of_gt (allLt_mem h q hq)
end Mine
namespace Mine
theorem fin_one {h₀ h' : Heap} {L : Addr} {m : Str → Option Value} {news led : Led} {s : Shared} {Q : Value → Shared → Prop} {Post : Led → Value → Prop} {l' : Addr} {o : Obj} {tk' : Nat} (hret : Ret h₀ L m news s Q Post)
    (F : Fr h₀ L h' m) (N : News h₀ L h' led) (hm : (l', o) ∈ led) (hs : ∀ p ∈ news, p ∈ led) (lt : AllLt l' news) (P : Post [(l', o)] (.ref l')) : Q (.ref l') { s with heap := h', toks := tk' } :=
  hret _ [(l', o)] h' tk' F (fun p hp => by
    rcases List.mem_append.mp hp with hp | hp
    · rw [List.mem_singleton.mp hp]; exact N _ hm
    · exact N _ (hs p hp)) (apart_one lt) P
end Mine
namespace Mine
theorem ok_cells (n : Nat) (cs : List (Option Int)) : ∀ d ∈ cs.map cellD, kqdOk n d = true := by
  intro d hd
  obtain ⟨c, _, rfl⟩ := List.mem_map.mp hd
  cases c <;> cases n <;> rfl
theorem ok_rows (n : Nat) (rows : List (List (Option Int))) : ∀ d ∈ rows.map rowD, kqdOk (n + 1) d = true := by
  intro d hd
  obtain ⟨r, _, rfl⟩ := List.mem_map.mp hd
  show (r.map cellD).all (kqdOk n) = true
  exact List.all_eq_true.mpr (ok_cells n r)
section
variable {prog : Program} {w : World} {A : Around} {E : Value → Shared → Prop} {s : Shared} {h₀ : Heap} {L a b : Addr} {news l1 l2 : Led} {Q : Value → Shared → Prop} {r1 r2 : List (List (Option Int))}
open Classical in
theorem m_eqRows (N : News h₀ L s.heap news) (Da : DatIn l1 (.ref a) (leafD r1)) (sa : ∀ p ∈ l1, p ∈ news) (Db : DatIn l2 (.ref b) (leafD r2)) (sb : ∀ p ∈ l2, p ∈ news) (hu : A.units + 64 < cLine)
    (h : Q (.bool (decide (r1 = r2))) s) : wpAny (model prog w) A (compareOp .Eq (.ref a) (.ref b)) Q E s := by
  obtain ⟨a', xs, ka, e, ma, da⟩ := datIn_list Da
  cases e
  obtain ⟨b', ys, kb, e, mb, db⟩ := datIn_list Db
  cases e
  refine kqd_eq N (sa _ ma) rfl rfl da sa (sb _ mb) rfl rfl db sb (ok_rows 7 r1) (ok_rows 7 r2) hu ?_
  have e : decide (r1.map rowD = r2.map rowD) = decide (r1 = r2) := decide_eq_decide.mpr ⟨map_rowD_inj, fun q => by rw [q]⟩
  rw [e]
  exact h
open Classical in
theorem m_neRows (N : News h₀ L s.heap news) (Da : DatIn l1 (.ref a) (leafD r1)) (sa : ∀ p ∈ l1, p ∈ news) (Db : DatIn l2 (.ref b) (leafD r2)) (sb : ∀ p ∈ l2, p ∈ news) (hu : A.units + 64 < cLine)
    (h : Q (.bool (!decide (r1 = r2))) s) : wpAny (model prog w) A (compareOp .NotEq (.ref a) (.ref b)) Q E s := by
  obtain ⟨a', xs, ka, e, ma, da⟩ := datIn_list Da
  cases e
  obtain ⟨b', ys, kb, e, mb, db⟩ := datIn_list Db
  cases e
  refine kqd_ne N (sa _ ma) rfl rfl da sa (sb _ mb) rfl rfl db sb (ok_rows 7 r1) (ok_rows 7 r2) hu ?_
  have e : decide (r1.map rowD = r2.map rowD) = decide (r1 = r2) := decide_eq_decide.mpr ⟨map_rowD_inj, fun q => by rw [q]⟩
  rw [e]
  exact h
theorem leafL_eq {j1 j2 n : Int} (h1 : 1 ≤ n) (h2 : n ≤ 31) : (leafL ((j1 + 1) % 7).toNat n.toNat = leafL ((j2 + 1) % 7).toNat n.toNat) ↔ j1 % 7 = j2 % 7 := by
  constructor
  · intro q
    have := leafL_inj (by omega) (by omega) (by omega) (by omega) q
    omega
  · intro q
    rw [show (j1 + 1) % 7 = (j2 + 1) % 7 by omega]
theorem m_eqLeaf {j1 j2 n : Int} (N : News h₀ L s.heap news) (Da : DatIn l1 (.ref a) (leafJ j1 n)) (sa : ∀ p ∈ l1, p ∈ news) (Db : DatIn l2 (.ref b) (leafJ j2 n)) (sb : ∀ p ∈ l2, p ∈ news) (hu : A.units + 64 < cLine) (h1 : 1 ≤ n) (h2 : n ≤ 31)
    (h : Q (.bool (decide (j1 % 7 = j2 % 7))) s) : wpAny (model prog w) A (compareOp .Eq (.ref a) (.ref b)) Q E s := by
  refine m_eqRows N Da sa Db sb hu ?_
  rw [decide_eq_decide.mpr (leafL_eq h1 h2)]
  exact h
theorem m_neLeaf {j1 j2 n : Int} (N : News h₀ L s.heap news) (Da : DatIn l1 (.ref a) (leafJ j1 n)) (sa : ∀ p ∈ l1, p ∈ news) (Db : DatIn l2 (.ref b) (leafJ j2 n)) (sb : ∀ p ∈ l2, p ∈ news) (hu : A.units + 64 < cLine) (h1 : 1 ≤ n) (h2 : n ≤ 31)
    (h : Q (.bool (!decide (j1 % 7 = j2 % 7))) s) : wpAny (model prog w) A (compareOp .NotEq (.ref a) (.ref b)) Q E s := by
  refine m_neRows N Da sa Db sb hu ?_
  rw [decide_eq_decide.mpr (leafL_eq h1 h2)]
  exact h
end
end Mine
end
section
open PySem PySem.W PyProof.Rows PySem.Calls PySem.Spec PyProof.Rows.LCg
set_option maxRecDepth 100000
namespace Mine
/-! ### the periods -/
theorem isleap_400 (y r : Int) : isleapB (y + 400 * r) = isleapB y := by
  unfold isleapB
  rw [show (y + 400 * r) % 4 = y % 4 by omega, show (y + 400 * r) % 100 = y % 100 by omega, show (y + 400 * r) % 400 = y % 400 by omega]
theorem gregJ_400 (y m d r : Int) : gregJ (y + 400 * r) m d = gregJ y m d + 146097 * r := by
  unfold gregJ
  rw [isleap_400]
  generalize (367 * m - 362) / 12 + (if m ≤ 2 then 0 else if isleapB y = true then -1 else -2) + d = z
  omega
theorem gregLen_400 (y m r : Int) : gregLen (y + 400 * r) m = gregLen y m := by unfold gregLen; rw [isleap_400]
theorem indJ_400 (y m r : Int) : indJ (y + 400 * r) m = indJ y m + 146097 * r := by
  unfold indJ
  rw [show y + 400 * r + 78 = y + 78 + 400 * r by omega, isleap_400, gregJ_400]
  omega
theorem indLen_400 (y m r : Int) : indLen (y + 400 * r) m = indLen y m := by
  unfold indLen
  rw [show y + 400 * r - 78 = y - 78 + 400 * r by omega, isleap_400]
theorem julJ_4 (y m r : Int) : julJ (y + 4 * r) m = julJ y m + 1461 * r := by unfold julJ; split <;> omega
theorem julLen_4 (y m r : Int) : julLen (y + 4 * r) m = julLen y m := by unfold julLen; rw [show (y + 4 * r) % 4 = y % 4 by omega]
theorem copJ_4 (y m r : Int) : copJ (y + 4 * r) m = copJ y m + 1461 * r := by unfold copJ; omega
theorem copLen_4 (y m r : Int) : copLen (y + 4 * r) m = copLen y m := by unfold copLen; rw [show (y + 4 * r) % 4 = y % 4 by omega]
theorem sarJ_4 (y m r : Int) : sarJ (y + 4 * r) m = sarJ y m + 1461 * r := by unfold sarJ; omega
theorem sarLen_4 (y m r : Int) : sarLen (y + 4 * r) m = sarLen y m := by unfold sarLen; rw [show (y + 4 * r) % 4 = y % 4 by omega]
theorem islJ_30 (y m r : Int) : islJ (y + 30 * r) m = islJ y m + 10631 * r := by
  unfold islJ
  generalize -((-(59 * (m - 1))) / 2) = z
  omega
theorem islLen_30 (y m r : Int) : islLen (y + 30 * r) m = islLen y m := by unfold islLen; rw [show ((y + 30 * r) * 11 + 14) % 30 = (y * 11 + 14) % 30 by omega]
theorem armJ_1 (y m r : Int) : armJ (y + r) m = armJ y m + 365 * r := by unfold armJ; omega
/-- the same leaf, by the column and the length -/
theorem leafJ_same {j1 j2 n1 n2 : Int} (h : j1 % 7 = j2 % 7) (e : n1 = n2) : leafJ j1 n1 = leafJ j2 n2 := by
  unfold leafJ
  rw [show (j1 + 1) % 7 = (j2 + 1) % 7 by omega, e]
theorem gOn (y m d r : Int) : gregJ (y + 400 * r) m d % 7 = (gregJ y m d + 0) % 7 := by rw [gregJ_400]; omega
theorem dOn (y m r : Int) : indJ (y + 400 * r) m % 7 = (indJ y m + 0) % 7 := by rw [indJ_400]; omega
theorem jOn (y m r : Int) : julJ (y + 4 * r) m % 7 = (julJ y m + 5 * r) % 7 := by rw [julJ_4]; omega
theorem cOn (y m r : Int) : copJ (y + 4 * r) m % 7 = (copJ y m + 5 * r) % 7 := by rw [copJ_4]; omega
theorem sOn (y m r : Int) : sarJ (y + 4 * r) m % 7 = (sarJ y m + 5 * r) % 7 := by rw [sarJ_4]; omega
theorem iOn (y m r : Int) : islJ (y + 30 * r) m % 7 = (islJ y m + 5 * r) % 7 := by rw [islJ_30]; omega
theorem aOn (y m r : Int) : armJ (y + r) m % 7 = (armJ y m + r) % 7 := by rw [armJ_1]; omega
theorem jBk (y m r : Int) : julJ (y + 28 * r) m % 7 = julJ y m % 7 := by rw [show y + 28 * r = y + 4 * (7 * r) by omega, julJ_4]; omega
theorem cBk (y m r : Int) : copJ (y + 28 * r) m % 7 = copJ y m % 7 := by rw [show y + 28 * r = y + 4 * (7 * r) by omega, copJ_4]; omega
theorem sBk (y m r : Int) : sarJ (y + 28 * r) m % 7 = sarJ y m % 7 := by rw [show y + 28 * r = y + 4 * (7 * r) by omega, sarJ_4]; omega
theorem iBk (y m r : Int) : islJ (y + 210 * r) m % 7 = islJ y m % 7 := by rw [show y + 210 * r = y + 30 * (7 * r) by omega, islJ_30]; omega
theorem aBk (y m r : Int) : armJ (y + 7 * r) m % 7 = armJ y m % 7 := by rw [armJ_1]; omega
theorem jBl (y m r : Int) : julLen (y + 28 * r) m = julLen y m := by rw [show y + 28 * r = y + 4 * (7 * r) by omega, julLen_4]
theorem cBl (y m r : Int) : copLen (y + 28 * r) m = copLen y m := by rw [show y + 28 * r = y + 4 * (7 * r) by omega, copLen_4]
theorem sBl (y m r : Int) : sarLen (y + 28 * r) m = sarLen y m := by rw [show y + 28 * r = y + 4 * (7 * r) by omega, sarLen_4]
theorem iBl (y m r : Int) : islLen (y + 210 * r) m = islLen y m := by rw [show y + 210 * r = y + 30 * (7 * r) by omega, islLen_30]
/-- a loose Armenian month's days -/
def armLenM (m : Int) : Int := if m = 13 then 5 else 30
theorem armLen_m (y m : Int) : armLen y m = armLenM m := rfl
theorem armLenM_b (m : Int) : 1 ≤ armLenM m ∧ armLenM m ≤ 31 := armLen_b 0 m
theorem leafJ_ref {news : Led} {v : Value} {j n : Int} (h : DatIn news v (leafJ j n)) : ∃ a, v = .ref a := by
  unfold leafJ leafD at h
  obtain ⟨a, _, _, e, _⟩ := datIn_list h
  exact ⟨a, e⟩
section
variable {prog : Program} {w : World} {A : Around} {E : Value → Shared → Prop} {s : Shared} {t u : Tok} {Q : Value → Shared → Prop} {h₀ : Heap} {L : Addr} {news l1 l2 : Led} {a b : Addr}
theorem m_modAny {x d : Int} (hd : 0 < d) (h : ∀ c, 0 ≤ c → c < d → Q (.int c s.toks) { s with toks := s.toks + 1 }) : wpAny (model prog w) A (binaryOp .Mod (.int x t) (.int d u)) Q E s :=
  mod_int' (by omega) (h _ (Int.fmod_nonneg_of_pos x hd) (Int.fmod_lt_of_pos x hd))
theorem m_eqLeafS {j1 j2 n : Int} (N : News h₀ L s.heap news) (Da : DatIn l1 (.ref a) (leafJ j1 n)) (sa : ∀ p ∈ l1, p ∈ news) (Db : DatIn l2 (.ref b) (leafJ j2 n)) (sb : ∀ p ∈ l2, p ∈ news) (hu : A.units + 64 < cLine) (h1 : 1 ≤ n) (h2 : n ≤ 31) (hj : j1 % 7 = j2 % 7)
    (h : Q (.bool true) s) : wpAny (model prog w) A (compareOp .Eq (.ref a) (.ref b)) Q E s := by
  refine m_eqLeaf N Da sa Db sb hu h1 h2 ?_
  rw [decide_eq_true hj]
  exact h
theorem m_neLeafS {j1 j2 n : Int} (N : News h₀ L s.heap news) (Da : DatIn l1 (.ref a) (leafJ j1 n)) (sa : ∀ p ∈ l1, p ∈ news) (Db : DatIn l2 (.ref b) (leafJ j2 n)) (sb : ∀ p ∈ l2, p ∈ news) (hu : A.units + 64 < cLine) (h1 : 1 ≤ n) (h2 : n ≤ 31) (hj : j1 % 7 = j2 % 7)
    (h : Q (.bool false) s) : wpAny (model prog w) A (compareOp .NotEq (.ref a) (.ref b)) Q E s := by
  refine m_neLeaf N Da sa Db sb hu h1 h2 ?_
  rw [decide_eq_true hj]
  exact h
end
end Mine
end
section
open PySem PySem.W PyProof.Rows PySem.Calls PySem.Spec PyProof.Rows.LCg PyProof.Rows.LCt
set_option linter.unusedVariables false
set_option exponentiation.threshold 100
set_option maxRecDepth 100000
namespace Mine
/-! ### rows of cells -/
def rowsL (cells : List (Option Int)) : List (List (Option Int)) := chunk (cells ++ List.replicate 7 none) ((cells.length + 6) / 7)
theorem chunk_congr {xs ys : List (Option Int)} {k : Nat} (h : xs.take (7 * k) = ys.take (7 * k)) : chunk xs k = chunk ys k := by
  unfold chunk
  apply List.map_congr_left
  intro i hi
  have hi' : i < k := List.mem_range.mp hi
  have e : ∀ zs : List (Option Int), (zs.drop (7 * i)).take 7 = (((zs.take (7 * k)).drop (7 * i)).take 7) := by
    intro zs
    rw [List.drop_take, List.take_take]
    congr 1
    omega
  rw [e xs, e ys, h]
theorem take_pad (xs : List (Option Int)) (a k : Nat) (h1 : xs.length ≤ k) (h2 : k ≤ xs.length + a) : (xs ++ List.replicate a none).take k = xs ++ List.replicate (k - xs.length) none := by
  rw [List.take_append, List.take_of_length_le h1, List.take_replicate]
  congr 2
  omega
theorem rowsL_of (cells : List (Option Int)) (a : Nat) (h : 7 * ((cells.length + 6) / 7) ≤ cells.length + a) : chunk (cells ++ List.replicate a none) ((cells.length + 6) / 7) = rowsL cells := by
  unfold rowsL
  apply chunk_congr
  rw [take_pad _ _ _ (by omega) h, take_pad _ _ _ (by omega) (by omega)]
theorem dayNs_length (n : Nat) : (dayNs n).length = n := by unfold dayNs; simp
theorem leafL_rows (lp n : Nat) : leafL lp n = rowsL (List.replicate lp none ++ dayNs n) := by
  unfold leafL rowsL daysL
  rw [List.length_append, List.length_replicate, dayNs_length]
section
variable {prog : Program} {w : World} {A : Around} {E : Value → Shared → Prop} {s : Shared} {t u : Tok} {h₀ : Heap} {L : Addr} {news : Led}
theorem m_len {D : Addr} {vs : List Value} {c : Nat} {Q : Value → Shared → Prop} (N : News h₀ L s.heap news) (hm : (D, listOf vs.toArray c) ∈ news) (hf : vs.length ≤ 16384) (h : Q (.int (vs.length : Int) (s.toks + 1)) { s with toks := s.toks + 1 + 1 }) :
    wpAny (model prog w) A (call (.builtin "len") [.ref D]) Q E s :=
  kun_lenL (News.isList N hm) (by rw [List.size_toArray]) (by omega) h
end
theorem cells_all {vs : List Value} {N : Nat} (h : IntsAre vs (rangeKs 1 N)) (lp : Nat) : DatAll [] (List.replicate lp Value.none ++ vs) ((List.replicate lp none ++ dayNs N).map cellD) := by
  rw [List.map_append, ← rangeKs_days]
  exact (datAll_rep [] lp).append (datAll_map_ints h)
end Mine
end
section
open PySem PySem.W PyProof.Rows PySem.Calls PySem.Spec PyProof.Rows.LCg PyProof.Rows.LCt
set_option linter.unusedVariables false
set_option exponentiation.threshold 100
set_option maxRecDepth 100000
namespace Mine
/-! ### list += list -/
section
variable {prog : Program} {w : World} {A : Around} {E : Value → Shared → Prop} {s : Shared} {h₀ : Heap} {L D b : Addr} {m : Str → Option Value} {news news' : Led}
theorem fills_list_iadd : fillsInplaceSlot (.type "list") "add" (Operator.Add == .Add) = pure false := by
  unfold fillsInplaceSlot
  show (typeLookup (.type "list") (dunderI "add") >>= fun fi => pure (fi.isSome && !isSeqSlot fi)) = pure false
  rw [PySem.F.slot_list_iadd.lookup]
  have e : isSeqSlot (some (Value.builtin "list.__iadd__")) = true := by decide +kernel
  show (pure (true && !isSeqSlot (some (Value.builtin "list.__iadd__"))) : Sem Bool) = pure false
  rw [e]; rfl
theorem seq_list_iadd : seqSlot? (.type "list") (dunderI "add") = pure (some (.builtin "list.__iadd__")) := PyProof.Rows.seqSlot_of PySem.F.slot_list_iadd.lookup (by decide +kernel)
def cnt (n : Nat) (its2 : List Value) : Nat := if its2.length = 0 then n else n + 1
theorem m_iadd {its its2 : List Value} {n n2 : Nat} {Q : Value → Shared → Prop} (F : Fr h₀ L s.heap m) (N : News h₀ L s.heap news) (hb : (b, listOf its2.toArray n2) ∈ news)
    (U : Upd D (listOf its.toArray n) (listOf (its ++ its2).toArray (cnt n its2)) news news') (hz : its.length + its2.length ≤ 1000000)
    (h : ∀ h', Fr h₀ L h' m → News h₀ L h' news' → Q (.ref D) { s with heap := h' }) : wpAny (model prog w) A (inplaceOp .Add (.ref D) (.ref b)) Q E s := by
  obtain ⟨pre, post, rfl, rfl, a, c⟩ := U.split
  have z := N (D, listOf its.toArray n) (List.mem_append.mpr (.inr (.head _)))
  have zb := N _ hb
  have sz : its.toArray.size + its2.toArray.size ≤ 1000000 := by simpa using hz
  have sl : sizeLine ≥ 16777216 := by rw [sizeLine_eq]; omega
  have hs0 : ¬(!its.toArray.isEmpty && Builtin.List.listTooLong (its.toArray.size + its2.toArray.size)) = true := by
    have : Builtin.List.listTooLong (its.toArray.size + its2.toArray.size) = false := by
      unfold Builtin.List.listTooLong
      simp only [List.size_toArray] at sz ⊢
      simp
      omega
    rw [this]; simp
  unfold inplaceOp
  refine wpAny_holding ?_
  refine wpAny_bind (wpAny_typeOf (T := "list") ⟨_, z.1, rfl⟩ (wpAny_bind (wpAny_of_eq fills_list_iadd ?_)))
  show wpAny _ A (if false = true then _ else _) Q E s
  rw [if_neg Bool.false_ne_true]
  refine wpAny_bind (wpAny_binaryOp1_none (T := "list") (nm := "add") ⟨_, z.1, rfl⟩ ⟨_, zb.1, rfl⟩ noFill_list_add ?_)
  refine wpAny_bind (wpAny_of_eq seq_list_iadd ?_)
  refine wpAny_bind (wpAny_rule ?_)
  refine call_meets PySem.F.slot_list_iadd (show s.TypeIs (.ref D) "list" from ⟨_, z.1, rfl⟩) PySem.F.entry_list_iadd (PySem.F.args_list_iadd_2 _ _) (PySem.AutoSeq1.list___iadd___list_list_0 D its.toArray n b its2.toArray n2 hs0 (by rw [sizeLine_eq]; omega) (by rw [sizeLine_eq]; omega)) ⟨z.1, zb.1, (h _ (F.change (Heap.SameBut.update ..) z.2.1 z.2.2) (news_set N a c (Heap.SameBut.update ..) ?_))⟩
  have q := PySem.IsL.update z.1 (fun x => x ++ its2.toArray)
  have e : its.toArray ++ its2.toArray = (its ++ its2).toArray := by simp
  rw [e] at q
  have e2 : (if ((its ++ its2).toArray.size == its.toArray.size) = true then n else n + 1) = cnt n its2 := by
    unfold cnt
    simp only [List.size_toArray, List.length_append, beq_iff_eq]
    split <;> split <;> omega
  rw [e2] at q
  exact q
end
/-! ### loops whose ledger grows -/
def TurnEnd (h₀ : Heap) (L : Addr) (J : (Str → Option Value) → Led → Prop) (keep : Led) (I : Addr) (oI : Obj) (s₁ : Shared) (f : Flow) (s₂ : Shared) : Prop :=
  f = .next ∧ ∃ h' tk m' nx, s₂ = { s₁ with heap := h', toks := tk } ∧ Fr h₀ L h' m' ∧ News h₀ L h' ((I, oI) :: nx) ∧ (∀ p ∈ keep, p ∈ nx) ∧ (∀ p ∈ nx, @Ne Nat p.1 I) ∧ J m' nx
section
variable {prog : Program} {w : World} {A : Around} {E : Value → Shared → Prop} {s : Shared} {env : Env} {h₀ : Heap} {x : Str} {body : List Stmt} {Q : Flow → Shared → Prop}
theorem grow {I : Addr} {fp : List Addr} {n : Nat} {P : Nat → Value → Prop} {St : Nat → Heap → Prop} {m₀ : Str → Option Value} {news keep : Led} (J : Nat → (Str → Option Value) → Led → Prop)
    (W : Walks prog w A I fp [I] n P St) (hfp : ∀ b ∈ fp, b = I ∨ ∃ o, (b, o) ∈ keep) (hI : ∀ i h, St i h → ∃ o, h.get? I = some o) (hI0 : h₀.get? I = none) (hLf : env.locals ∉ fp)
    (hne : ∀ p ∈ news, @Ne Nat p.1 I) (hst : St 0 s.heap) (F : Fr h₀ env.locals s.heap m₀) (N : News h₀ env.locals s.heap news) (hk : ∀ p ∈ keep, p ∈ news) (hj : J 0 m₀ news)
    (turn : ∀ i v m₁ news₁ h tk oI, i < n → P i v → J i m₁ news₁ → (∀ p ∈ keep, p ∈ news₁) → (∀ p ∈ news₁, @Ne Nat p.1 I) → Fr h₀ env.locals h (fun y => if y = x then some v else m₁ y) → News h₀ env.locals h ((I, oI) :: news₁) →
      wpAny (model prog w) A (execs body env) (TurnEnd h₀ env.locals (J (i + 1)) keep I oI { s with heap := h, toks := tk }) E { s with heap := h, toks := tk })
    (done : ∀ m₁ news₁ h tk, J n m₁ news₁ → (∀ p ∈ keep, p ∈ news₁) → Fr h₀ env.locals h m₁ → News h₀ env.locals h news₁ → Q .next { s with heap := h, toks := tk }) :
    LoopAtV prog w A h₀ env x body Q E (.ref I) s := by
  refine ⟨I, fp, [I], n, P, St, m₀, news, fun i m nx => (∀ p ∈ keep, p ∈ nx) ∧ J i m nx, rfl, W, hLf, ?_, ?_, hst, F, N, ⟨hk, hj⟩, ?_, ?_⟩
  · intro b hb; rw [List.mem_singleton.mp hb]; exact hI0
  · intro p hp hb; exact hne p hp (List.mem_singleton.mp hb)
  · rintro i v m₁ news₁ s₁ own ⟨h, tk, rfl⟩ hin hP ⟨hk₁, hJ⟩ hoff hown hget hall hst₁ F₁ N₁
    obtain ⟨oI, hoI⟩ := hI _ _ hst₁
    have hIown : (I, oI) ∈ own := hall I (W.sub I (List.mem_singleton.mpr rfl)) hI0 oI hoI
    have N₂ : News h₀ env.locals h ((I, oI) :: news₁) := fun p hp => by
      rcases List.mem_cons.mp hp with rfl | hp
      · exact N₁ _ (List.mem_append_left _ hIown)
      · exact N₁ p (List.mem_append_right _ hp)
    refine wpAny_mono (turn i v m₁ news₁ h tk oI hin hP hJ hk₁ (fun p hp e => hoff p hp (List.mem_singleton.mpr e)) F₁ N₂) (fun f s₂ q => ?_) fun _ _ e => e
    obtain ⟨rfl, h', tk', m', nx, rfl, F', N', hk', hn', hj'⟩ := q
    refine .next ⟨rfl, h', tk', m', nx, rfl, F', fun p hp => N' p ?_, fun p hp e => hn' p hp (List.mem_singleton.mp e), hk', hj'⟩
    rcases List.mem_append.mp hp with hp | hp
    · have hg : h.get? p.1 = some p.2 := hget p hp
      rcases hfp p.1 (hown p hp) with e | ⟨o, ho⟩
      · have hg' := hg
        rw [e, hoI] at hg'
        have e2 : p = (I, oI) := Prod.ext e (Option.some.inj hg').symm
        rw [e2]; exact List.mem_cons_self
      · have hg' := (N₁ _ (List.mem_append_right _ (hk₁ _ ho))).1
        rw [hg] at hg'
        have e2 : p = (p.1, o) := Prod.ext rfl (Option.some.inj hg')
        rw [e2]
        exact List.mem_cons_of_mem _ (hk' _ ho)
    · exact List.mem_cons_of_mem _ hp
  · rintro h' tk m' news' F' N' _ ⟨hk', hJ⟩
    exact done m' news' h' tk hJ hk' F' N'
theorem grow_list {l : Addr} {vs : List Value} {c : Nat} {m₀ : Str → Option Value} {news : Led} (J : Nat → (Str → Option Value) → Led → Prop)
    (hh : A.handled = none) (hm : (l, listOf vs.toArray c) ∈ news) (F : Fr h₀ env.locals s.heap m₀) (N : News h₀ env.locals s.heap news) (hj : J 0 m₀ news)
    (turn : ∀ i v m₁ news₁ h tk I oI, vs[i]? = some v → J i m₁ news₁ → (l, listOf vs.toArray c) ∈ news₁ → (∀ p ∈ news₁, @Ne Nat p.1 I) → Fr h₀ env.locals h (fun y => if y = x then some v else m₁ y) → News h₀ env.locals h ((I, oI) :: news₁) →
      wpAny (model prog w) A (execs body env) (TurnEnd h₀ env.locals (J (i + 1)) [(l, listOf vs.toArray c)] I oI { s with heap := h, toks := tk }) E { s with heap := h, toks := tk })
    (done : ∀ m₁ news₁ h tk, J vs.length m₁ news₁ → (l, listOf vs.toArray c) ∈ news₁ → Fr h₀ env.locals h m₁ → News h₀ env.locals h news₁ → Q .next { s with heap := h, toks := tk }) :
    wpAny (model prog w) A (pyIter (.ref l)) (fun it s₂ => LoopAtV prog w A h₀ env x body Q E it s₂) E s := by
  have hls : s.heap.IsList l vs.toArray := ⟨_, (N _ hm).1, rfl, c, rfl⟩
  have hlt : l < s.heap.objs.size := Heap.lt_size (N _ hm).1
  have hne : l ≠ s.heap.objs.size := Nat.ne_of_lt hlt
  refine wpAny_pyIter_list hls ?_
  have W := Walks.list (prog := prog) (w := w) hh s.heap.objs.size l hne vs.toArray
  refine grow (keep := [(l, listOf vs.toArray c)]) (news := news) J W ?_ ?_ ?_ ?_ ?_ ⟨⟨_, Heap.get?_push_size _ rfl, rfl, rfl⟩, hls.at fun o e => Heap.get?_push_of_some _ e⟩ (F.push _) (fun p hp => ⟨Heap.get?_push_of_some _ (N p hp).1, (N p hp).2⟩) ?_ hj ?_ ?_
  · intro b hb
    rcases List.mem_cons.mp hb with e | hb
    · exact .inl e
    · rw [List.mem_singleton.mp hb]; exact .inr ⟨_, List.mem_singleton.mpr rfl⟩
  · rintro i h ⟨⟨o, e, _⟩, _⟩; exact ⟨o, e⟩
  · exact next_is_new F
  · intro hmm
    rcases List.mem_cons.mp hmm with e | hmm
    · exact absurd F.ns.lt (e ▸ Nat.lt_irrefl _)
    · exact (N _ hm).2.1 (List.mem_singleton.mp hmm).symm
  · intro p hp; exact Nat.ne_of_lt (Heap.lt_size (N p hp).1)
  · intro p hp; rw [List.mem_singleton.mp hp]; exact hm
  · intro i v m₁ news₁ h tk oI hi hP hJ hk hoff F₁ N₁
    exact turn i v m₁ news₁ h tk _ oI (by simpa using hP) hJ (hk _ (List.mem_singleton.mpr rfl)) hoff F₁ N₁
  · intro m₁ news₁ h tk hJ hk F₁ N₁
    exact done m₁ news₁ h tk (by simpa using hJ) (hk _ (List.mem_singleton.mpr rfl)) F₁ N₁
theorem grow_range {r : Addr} {a₀ b₀ : Int} {t₀ u₀ v₀ : Tok} {n : Nat} {m₀ : Str → Option Value} {news : Led} (J : Nat → (Str → Option Value) → Led → Prop)
    (hh : A.handled = none) (hr : IsRange s.heap r a₀ b₀ 1 t₀ u₀ v₀) (hsmall : Builtin.Range.small a₀ b₀ 1 = true) (hn : Builtin.Range.rangeSize a₀ b₀ 1 = (n : Int)) (F : Fr h₀ env.locals s.heap m₀) (N : News h₀ env.locals s.heap news) (hj : J 0 m₀ news)
    (turn : ∀ i t m₁ news₁ h tk I oI, i < n → J i m₁ news₁ → (∀ p ∈ news₁, @Ne Nat p.1 I) → Fr h₀ env.locals h (fun y => if y = x then some (.int (a₀ + (i : Int)) t) else m₁ y) → News h₀ env.locals h ((I, oI) :: news₁) →
      wpAny (model prog w) A (execs body env) (TurnEnd h₀ env.locals (J (i + 1)) [] I oI { s with heap := h, toks := tk }) E { s with heap := h, toks := tk })
    (done : ∀ m₁ news₁ h tk, J n m₁ news₁ → Fr h₀ env.locals h m₁ → News h₀ env.locals h news₁ → Q .next { s with heap := h, toks := tk }) :
    wpAny (model prog w) A (pyIter (.ref r)) (fun it s₂ => LoopAtV prog w A h₀ env x body Q E it s₂) E s := by
  refine wpAny_pyIter_range hr hsmall ?_
  have W : Walks prog w A s.heap.objs.size [s.heap.objs.size] [s.heap.objs.size] n (fun i v => i < n ∧ ∃ t, v = .int (a₀ + i * 1) t)
      (fun i h => IsRangeIter h s.heap.objs.size (a₀ + (i : Nat) * 1) ((n : Int) - (i : Nat)) 1) := (Walks.range hh _ a₀ 1 n).bound
  refine grow (keep := []) (news := news) J W ?_ ?_ ?_ ?_ ?_ (by show IsRangeIter _ _ _ _ _; rw [hn]; simpa using Heap.get?_push_size _ rfl) (F.push _) (fun p hp => ⟨Heap.get?_push_of_some _ (N p hp).1, (N p hp).2⟩) ?_ hj ?_ ?_
  · intro b hb; exact .inl (List.mem_singleton.mp hb)
  · intro i h e; exact ⟨_, e⟩
  · exact next_is_new F
  · intro hmm; exact absurd F.ns.lt ((List.mem_singleton.mp hmm) ▸ Nat.lt_irrefl _)
  · intro p hp; exact Nat.ne_of_lt (Heap.lt_size (N p hp).1)
  · intro p hp; exact absurd hp List.not_mem_nil
  · rintro i v m₁ news₁ h tk oI hi ⟨_, t, rfl⟩ hJ hk hoff F₁ N₁
    exact turn i t m₁ news₁ h tk _ oI hi hJ hoff (by simpa using F₁) N₁
  · intro m₁ news₁ h tk hJ hk F₁ N₁
    exact done m₁ news₁ h tk hJ F₁ N₁
end
end Mine
end
section
open PySem PySem.W PyProof.Rows PySem.Calls PySem.Spec PyProof.Rows.LCg PyProof.Rows.LCt
set_option linter.unusedVariables false
set_option exponentiation.threshold 100
set_option maxRecDepth 100000
namespace Mine
/-! ### comprehensions -/
/-- the end of an element: new objects ahead, the value among them -/
def ElEnd (h₀ : Heap) (L : Addr) (m : Str → Option Value) (led : Led) (d : Dat) (s₁ : Shared) (y : Value) (s' : Shared) : Prop :=
  ∃ add h' tk', s' = { s₁ with heap := h', toks := tk' } ∧ Fr h₀ L h' m ∧ News h₀ L h' (add ++ led) ∧ Apart add led ∧ DatIn add y d
/-- the end of an element that makes nothing -/
def ValEnd (h₀ : Heap) (L : Addr) (m : Str → Option Value) (led : Led) (P : Value → Prop) (s₁ : Shared) (y : Value) (s' : Shared) : Prop :=
  ∃ h' tk', s' = { s₁ with heap := h', toks := tk' } ∧ Fr h₀ L h' m ∧ News h₀ L h' led ∧ P y
section
variable {prog : Program} {w : World} {A : Around} {E : Value → Shared → Prop} {s : Shared} {h₀ : Heap} {L : Addr} {m : Str → Option Value} {env : Env}
/-- [x for x in SRC] -/
theorem comp_copy {x : Str} {p4 : Pos} {scope : Scope} {cl : List (Str × Addr)} {Fin : Shared → List Value → Led → Prop} {ax : Addr} {k : Nat} {base : Led} {vs : List Value}
    (hh : A.handled = none) (F : Fr h₀ L s.heap m) (N : News h₀ L s.heap base) (hm : (ax, listOf vs.toArray k) ∈ base) (hl : vs.length ≤ 1000)
    (hk : ∀ C, (compEnvC scope cl C env).scope.kind = .function) (hx : ∀ C, (compEnvC scope cl C env).kindOf x = some .local) (hxd : (x == ("__debug__" : Str)) = false)
    (fin : ∀ g, Fin { s with heap := g } vs base) : CompSrc prog w A h₀ L m env (.Name x p4) x scope cl Fin (.ref ax) s := by
  refine CompSrc.ledger hh F N hm (by rw [sizeLine_eq]; simp; omega) fun g => ?_
  refine rest_inv (n := vs.toArray.size) (fun i ys nw => nw = base ∧ ys = vs.take i) ?_ ?_ _ 0 [] base (by omega) ⟨rfl, by simp⟩
  · rintro i ys _ v I oI C oC D m₂ h tk E' hi ⟨rfl, rfl⟩ hP hC hx' F' N' off ne
    refine LCgL.ld_own (s := { { s with heap := g } with heap := h, toks := tk }) N' (List.mem_cons_of_mem _ List.mem_cons_self) hC hx' ?_ (hk C) (hx C) hxd
    refine ⟨h, tk, _, rfl, F', N', off, .inr ⟨_, hm, rfl, k, rfl⟩, rfl, ?_⟩
    have hP' : vs[i]? = some v := by simpa using hP
    rw [List.take_add_one, hP']; rfl
  · rintro ys _ ⟨rfl, rfl⟩
    have e : vs.take vs.toArray.size = vs := List.take_of_length_le (by simp)
    rw [e]
    exact fin g
/-- a comprehension over a range, each element new -/
theorem comp_els {elt : Expr} {x : Str} {scope : Scope} {cl : List (Str × Addr)} {Fin : Shared → List Value → Led → Prop} {r : Addr} {a b : Int} {t u v : Tok} {n : Nat} {base : Led} (f : Nat → Dat)
    (hh : A.handled = none) (F : Fr h₀ L s.heap m) (N : News h₀ L s.heap base) (hr : IsRange s.heap r a b 1 t u v) (hsm : Builtin.Range.small a b 1 = true) (hn : Builtin.Range.rangeSize a b 1 = ((n : Nat) : Int)) (hsz : n ≤ 1000)
    (turn : ∀ (i : Nat) (rows : Led) ys t I oI C oC D m₂ h tk (E' : Value → Shared → Prop), i < n → NsObj oC m₂ → m₂ x = some (.int (a + (i : Int)) t) → Fr h₀ L h m → News h₀ L h ((I, oI) :: (C, oC) :: (D, lst ys) :: (rows ++ base)) →
      wpAny (model prog w) A (eval elt (compEnvC scope cl C env)) (ElEnd h₀ L m ((I, oI) :: (C, oC) :: (D, lst ys) :: (rows ++ base)) (f i) { s with heap := h, toks := tk }) E' { s with heap := h, toks := tk })
    (fin : ∀ g ys rows, Apart rows base → DatAll rows ys ((List.range n).map f) → Fin { s with heap := g } ys (rows ++ base)) :
    CompSrc prog w A h₀ L m env elt x scope cl Fin (.ref r) s := by
  refine CompSrc.range hh F N hr hsm hn (by rw [sizeLine_eq]; omega) fun g => ?_
  refine rest_inv (n := n) (fun i ys nw => ∃ rows, nw = rows ++ base ∧ Apart rows base ∧ DatAll rows ys ((List.range i).map f)) ?_ ?_ n 0 [] base (by omega) ⟨[], rfl, fun _ hp => absurd hp List.not_mem_nil, .nil⟩
  · rintro i ys _ v I oI C oC D m₂ h tk E' hi ⟨rows, rfl, ha, hd⟩ ⟨t', rfl⟩ hC hx' F' N' off ne
    refine wpAny_mono (turn i rows ys t' I oI C oC D m₂ h tk E' hi hC hx' F' N') (fun y s' he => ?_) fun _ _ e => e
    obtain ⟨add, h', tk', rfl, F₂, N₂, ap, di⟩ := he
    refine ⟨h', tk', (add ++ rows) ++ base, rfl, F₂, fun p hp => N₂ p ?_, ?_, trivial, _, rfl, ?_, ?_⟩
    · simp only [List.mem_cons, List.mem_append] at hp ⊢
      rcases hp with h | h | h | (h | h) | h <;> simp [h]
    · refine Off3.of fun p hp => ?_
      have o3 := off.mem
      simp only [List.mem_append] at hp
      rcases hp with (h | h) | h
      · exact ⟨ap p h (I, oI) (by simp), ap p h (C, oC) (by simp), ap p h (D, lst ys) (by simp)⟩
      · exact o3 p (List.mem_append_left _ h)
      · exact o3 p (List.mem_append_right _ h)
    · intro p hp q hq
      rcases List.mem_append.mp hp with hp | hp
      · exact ap p hp q (by simp [hq])
      · exact ha p hp q hq
    · rw [List.range_succ, List.map_append]
      exact DatAll.append (hd.mono fun p hp => List.mem_append_right _ hp) (.one (di.mono fun p hp => List.mem_append_left _ hp))
  · rintro ys _ ⟨rows, rfl, ha, hd⟩
    exact fin g ys rows ha hd
/-- a comprehension over a range, each element there already -/
theorem comp_vals {elt : Expr} {x : Str} {scope : Scope} {cl : List (Str × Addr)} {Fin : Shared → List Value → Led → Prop} {r : Addr} {a b : Int} {t u v : Tok} {n : Nat} {base : Led} (f : Nat → Dat)
    (hh : A.handled = none) (F : Fr h₀ L s.heap m) (N : News h₀ L s.heap base) (hr : IsRange s.heap r a b 1 t u v) (hsm : Builtin.Range.small a b 1 = true) (hn : Builtin.Range.rangeSize a b 1 = ((n : Nat) : Int)) (hsz : n ≤ 1000)
    (turn : ∀ (i : Nat) ys t I oI C oC D m₂ h tk (E' : Value → Shared → Prop), i < n → NsObj oC m₂ → m₂ x = some (.int (a + (i : Int)) t) → Fr h₀ L h m → News h₀ L h ((I, oI) :: (C, oC) :: (D, lst ys) :: base) →
      wpAny (model prog w) A (eval elt (compEnvC scope cl C env)) (ValEnd h₀ L m ((I, oI) :: (C, oC) :: (D, lst ys) :: base) (fun y => DatIn [] y (f i)) { s with heap := h, toks := tk }) E' { s with heap := h, toks := tk })
    (fin : ∀ g ys, DatAll [] ys ((List.range n).map f) → Fin { s with heap := g } ys base) :
    CompSrc prog w A h₀ L m env elt x scope cl Fin (.ref r) s := by
  refine CompSrc.range hh F N hr hsm hn (by rw [sizeLine_eq]; omega) fun g => ?_
  refine rest_inv (n := n) (fun i ys nw => nw = base ∧ DatAll [] ys ((List.range i).map f)) ?_ ?_ n 0 [] base (by omega) ⟨rfl, .nil⟩
  · rintro i ys _ v I oI C oC D m₂ h tk E' hi ⟨rfl, hd⟩ ⟨t', rfl⟩ hC hx' F' N' off ne
    refine wpAny_mono (turn i ys t' I oI C oC D m₂ h tk E' hi hC hx' F' N') (fun y s' he => ?_) fun _ _ e => e
    obtain ⟨h', tk', rfl, F₂, N₂, di⟩ := he
    refine ⟨h', tk', _, rfl, F₂, N₂, off, trivial, rfl, ?_⟩
    rw [List.range_succ, List.map_append]
    exact DatAll.append hd (.one di)
  · rintro ys _ ⟨rfl, hd⟩
    exact fin g ys hd
end
end Mine
end
section
open PySem PySem.W PyProof.Rows PySem.Calls PySem.Spec PyProof.Rows.LCg PyProof.Rows.LCt
set_option linter.unusedVariables false
set_option exponentiation.threshold 100
set_option maxRecDepth 100000
namespace Mine
/-- a def that hands back new objects beside those it was given -/
def Ctr2 (prog : Program) (w : World) (K : Frag) (d : Nat) (f : Addr) (vs : List Value) (Pre : Led → Prop) (Post : Led → Led → Value → Prop) : Prop :=
  ∀ (p : Program) (loose : List Str) (mean : ExcName → Option Value) (mg mb : Str → Option Value) (dp un : Nat) (gd : Option (List Code)) (cn : Str) (cs : Scope) (a : Addr) (ccd : Value) (cl : List (Str × Addr)) (outer : List Env) (A₀ : Around) (base h₀ : Heap) (L : Addr) (m : Str → Option Value) (news : Led) (s : Shared) (Q E : Value → Shared → Prop),
    Below A₀ base outer h₀ → Fr h₀ L s.heap m → K.In h₀ → News h₀ L s.heap news → Top p loose mean mg mb h₀ → cs.kind = .function → dp + d < recursionLimit → un + (8 * d + 80) < cLine → Pre news →
    Ret h₀ L m news s Q (Post news) →
    wpAny (model prog w) (ktrTop dp un gd cn cs L a ccd cl outer) (call (.ref f) vs) Q E s
section
variable {prog : Program} {w : World} {K : Frag} {s : Shared}
theorem c2_use {d : Nat} {f : Addr} {vs : List Value} {Pre : Led → Prop} {Post : Led → Led → Value → Prop} {p : Program} {loose : List Str} {mean : ExcName → Option Value} {mg mb : Str → Option Value} {dp un : Nat} {gd : Option (List Code)} {cn : Str} {cs : Scope} {a : Addr} {ccd : Value} {cl : List (Str × Addr)} {outer : List Env} {A₀ : Around} {base h₀ : Heap} {L : Addr} {m : Str → Option Value} {news : Led} {s : Shared} {Q E : Value → Shared → Prop}
    (C : Ctr2 prog w K d f vs Pre Post) (B : Below A₀ base outer h₀) (F : Fr h₀ L s.heap m) (X : K.In h₀) (N : News h₀ L s.heap news) (T : Top p loose mean mg mb h₀) (hk : cs.kind = .function) (hd : dp + d < recursionLimit) (hu : un + (8 * d + 80) < cLine) (pre : Pre news)
    (ret : Ret h₀ L m news s Q (Post news)) : wpAny (model prog w) (ktrTop dp un gd cn cs L a ccd cl outer) (call (.ref f) vs) Q E s := C p loose mean mg mb dp un gd cn cs a ccd cl outer A₀ base h₀ L m news s Q E B F X N T hk hd hu pre ret
end
/-! ### months one behind the other -/
/-- the cells of months of these lengths, from column lp on -/
def cellsL (lp : Nat) (ns : List Int) : List (Option Int) := ns.foldl (fun cs n => cs ++ dayNs n.toNat) (List.replicate lp none)
theorem cellsL_nil (lp : Nat) : cellsL lp [] = List.replicate lp none := rfl
theorem cellsL_snoc (lp : Nat) (ns : List Int) (n : Int) : cellsL lp (ns ++ [n]) = cellsL lp ns ++ dayNs n.toNat := by unfold cellsL; rw [List.foldl_append]; rfl
/-- the leaf behind months of these lengths -/
def leafAt (lp : Nat) (before : List Int) (n : Int) : List (List (Option Int)) := leafL ((cellsL lp before).length % 7) n.toNat
def leavesL (lp : Nat) (ns : List Int) : List (List (List (Option Int))) := (List.range ns.length).map fun i => leafAt lp (ns.take i) (ns.getD i 0)
/-! ### the band's loop -/
structure BandJ (M : Str → Option Value) (Bd C2 C1 : Addr) (news : Led) (lp : Nat) (ns : List Int) (i : Nat) (m₁ : Str → Option Value) (n₁ : Led) : Prop where
  vars : ∀ z, z ≠ Str.ofString "leaf" → z ≠ Str.ofString "rows" → m₁ z = if z = Str.ofString "band" then some (.ref Bd) else M z
  led : ∃ bs c o2 o1 x2 x1 new, n₁ = (Bd, listOf bs.toArray c) :: (C2, o2) :: (C1, o1) :: (new ++ news) ∧ o2.data = Data.cell x2 ∧ o1.data = Data.cell x1 ∧ (∀ p ∈ new, @Ne Nat p.1 Bd ∧ @Ne Nat p.1 C2 ∧ @Ne Nat p.1 C1 ∧ ∀ q ∈ news, @Ne Nat p.1 q.1) ∧
    DatAll (new ++ news) bs ((if i = 0 then [] else rowsL (cellsL lp (ns.take i))).map rowD)
theorem band_init {M : Str → Option Value} {Bd C2 C1 : Addr} {news : Led} {lp : Nat} {ns : List Int} {o2 o1 : Obj} {x2 x1 : Option Value} (d2 : o2.data = Data.cell x2) (d1 : o1.data = Data.cell x1) :
    BandJ M Bd C2 C1 news lp ns 0 (fun y => if y = Str.ofString "band" then some (.ref Bd) else M y) ((Bd, listOf #[] 0) :: (C2, o2) :: (C1, o1) :: news) :=
  ⟨fun _ _ _ => rfl, [], 0, o2, o1, x2, x1, [], rfl, d2, d1, fun _ h => absurd h List.not_mem_nil, .nil⟩
theorem vars_form {M m₁ : Str → Option Value} {Bd : Addr} (h : ∀ z, z ≠ Str.ofString "leaf" → z ≠ Str.ofString "rows" → m₁ z = if z = Str.ofString "band" then some (.ref Bd) else M z) :
    ∃ u u', m₁ = fun z => if z = Str.ofString "leaf" then u else if z = Str.ofString "rows" then u' else if z = Str.ofString "band" then some (.ref Bd) else M z := by
  refine ⟨m₁ (Str.ofString "leaf"), m₁ (Str.ofString "rows"), funext fun z => ?_⟩
  by_cases a : z = Str.ofString "leaf"
  · rw [if_pos a, a]
  · rw [if_neg a]
    by_cases b : z = Str.ofString "rows"
    · rw [if_pos b, b]
    · rw [if_neg b]; exact h z a b
end Mine
end
section
open PySem PySem.W PyProof.Rows PySem.Calls PySem.Spec PyProof.Rows.LCg PyProof.Rows.LCt
set_option linter.unusedVariables false
set_option exponentiation.threshold 100
set_option maxRecDepth 100000
namespace Mine
/-! ### rows, cell by cell -/
def cellAt (xs : List (Option Int)) (p : Nat) : Option Int := (xs[p]?).getD none
def rowAtL (xs : List (Option Int)) (i : Nat) : List (Option Int) := (List.range 7).map fun k => cellAt xs (7 * i + k)
theorem rowAtL_length (xs : List (Option Int)) (i : Nat) : (rowAtL xs i).length = 7 := by unfold rowAtL; simp
theorem cellAt_lt {xs : List (Option Int)} {p : Nat} (h : xs.length ≤ p) : cellAt xs p = none := by
  unfold cellAt
  rw [List.getElem?_eq_none h]; rfl
theorem cellAt_app1 {xs ys : List (Option Int)} {p : Nat} (h : p < xs.length) : cellAt (xs ++ ys) p = cellAt xs p := by
  unfold cellAt
  rw [List.getElem?_append_left h]
theorem cellAt_app2 {xs ys : List (Option Int)} {p : Nat} (h : xs.length ≤ p) : cellAt (xs ++ ys) p = cellAt ys (p - xs.length) := by
  unfold cellAt
  rw [List.getElem?_append_right h]
theorem cellAt_rep {r p : Nat} : cellAt (List.replicate r none) p = none := by
  unfold cellAt
  rw [List.getElem?_replicate]
  split <;> rfl
theorem rowsL_eq (xs : List (Option Int)) : rowsL xs = (List.range ((xs.length + 6) / 7)).map (rowAtL xs) := by
  unfold rowsL chunk
  apply List.map_congr_left
  intro i hi
  have hi' := List.mem_range.mp hi
  apply List.ext_getElem?
  intro k
  unfold rowAtL
  rw [List.getElem?_take, List.getElem?_map]
  by_cases hk : k < 7
  · rw [if_pos hk, List.getElem?_drop, List.getElem?_range hk]
    show _ = some (cellAt xs (7 * i + k))
    unfold cellAt
    by_cases h : 7 * i + k < xs.length
    · rw [List.getElem?_append_left h, List.getElem?_eq_getElem h]; rfl
    · rw [List.getElem?_append_right (by omega), List.getElem?_eq_none (l := xs) (by omega), List.getElem?_replicate, if_pos (by omega)]; rfl
  · rw [if_neg hk, List.getElem?_eq_none (by simp; omega)]; rfl
theorem rowsL_length (xs : List (Option Int)) : (rowsL xs).length = (xs.length + 6) / 7 := by rw [rowsL_eq]; simp
theorem rowsL_get {xs : List (Option Int)} {i : Nat} (h : i < (xs.length + 6) / 7) : (rowsL xs)[i]? = some (rowAtL xs i) := by
  rw [rowsL_eq, List.getElem?_map, List.getElem?_range h]; rfl
theorem rowAtL_congr {xs ys : List (Option Int)} {i j : Nat} (h : ∀ k, k < 7 → cellAt xs (7 * i + k) = cellAt ys (7 * j + k)) : rowAtL xs i = rowAtL ys j := by
  unfold rowAtL
  apply List.map_congr_left
  intro k hk
  exact h k (List.mem_range.mp hk)
/-- months that end at a row's end -/
theorem join0 {cs D : List (Option Int)} (h : cs.length % 7 = 0) : rowsL (cs ++ D) = rowsL cs ++ rowsL (List.replicate 0 none ++ D) := by
  rw [rowsL_eq, rowsL_eq, rowsL_eq, List.length_append, show (cs.length + D.length + 6) / 7 = (cs.length + 6) / 7 + (D.length + 6) / 7 by omega, List.range_add, List.map_append]
  congr 1
  · apply List.map_congr_left
    intro i hi
    have hi' := List.mem_range.mp hi
    exact rowAtL_congr fun k hk => cellAt_app1 (by omega)
  · rw [List.map_map]
    show _ = (List.range ((D.length + 6) / 7)).map (rowAtL D)
    apply List.map_congr_left
    intro i hi
    show rowAtL (cs ++ D) ((cs.length + 6) / 7 + i) = rowAtL D i
    refine rowAtL_congr fun k hk => ?_
    rw [cellAt_app2 (by omega)]
    congr 1
    omega
/-- the row of two rows -/
def joinAt (a b : List (Option Int)) (k : Nat) : Option Int := match cellAt a k with | none => cellAt b k | some d => some d
def joinRow (a b : List (Option Int)) : List (Option Int) := (List.range 7).map (joinAt a b)
theorem cellAt_row {xs : List (Option Int)} {i k : Nat} (h : k < 7) : cellAt (rowAtL xs i) k = cellAt xs (7 * i + k) := by
  unfold rowAtL
  show ((List.map _ _)[k]?).getD none = _
  rw [List.getElem?_map, List.getElem?_range h]; rfl
theorem joinR {cs D : List (Option Int)} {q r : Nat} (h : cs.length = 7 * q + r) (h0 : 0 < r) (h1 : r < 7) :
    rowsL (cs ++ D) = (rowsL cs).take q ++ (joinRow (rowAtL cs q) (rowAtL (List.replicate r none ++ D) 0) :: (rowsL (List.replicate r none ++ D)).drop 1) := by
  rw [rowsL_eq, rowsL_eq, rowsL_eq, List.length_append, List.length_append, List.length_replicate, show (cs.length + D.length + 6) / 7 = q + (1 + ((r + D.length + 6) / 7 - 1)) by omega, List.range_add, List.range_add, List.map_append, List.map_append]
  rw [show (cs.length + 6) / 7 = q + 1 by omega, ← List.map_take, List.take_range, Nat.min_eq_left (by omega)]
  congr 1
  · apply List.map_congr_left
    intro i hi
    have hi' := List.mem_range.mp hi
    exact rowAtL_congr fun k hk => cellAt_app1 (by omega)
  · rw [List.map_append]
    have e1 : List.map (rowAtL (cs ++ D)) (List.map (fun x => q + x) (List.range 1)) = [joinRow (rowAtL cs q) (rowAtL (List.replicate r none ++ D) 0)] := by
      show [rowAtL (cs ++ D) (q + 0)] = _
      congr 1
      unfold joinRow rowAtL
      apply List.map_congr_left
      intro k hk
      have hk' := List.mem_range.mp hk
      show _ = joinAt (rowAtL cs q) (rowAtL (List.replicate r none ++ D) 0) k
      unfold joinAt
      rw [cellAt_row hk', cellAt_row hk', Nat.add_zero, Nat.mul_zero, Nat.zero_add]
      by_cases hr : k < r
      · rw [cellAt_app1 (by omega), cellAt_app1 (xs := List.replicate r none) (by simp; omega), cellAt_rep]
        cases cellAt cs (7 * q + k) <;> rfl
      · rw [cellAt_app2 (by omega), cellAt_lt (xs := cs) (by omega), cellAt_app2 (xs := List.replicate r none) (by simp; omega)]
        show _ = cellAt D _
        rw [List.length_replicate]
        congr 1
        omega
    rw [e1]
    show _ :: _ = _ :: _
    congr 1
    rw [← List.map_drop, List.map_map, List.map_map]
    have e2 : (List.range ((r + D.length + 6) / 7)).drop 1 = (List.range ((r + D.length + 6) / 7 - 1)).map (fun x => 1 + x) := by
      have : (r + D.length + 6) / 7 = 1 + ((r + D.length + 6) / 7 - 1) := by omega
      rw [this, List.range_add]
      simp
    rw [e2, List.map_map]
    apply List.map_congr_left
    intro i hi
    show rowAtL _ (q + (1 + i)) = rowAtL _ (1 + i)
    refine rowAtL_congr fun k hk => ?_
    rw [cellAt_app2 (by omega), cellAt_app2 (xs := List.replicate r none) (by simp; omega), List.length_replicate]
    congr 1
    omega
/-- the last cell -/
theorem cellsL_last (lp : Nat) {ns : List Int} {i : Nat} (h0 : 0 < i) (hi : i ≤ ns.length) (h : ∀ n ∈ ns, 1 ≤ n ∧ n ≤ 31) : ∃ d, cellAt (cellsL lp (ns.take i)) ((cellsL lp (ns.take i)).length - 1) = some d := by
  obtain ⟨j, rfl⟩ : ∃ j, i = j + 1 := ⟨i - 1, by omega⟩
  have hj : j < ns.length := by omega
  have b := h ns[j] (List.getElem_mem hj)
  have e : cellsL lp (ns.take (j + 1)) = cellsL lp (ns.take j) ++ dayNs ns[j].toNat := by
    rw [List.take_add_one, List.getElem?_eq_getElem hj]
    exact cellsL_snoc _ _ _
  rw [e, List.length_append, dayNs_length]
  rw [cellAt_app2 (by omega)]
  refine ⟨((ns[j].toNat - 1 : Nat) : Int) + 1, ?_⟩
  unfold cellAt dayNs
  rw [List.getElem?_map, List.getElem?_range (by omega)]
  show some _ = some _
  congr 2
  omega
end Mine
end
section
open PySem PySem.W PyProof.Rows PySem.Calls PySem.Spec PyProof.Rows.LCg PyProof.Rows.LCt
set_option linter.unusedVariables false
set_option exponentiation.threshold 100
set_option maxRecDepth 100000
namespace Mine
section
variable {prog : Program} {w : World} {A : Around} {E : Value → Shared → Prop} {s : Shared} {h₀ : Heap} {L D : Addr} {m : Str → Option Value} {news news' : Led} {n : Nat}
theorem m_truthyE {Q : Bool → Shared → Prop} (N : News h₀ L s.heap news) (hm : (D, listOf #[] n) ∈ news) (h : Q false { s with toks := s.toks + 1 + 1 }) : wpAny (model prog w) A (truthy (.ref D)) Q E s :=
  kgr_truthy (vs := []) N hm rfl rfl (by decide) h
theorem m_truthyC {ps : List Value} {y : Value} {Q : Bool → Shared → Prop} (N : News h₀ L s.heap news) (hm : (D, listOf (ps ++ [y]).toArray n) ∈ news) (hz : ps.length ≤ 1000) (h : Q true { s with toks := s.toks + 1 + 1 }) : wpAny (model prog w) A (truthy (.ref D)) Q E s := by
  refine kgr_truthy (vs := ps ++ [y]) N hm rfl rfl (by rw [List.length_append]; simp; omega) ?_
  have e : (!(ps ++ [y]).isEmpty) = true := by cases ps <;> rfl
  rw [e]; exact h
theorem m_pop {ps : List Value} {y : Value} {Q : Value → Shared → Prop} (F : Fr h₀ L s.heap m) (N : News h₀ L s.heap news) (U : Upd D (listOf (ps ++ [y]).toArray n) (listOf ps.toArray (n + 1)) news news') (hz : ps.length ≤ 1000)
    (h : ∀ h', Fr h₀ L h' m → News h₀ L h' news' → Q y { s with heap := h' }) : wpAny (model prog w) A (call (.builtin "list.pop") [.ref D]) Q E s :=
  kl_pop F N (kpa_last y ps) U (by rw [sizeLine_eq]; simp; omega) h
theorem m_pop0 {q : List Value} {y : Value} {u : Tok} {Q : Value → Shared → Prop} (F : Fr h₀ L s.heap m) (N : News h₀ L s.heap news) (U : Upd D (listOf (y :: q).toArray n) (listOf q.toArray (n + 1)) news news') (hz : q.length ≤ 1000)
    (h : ∀ h', Fr h₀ L h' m → News h₀ L h' news' → Q y { s with heap := h' }) : wpAny (model prog w) A (call (.builtin "list.pop") [.ref D, .int 0 u]) Q E s :=
  kl_popAt (k := 0) (p := []) (q := q) F N (by decide) (by unfold seqIndex?; simp) rfl U (by rw [sizeLine_eq]; simp; omega) h
theorem m_append {ps : List Value} {y : Value} {Q : Value → Shared → Prop} (F : Fr h₀ L s.heap m) (N : News h₀ L s.heap news) (U : Upd D (listOf ps.toArray n) (listOf (ps ++ [y]).toArray (n + 1)) news news') (hz : ps.length ≤ 1000)
    (h : ∀ h', Fr h₀ L h' m → News h₀ L h' news' → Q .none { s with heap := h' }) : wpAny (model prog w) A (call (.builtin "list.append") [.ref D, y]) Q E s := by
  refine append_K (n := n) (its := ps.toArray) F N (x := y) (news' := news') ?_ h (by rw [sizeLine_eq]; simp; omega)
  rw [List.push_toArray]
  exact U
end
/-! ### the facts of one turn -/
theorem leavesL_length (lp : Nat) (ns : List Int) : (leavesL lp ns).length = ns.length := by unfold leavesL; simp
theorem leavesL_get {lp : Nat} {ns : List Int} {i : Nat} (h : i < ns.length) : (leavesL lp ns)[i]? = some (leafAt lp (ns.take i) (ns.getD i 0)) := by
  unfold leavesL
  rw [List.getElem?_map, List.getElem?_range h]; rfl
theorem cellsL_next {lp : Nat} {ns : List Int} {i : Nat} (h : i < ns.length) : cellsL lp (ns.take (i + 1)) = cellsL lp (ns.take i) ++ dayNs (ns.getD i 0).toNat := by
  rw [List.take_add_one, List.getElem?_eq_getElem h, List.getD_eq_getElem?_getD, List.getElem?_eq_getElem h]
  exact cellsL_snoc _ _ _
theorem leafAt_rows (lp : Nat) (bf : List Int) (n : Int) : leafAt lp bf n = rowsL (List.replicate ((cellsL lp bf).length % 7) none ++ dayNs n.toNat) := leafL_rows _ _
theorem cellsL_len (lp : Nat) (ns : List Int) (h : ∀ n ∈ ns, 1 ≤ n ∧ n ≤ 31) : (cellsL lp ns).length ≤ lp + 31 * ns.length := by
  unfold cellsL
  have key : ∀ (ns : List Int) (cs : List (Option Int)), (∀ n ∈ ns, 1 ≤ n ∧ n ≤ 31) → (ns.foldl (fun cs n => cs ++ dayNs n.toNat) cs).length ≤ cs.length + 31 * ns.length := by
    intro ns
    induction ns with
    | nil => intro cs _; simp
    | cons n ns ih =>
      intro cs hb
      rw [List.foldl_cons, List.length_cons]
      have := ih (cs ++ dayNs n.toNat) fun k hk => hb k (List.mem_cons_of_mem _ hk)
      rw [List.length_append, dayNs_length] at this
      have := hb n List.mem_cons_self
      omega
  have := key ns (List.replicate lp none) h
  rw [List.length_replicate] at this
  exact this
theorem bandA {lp : Nat} {ns : List Int} (h1 : lp < 7) (hi : 0 < ns.length) : leafAt lp (ns.take 0) (ns.getD 0 0) = rowsL (cellsL lp (ns.take (0 + 1))) := by
  rw [cellsL_next hi, leafAt_rows]
  show rowsL (List.replicate ((List.replicate lp (none : Option Int)).length % 7) none ++ _) = rowsL (List.replicate lp none ++ _)
  rw [List.length_replicate, Nat.mod_eq_of_lt h1]
theorem bandB {lp : Nat} {ns : List Int} {i : Nat} (hi : i < ns.length) (h : (cellsL lp (ns.take i)).length % 7 = 0) : rowsL (cellsL lp (ns.take (i + 1))) = rowsL (cellsL lp (ns.take i)) ++ leafAt lp (ns.take i) (ns.getD i 0) := by
  rw [cellsL_next hi, leafAt_rows, join0 h, h]
theorem off4 {D a b c d : Addr} {x y z w : Obj} {r : Led} (o : Off1 D ((a, x) :: (b, y) :: (c, z) :: (d, w) :: r)) : @Ne Nat a D ∧ @Ne Nat b D ∧ @Ne Nat c D ∧ @Ne Nat d D ∧ ∀ p ∈ r, @Ne Nat p.1 D := by
  have off1 : ∀ (l : Led), Off1 D l → ∀ p ∈ l, @Ne Nat p.1 D := by
    intro l
    induction l with
    | nil => intro _ p hp; exact nomatch hp
    | cons a l ih =>
      intro o p hp
      rcases List.mem_cons.mp hp with rfl | hp
      · exact o.1
      · exact ih o.2 p hp
  have q := off1 _ o
  exact ⟨q (a, x) (by simp), q (b, y) (by simp), q (c, z) (by simp), q (d, w) (by simp), fun p hp => q p (by simp [hp])⟩
theorem band_end {h₀ h' : Heap} {L Bd C2 C1 I lv : Addr} {M m' : Str → Option Value} {all new news : Led} {bs : List Value} {c : Nat} {o2 o1 oI o : Obj} {x2 x1 : Option Value} {lp i : Nat} {ns : List Int} {s₁ : Shared} {tk' : Nat}
    (F : Fr h₀ L h' m') (N : News h₀ L h' all) (sub : ∀ p ∈ (I, oI) :: (Bd, listOf bs.toArray c) :: (C2, o2) :: (C1, o1) :: (new ++ news), p ∈ all)
    (hv : ∀ z, z ≠ Str.ofString "leaf" → z ≠ Str.ofString "rows" → m' z = if z = Str.ofString "band" then some (.ref Bd) else M z) (d2 : o2.data = Data.cell x2) (d1 : o1.data = Data.cell x1) (hnew : ∀ p ∈ new, @Ne Nat p.1 Bd ∧ @Ne Nat p.1 C2 ∧ @Ne Nat p.1 C1 ∧ ∀ q ∈ news, @Ne Nat p.1 q.1)
    (dat : DatAll (new ++ news) bs ((rowsL (cellsL lp (ns.take (i + 1)))).map rowD)) (hm : (lv, o) ∈ news) (i1 : @Ne Nat Bd I) (i2 : @Ne Nat C2 I) (i3 : @Ne Nat C1 I) (i4 : ∀ p ∈ new ++ news, @Ne Nat p.1 I) :
    TurnEnd h₀ L (BandJ M Bd C2 C1 news lp ns (i + 1)) [(lv, o)] I oI s₁ .next { s₁ with heap := h', toks := tk' } := by
  refine ⟨rfl, h', tk', m', (Bd, listOf bs.toArray c) :: (C2, o2) :: (C1, o1) :: (new ++ news), rfl, F, News.sub N sub, ?_, ?_, ⟨hv, bs, c, o2, o1, x2, x1, new, rfl, d2, d1, hnew, ?_⟩⟩
  · intro p hp
    rw [List.mem_singleton.mp hp]
    simp [hm]
  · intro p hp
    rcases List.mem_cons.mp hp with rfl | hp
    · exact i1
    · rcases List.mem_cons.mp hp with rfl | hp
      · exact i2
      · rcases List.mem_cons.mp hp with rfl | hp
        · exact i3
        · exact i4 p hp
  · rw [if_neg (by omega)]; exact dat
theorem band_row {led : Led} {bs : List Value} {cs : List (Option Int)} (hb : DatAll led bs ((rowsL cs).map rowD)) (h0 : 0 < cs.length) :
    ∃ ps ya lr k8 c6, bs = ps ++ [.ref ya] ∧ (ya, listOf lr.toArray k8) ∈ led ∧ DatAll led lr ((rowAtL cs ((cs.length + 6) / 7 - 1)).map cellD) ∧ ps.length = (cs.length + 6) / 7 - 1 ∧ lr.length = 7 ∧
      (ps ++ [Value.ref ya])[(-1 + ((ps ++ [Value.ref ya]).length : Int)).toNat]? = some (.ref ya) ∧ lr[(-1 + (lr.length : Int)).toNat]? = some c6 ∧ DatIn led c6 (cellD (cellAt cs (7 * ((cs.length + 6) / 7 - 1) + 6))) := by
  have hl : bs.length = (cs.length + 6) / 7 := by rw [datAll_len hb, List.length_map, rowsL_length]
  have hne : bs ≠ [] := by intro e; rw [e] at hl; simp at hl; omega
  obtain ⟨ps, y, rfl⟩ : ∃ ps y, bs = ps ++ [y] := ⟨bs.dropLast, bs.getLast hne, (List.dropLast_concat_getLast hne).symm⟩
  rw [List.length_append] at hl
  simp only [List.length_cons, List.length_nil] at hl
  obtain ⟨v, hv, dv⟩ := datAll_get hb ((cs.length + 6) / 7 - 1) (rowD (rowAtL cs ((cs.length + 6) / 7 - 1))) (by rw [List.getElem?_map, rowsL_get (by omega)]; rfl)
  have hy : (ps ++ [y])[(cs.length + 6) / 7 - 1]? = some y := by
    rw [show (cs.length + 6) / 7 - 1 = ps.length by omega]
    simp
  obtain rfl : v = y := Option.some.inj (hv.symm.trans hy)
  obtain ⟨ya, lr, k8, rfl, hm, hd⟩ := datIn_list dv
  have hl7 : lr.length = 7 := by rw [datAll_len hd, List.length_map, rowAtL_length]
  obtain ⟨c6, h6, d6⟩ := datAll_get hd 6 (cellD (cellAt cs (7 * ((cs.length + 6) / 7 - 1) + 6))) (by
    unfold rowAtL
    rw [List.getElem?_map, List.getElem?_map, List.getElem?_range (by omega)]; rfl)
  refine ⟨ps, ya, lr, k8, c6, rfl, hm, hd, by omega, hl7, ?_, ?_, d6⟩
  · rw [← hy]; congr 1; rw [List.length_append]; simp; omega
  · rw [← h6]; congr 1; omega
theorem leaf_first {led : Led} {rs : List Value} {xs : List (Option Int)} (hb : DatAll led rs ((rowsL xs).map rowD)) (h0 : 0 < xs.length) :
    ∃ fa rest fr k7, rs = .ref fa :: rest ∧ (fa, listOf fr.toArray k7) ∈ led ∧ DatAll led fr ((rowAtL xs 0).map cellD) ∧ DatAll led rest (((rowsL xs).drop 1).map rowD) := by
  have hl : rs.length = (xs.length + 6) / 7 := by rw [datAll_len hb, List.length_map, rowsL_length]
  cases rs with
  | nil => simp at hl; omega
  | cons y rest =>
    obtain ⟨v, hv, dv⟩ := datAll_get hb 0 (rowD (rowAtL xs 0)) (by rw [List.getElem?_map, rowsL_get (by omega)]; rfl)
    obtain rfl : y = v := by simpa using hv
    obtain ⟨fa, fr, k7, rfl, hm, hd⟩ := datIn_list dv
    refine ⟨fa, rest, fr, k7, rfl, hm, hd, ?_⟩
    have := DatAll.drop' hb 1
    rw [List.map_drop]
    exact this
theorem cell_row {led : Led} {vs : List Value} {cs : List (Option Int)} {i k : Nat} (hd : DatAll led vs ((rowAtL cs i).map cellD)) (hk : k < 7) : ∃ v, vs[(0 + (k : Int)).toNat]? = some v ∧ DatIn led v (cellD (cellAt (rowAtL cs i) k)) := by
  rw [cellAt_row hk, show (0 + (k : Int)).toNat = k by omega]
  exact datAll_get hd k _ (by unfold rowAtL; rw [List.getElem?_map, List.getElem?_map, List.getElem?_range hk]; rfl)
theorem cell_free {led : Led} {v : Value} {c : Option Int} (h : DatIn led v (cellD c)) : DatIn [] v (cellD c) := by
  rcases datIn_cell h with ⟨rfl, rfl⟩ | ⟨i, t, rfl, rfl⟩
  · exact .none
  · exact .int _ _
theorem bandC {led : Led} {ps rest ys : List Value} {DJ : Addr} {k : Nat} {cs D : List (Option Int)} {q r : Nat} (h : cs.length = 7 * q + r) (h0 : 0 < r) (h1 : r < 7) (hb : DatAll led (ps ++ [v]) ((rowsL cs).map rowD)) (hl : ps.length = q)
    (hm : (DJ, listOf ys.toArray k) ∈ led) (hy : DatAll [] ys ((List.range 7).map fun k => cellD (joinAt (rowAtL cs q) (rowAtL (List.replicate r none ++ D) 0) k)))
    (hr : DatAll led rest (((rowsL (List.replicate r none ++ D)).drop 1).map rowD)) : DatAll led ((ps ++ [.ref DJ]) ++ rest) ((rowsL (cs ++ D)).map rowD) := by
  rw [joinR h h0 h1, List.map_append, List.map_cons, List.append_assoc]
  refine DatAll.append ?_ (.cons (.list hm (DatAll.mono (fun _ hp => absurd hp List.not_mem_nil) ?_)) hr)
  · have := DatAll.take' hb q
    rw [List.take_left' hl, ← List.map_take] at this
    exact this
  · unfold joinRow
    rw [List.map_map]
    exact hy
/-- the comprehension's elements, told ahead -/
def Mark (f : Nat → Dat) : Prop := True
/-- a goal that the walk leaves alone -/
def Held (p : Prop) : Prop := p
theorem held {p : Prop} (h : Held p) : p := h
section
variable {prog : Program} {w : World} {A : Around} {E : Value → Shared → Prop} {s : Shared} {h₀ : Heap} {L : Addr} {m : Str → Option Value} {env : Env}
theorem comp_valsM {elt : Expr} {x : Str} {scope : Scope} {cl : List (Str × Addr)} {Fin : Shared → List Value → Led → Prop} {r : Addr} {a b : Int} {t u v : Tok} {n : Nat} {base : Led} {f : Nat → Dat} (mk : Mark f)
    (hh : A.handled = none) (F : Fr h₀ L s.heap m) (N : News h₀ L s.heap base) (hr : IsRange s.heap r a b 1 t u v) (hsm : Builtin.Range.small a b 1 = true) (hn : Builtin.Range.rangeSize a b 1 = ((n : Nat) : Int)) (hsz : n ≤ 1000)
    (turn : Held (∀ (i : Nat) ys t I oI C oC D m₂ h tk (E' : Value → Shared → Prop), i < n → NsObj oC m₂ → m₂ x = some (.int (a + (i : Int)) t) → Fr h₀ L h m → News h₀ L h ((I, oI) :: (C, oC) :: (D, lst ys) :: base) →
      wpAny (model prog w) A (eval elt (compEnvC scope cl C env)) (ValEnd h₀ L m ((I, oI) :: (C, oC) :: (D, lst ys) :: base) (fun y => DatIn [] y (f i)) { s with heap := h, toks := tk }) E' { s with heap := h, toks := tk }))
    (fin : Held (∀ g ys, DatAll [] ys ((List.range n).map f) → Fin { s with heap := g } ys base)) :
    CompSrc prog w A h₀ L m env elt x scope cl Fin (.ref r) s := comp_vals f hh F N hr hsm hn hsz turn fin
end
theorem join_key {l1 l2 : Led} {lr fr : List Value} {cs xs : List (Option Int)} {q : Nat} (h1 : DatAll l1 lr ((rowAtL cs q).map cellD)) (h2 : DatAll l2 fr ((rowAtL xs 0).map cellD)) {k : Nat} (hk : k < 7) :
    ∃ va vb, lr[(0 + (k : Int)).toNat]? = some va ∧ fr[(0 + (k : Int)).toNat]? = some vb ∧ ((va = .none ∧ DatIn [] vb (cellD (joinAt (rowAtL cs q) (rowAtL xs 0) k))) ∨ ∃ n t, va = .int n t ∧ DatIn [] va (cellD (joinAt (rowAtL cs q) (rowAtL xs 0) k))) := by
  obtain ⟨va, xa, da⟩ := cell_row h1 hk
  obtain ⟨vb, xb, db⟩ := cell_row h2 hk
  refine ⟨va, vb, xa, xb, ?_⟩
  rcases datIn_cell da with ⟨rfl, en⟩ | ⟨n, t, rfl, en⟩
  · refine .inl ⟨rfl, ?_⟩
    unfold joinAt
    rw [en]
    exact cell_free db
  · refine .inr ⟨n, t, rfl, ?_⟩
    unfold joinAt
    rw [en]
    rw [en] at da
    exact cell_free da
theorem new_more {D9 I Bd C2 C1 DJ : Addr} {x1 x2 x3 x4 x5 y : Obj} {new news : Led} (hnew : ∀ p ∈ new, @Ne Nat p.1 Bd ∧ @Ne Nat p.1 C2 ∧ @Ne Nat p.1 C1 ∧ ∀ q ∈ news, @Ne Nat p.1 q.1)
    (o : Off1 DJ ((D9, x1) :: (I, x2) :: (Bd, x3) :: (C2, x4) :: (C1, x5) :: (new ++ news))) : ∀ p ∈ (DJ, y) :: new, @Ne Nat p.1 Bd ∧ @Ne Nat p.1 C2 ∧ @Ne Nat p.1 C1 ∧ ∀ q ∈ news, @Ne Nat p.1 q.1 := by
  obtain ⟨_, _, w3, w4, w5⟩ := off4 o
  intro p hp
  rcases List.mem_cons.mp hp with rfl | hp
  · exact ⟨Ne.symm w3, Ne.symm w4, Ne.symm (w5 (C1, x5) (by simp)), fun q hq => Ne.symm (w5 q (by simp [hq]))⟩
  · exact hnew p hp
end Mine
end
section
open PySem PySem.W PyProof.Rows PySem.Calls PySem.Spec PyProof.Rows.LCg PyProof.Rows.LCt
set_option linter.unusedVariables false
set_option exponentiation.threshold 100
set_option maxRecDepth 100000
namespace Mine
/-! ### the months' loop -/
structure RightJ (M : Str → Option Value) (Cd : Addr) (rest : Led) (noon : Int) (lp : Nat) (ns : List Int) (i : Nat) (m₁ : Str → Option Value) (n₁ : Led) : Prop where
  vars : ∀ z, z ≠ Str.ofString "k" → z ≠ Str.ofString "day" → m₁ z = if z = Str.ofString "cells" then some (.ref Cd) else M z
  day : ∃ d t, m₁ (Str.ofString "day") = some (.int d t) ∧ d = noon + (ns.take i).sum
  led : ∃ cv c, n₁ = (Cd, listOf cv.toArray c) :: rest ∧ DatAll [] cv ((cellsL lp (ns.take i)).map cellD)
theorem right_init {M : Str → Option Value} {Cd : Addr} {rest : Led} {noon : Int} {t : Tok} {lp c k : Nat} {ns : List Int} (e : k = lp) :
    RightJ M Cd rest noon lp ns 0 (fun y => if y = Str.ofString "day" then some (.int noon t) else if y = Str.ofString "cells" then some (.ref Cd) else M y) ((Cd, listOf (List.replicate k Value.none).toArray c) :: rest) := by
  subst e
  refine ⟨fun z _ b => by simp only [if_neg b], ⟨noon, t, by simp only [if_true], by simp⟩, ⟨_, c, rfl, datAll_rep [] k⟩⟩
theorem right_form {M m₁ : Str → Option Value} {Cd : Addr} {d : Int} {t : Tok} (h : ∀ z, z ≠ Str.ofString "k" → z ≠ Str.ofString "day" → m₁ z = if z = Str.ofString "cells" then some (.ref Cd) else M z) (hd : m₁ (Str.ofString "day") = some (.int d t)) :
    ∃ u, m₁ = fun z => if z = Str.ofString "k" then u else if z = Str.ofString "day" then some (.int d t) else if z = Str.ofString "cells" then some (.ref Cd) else M z := by
  refine ⟨m₁ (Str.ofString "k"), funext fun z => ?_⟩
  by_cases a : z = Str.ofString "k"
  · rw [if_pos a, a]
  · rw [if_neg a]
    by_cases b : z = Str.ofString "day"
    · rw [if_pos b, b]; exact hd
    · rw [if_neg b]; exact h z a b
theorem take_sum {ns : List Int} {i : Nat} (h : i < ns.length) : (ns.take (i + 1)).sum = (ns.take i).sum + ns.getD i 0 := by
  rw [List.take_add_one, List.getElem?_eq_getElem h, List.getD_eq_getElem?_getD, List.getElem?_eq_getElem h, List.sum_append]
  simp
theorem cellsL_sum (lp : Nat) (ns : List Int) (h : ∀ n ∈ ns, 1 ≤ n ∧ n ≤ 31) : ((cellsL lp ns).length : Int) = (lp : Int) + ns.sum := by
  unfold cellsL
  have key : ∀ (ns : List Int) (cs : List (Option Int)), (∀ n ∈ ns, 1 ≤ n ∧ n ≤ 31) → ((ns.foldl (fun cs n => cs ++ dayNs n.toNat) cs).length : Int) = (cs.length : Int) + ns.sum := by
    intro ns
    induction ns with
    | nil => intro cs _; simp
    | cons n ns ih =>
      intro cs hb
      rw [List.foldl_cons, List.sum_cons]
      have e := ih (cs ++ dayNs n.toNat) fun k hk => hb k (List.mem_cons_of_mem _ hk)
      rw [List.length_append, dayNs_length] at e
      have := hb n List.mem_cons_self
      omega
  have := key ns (List.replicate lp none) h
  rw [List.length_replicate] at this
  exact this
theorem leaves_same {J : Nat → Int} {noon : Int} {ns : List Int} (h : ∀ n ∈ ns, 1 ≤ n ∧ n ≤ 31) (hJ : ∀ i, i < ns.length → J i % 7 = (noon + (ns.take i).sum) % 7) :
    (List.range ns.length).map (fun i => leafJ (J i) (ns.getD i 0)) = (leavesL ((noon + 1) % 7).toNat ns).map leafD := by
  unfold leavesL
  rw [List.map_map]
  apply List.map_congr_left
  intro i hi
  have e := hJ i (List.mem_range.mp hi)
  have s := cellsL_sum ((noon + 1) % 7).toNat (ns.take i) fun n hn => h n (List.mem_of_mem_take hn)
  show leafD (leafL _ _) = leafD (leafL _ _)
  congr 2
  omega
theorem getD_mem {ns : List Int} {i : Nat} (h : i < ns.length) : ns.getD i 0 ∈ ns := by
  rw [List.getD_eq_getElem?_getD, List.getElem?_eq_getElem h]; exact List.getElem_mem h
theorem ints_get {vs : List Value} {ns : List Int} (h : IntsAre vs ns) {i : Nat} (hi : i < ns.length) : ∃ t, vs[(0 + (i : Int)).toNat]? = some (.int (ns.getD i 0) t) := by
  rw [show (0 + (i : Int)).toNat = i by omega, List.getD_eq_getElem?_getD, List.getElem?_eq_getElem hi]
  exact h.get i _ (List.getElem?_eq_getElem hi)
theorem leaf_get {led : Led} {vs : List Value} {J : Nat → Int} {ns : List Int} (h : DatAll led vs ((List.range ns.length).map fun i => leafJ (J i) (ns.getD i 0))) {i : Nat} (hi : i < ns.length) :
    ∃ a, vs[(0 + (i : Int)).toNat]? = some (.ref a) ∧ DatIn led (.ref a) (leafJ (J i) (ns.getD i 0)) := by
  obtain ⟨v, hv, dv⟩ := datAll_get h i (leafJ (J i) (ns.getD i 0)) (by rw [List.getElem?_map, List.getElem?_range hi]; rfl)
  obtain ⟨a, rfl⟩ := leafJ_ref dv
  exact ⟨a, by rw [show (0 + (i : Int)).toNat = i by omega]; exact hv, dv⟩
theorem days_one {vs : List Value} {n : Int} (h : IntsAre vs (rangeKs 1 n.toNat)) : DatAll [] vs ((dayNs n.toNat).map cellD) := by
  rw [← rangeKs_days]; exact datAll_map_ints h
theorem right_end {h₀ h' : Heap} {L Cd I : Addr} {M m' : Str → Option Value} {all rest : Led} {cv ys : List Value} {c : Nat} {oI : Obj} {lp i : Nat} {ns : List Int} {noon d : Int} {t : Tok} {s₁ : Shared} {tk' : Nat} (hi : i < ns.length)
    (F : Fr h₀ L h' m') (N : News h₀ L h' all) (sub : ∀ p ∈ (I, oI) :: (Cd, listOf (cv ++ ys).toArray (cnt c ys)) :: rest, p ∈ all)
    (hv : ∀ z, z ≠ Str.ofString "k" → z ≠ Str.ofString "day" → m' z = if z = Str.ofString "cells" then some (.ref Cd) else M z) (hd : m' (Str.ofString "day") = some (.int d t)) (ed : d = noon + (ns.take i).sum + ns.getD i 0)
    (dc : DatAll [] cv ((cellsL lp (ns.take i)).map cellD)) (dy : DatAll [] ys ((dayNs (ns.getD i 0).toNat).map cellD)) (hI : ∀ p ∈ rest, @Ne Nat p.1 I) (hC : @Ne Nat Cd I) :
    TurnEnd h₀ L (RightJ M Cd rest noon lp ns (i + 1)) [] I oI s₁ .next { s₁ with heap := h', toks := tk' } := by
  refine ⟨rfl, h', tk', m', (Cd, listOf (cv ++ ys).toArray (cnt c ys)) :: rest, rfl, F, News.sub N sub, fun p hp => absurd hp List.not_mem_nil, ?_, ⟨hv, ⟨d, t, hd, ?_⟩, ⟨_, _, rfl, ?_⟩⟩⟩
  · intro p hp
    rcases List.mem_cons.mp hp with rfl | hp
    · exact hC
    · exact hI p hp
  · rw [take_sum hi, ed]; omega
  · rw [cellsL_next hi, List.map_append]
    exact dc.append dy
section
variable {prog : Program} {w : World} {A : Around} {E : Value → Shared → Prop} {s : Shared} {h₀ : Heap} {L a b : Addr} {news l1 l2 : Led} {Q : Value → Shared → Prop} {r1 : List (List (Option Int))}
theorem m_eqRowsS (N : News h₀ L s.heap news) (Da : DatIn l1 (.ref a) (leafD r1)) (sa : ∀ p ∈ l1, p ∈ news) (Db : DatIn l2 (.ref b) (leafD r1)) (sb : ∀ p ∈ l2, p ∈ news) (hu : A.units + 64 < cLine)
    (h : Q (.bool true) s) : wpAny (model prog w) A (compareOp .Eq (.ref a) (.ref b)) Q E s := by
  refine m_eqRows N Da sa Db sb hu ?_
  rw [decide_eq_true rfl]
  exact h
theorem rows_ref {led : Led} {v : Value} {r : List (List (Option Int))} (h : DatIn led v (leafD r)) : ∃ a, v = .ref a := by
  obtain ⟨a, _, _, e, _⟩ := datIn_list h
  exact ⟨a, e⟩
end
theorem upd_app {d : Addr} {o o' : Obj} {a r r' : Led} (h : ∀ p ∈ a, p.1 ≠ d) (U : Upd d o o' r r') : Upd d o o' (a ++ r) (a ++ r') := by
  induction a with
  | nil => exact U
  | cons x a ih => exact .tail (h x List.mem_cons_self) (ih fun p hp => h p (List.mem_cons_of_mem _ hp))
theorem apart_ne {a b : Led} {d : Addr} {o : Obj} (A : Apart a b) (h : (d, o) ∈ b) : ∀ p ∈ a, p.1 ≠ d := fun p hp => A p hp _ h
theorem all_lt_ne {l : Led} {D d : Addr} {o : Obj} (h : ∀ p ∈ l, @LT.lt Nat _ p.1 D) (m : (d, o) ∈ l) : D ≠ d := Nat.ne_of_gt (h _ m)
end Mine
end
section
open PySem PySem.W PyProof.Rows PySem.Calls PySem.Spec PyProof.Rows.LCg PyProof.Rows.LCt
set_option linter.unusedVariables false
set_option exponentiation.threshold 100
set_option maxRecDepth 100000
namespace Mine
section
variable {prog : Program} {w : World} {A : Around} {E : Value → Shared → Prop} {s : Shared} {h₀ : Heap} {L : Addr} {m : Str → Option Value} {news : Led}
theorem m_divmod {a b : Int} {t u : Tok} {Q : Value → Shared → Prop} (F : Fr h₀ L s.heap m) (N : News h₀ L s.heap news) (ha : 0 ≤ a ∧ a ≤ 1000000) (hb : 0 < b ∧ b ≤ 1000)
    (h : ∀ D h' t1 t2 tk, Fr h₀ L h' m → News h₀ L h' ((D, ({ cls := .type "tuple", data := .seq #[.int (a.fdiv b) t1, .int (a.fmod b) t2] } : Obj)) :: news) → (∀ p ∈ news, @LT.lt Nat _ p.1 D) → Q (.ref D) { s with heap := h', toks := tk }) :
    wpAny (model prog w) A (call (.builtin "divmod") [.int a t, .int b u]) Q E s :=
  divmod_N F N (by omega) (fun h' F' N' => h _ h' _ _ _ F' N' fun p hp => Heap.lt_size (N p hp).1)
end
theorem long1 {y : Int} (h : y.fmod 400 = 0) : (y.fmod 400 == 0) = isleapB y := by
  simp only [fmod_lit] at h ⊢
  unfold isleapB
  rw [show (y % 400 == 0) = true by rw [beq_iff_eq]; exact h, show (y % 4 == 0) = true by rw [beq_iff_eq]; omega, Bool.or_true]; rfl
theorem long2 {y : Int} (h : y.fmod 400 ≠ 0) (h4 : y.fmod 4 = 0) : (y.fmod 100 != 0) = isleapB y := by
  simp only [fmod_lit] at h h4 ⊢
  unfold isleapB
  rw [show (y % 400 == 0) = false by rw [beq_eq_false_iff_ne]; exact h, show (y % 4 == 0) = true by rw [beq_iff_eq]; omega, Bool.or_false]; rfl
theorem long3 {y : Int} (h4 : y.fmod 4 ≠ 0) : (y.fmod 4 == 0) = isleapB y := by
  simp only [fmod_lit] at h4 ⊢
  unfold isleapB
  rw [show (y % 4 == 0) = false by rw [beq_eq_false_iff_ne]; exact h4]; rfl
/-! ### a comprehension with a test over a tuple of the ledger -/
section
variable {prog : Program} {w : World} {A : Around} {E : Value → Shared → Prop} {s : Shared} {h₀ : Heap} {L : Addr} {m : Str → Option Value} {env : Env}
def SrcTup (prog : Program) (w : World) (A : Around) (h₀ : Heap) (L : Addr) (m : Str → Option Value) (env : Env) (ct elt : Expr) (x : Str) (scope : Scope) (cl : List (Str × Addr)) (Fin : Shared → List Value → Led → Prop) (xv : Value) (s₁ : Shared) : Prop :=
  ∃ ax its o news, xv = .ref ax ∧ A.handled = none ∧ Fr h₀ L s₁.heap m ∧ News h₀ L s₁.heap news ∧ (ax, o) ∈ news ∧ (∀ h : Heap, h.get? ax = some o → h.IsTuple ax its) ∧ its.size ≤ sizeLine ∧
    ∀ s₂ : Shared, (∃ h, s₂ = { s₁ with heap := h }) → CompRestT prog w A h₀ L m env ct elt x scope cl s₂ (fun nw => (ax, o) ∈ nw) (fun i v => its[i]? = some v) (Fin s₂) its.size 0 [] news
theorem assign_tup {ct elt iter : Expr} {x y : Str} {px py : Pos} {scope : Scope} {cl : List (Str × Addr)} {pos spos : Pos} {Q : Flow → Shared → Prop} (F₀ : Fr h₀ L s.heap m) (hLe : env.locals = L)
    (hsw : swapsWith (.ListComp elt [⟨.Name x px, iter, [ct], 0⟩] scope pos) (some (.Name y py)) spos.line env = pure true)
    (hclos : closureFor scope env = pure cl) (hcell : ∀ z ∈ scope.names, z.2 ≠ .cell) (hkind : scope.kind = .function)
    (hnames : ∀ z ∈ scope.names, z.2 = .local → scope.names.lookup z.1 = some .local) (hx : scope.names.lookup x = some .local)
    (hy : env.kindOf y = some .local) (hp : (env.scope.kind == .class || (env.scope.kind == .module && env.locals != env.globals)) = false)
    (h : wpAny (model prog w) A (eval iter env) (SrcTup prog w A h₀ L m env ct elt x scope cl (fun s₂ => FinA h₀ L m s₂ y Q)) E s)
    (hs : ∀ x, foldedSetIterable iter env x = pure x := by intro _; rfl) :
    wpAny (model prog w) A (exec (.Assign [.Name y py] (.ListComp elt [⟨.Name x px, iter, [ct], 0⟩] scope pos) spos) env) Q E s := by
  subst hLe
  rw [exec_Assign_Name_used _ _ _ _ hsw]
  refine wpAny_bind (wpAny_standAt (wpAny_bind ?_))
  show wpAny _ A (do let _ ← comprehension (.ListComp elt [⟨.Name x px, iter, [ct], 0⟩] scope pos) scope env _ (newList []) false (eval iter env) (some (assign (.Name y py) env))) _ _ s
  refine wpAny_bind (wpAny_mono (wpAny_comprehension_free (use := some (assign (.Name y py) env)) (Q := fun _ s' => Q .next s') rfl hs hclos hkind hnames
    (wpAny_mono h (fun xv s₁ h₁ => ?_) fun _ _ e => e)) (fun _ s' hq => wpAny_pure (wpAny_pure hq)) fun _ _ e => e)
  obtain ⟨ax, its, o, news, rfl, hh, F, N, hm, htup, hsz, R⟩ := h₁
  have hg := (N _ hm).1
  have hlt : ax < s₁.heap.objs.size := Heap.lt_size hg
  refine wpAny_pyIter_tuple (htup _ hg) ?_
  have up : ∀ b o, s₁.heap.get? b = some o → (s₁.heap.push { cls := .type "tuple_iterator", data := .fields #[.ref ax, .int 0 0] }).get? b = some o := fun b o e => Heap.get?_push_of_some _ e
  refine block_T (S := fun nw => (ax, o) ∈ nw) (news := news) (Walks.tuple hh s₁.heap.objs.size ax (Nat.ne_of_lt hlt) its) hsz (fun i h st => by obtain ⟨o, e, _⟩ := st.1; exact ⟨o, e⟩) (fun i h h' oI nw st e e' k N9 S9 => ⟨by obtain ⟨o', q, r⟩ := st.1; rw [e] at q; cases q; exact ⟨oI, e', r⟩, htup _ (N9 _ S9).1⟩) hcell hkind hx ⟨⟨_, Heap.get?_push_size _ rfl, rfl, rfl⟩, htup _ (up _ _ hg)⟩ (fun b hb => ?_)
    (F.keeps up) (N.grown up) (Nat.ne_of_lt F.ns.lt) (next_is_new F) (fun p hp => Nat.ne_of_lt (Heap.lt_size (N p hp).1)) hm (R _ ⟨_, rfl⟩) ?_
  · show b < (s₁.heap.push _).objs.size
    rw [Heap.size_push]
    rcases List.mem_cons.mp hb with rfl | hb
    · exact Nat.lt_succ_self _
    · rw [List.mem_singleton.mp hb]; exact Nat.lt_succ_of_lt hlt
  · intro D C h' tk m' ys news' F' N' o1 hn hC₀ hD₀ hCL hDL hCD offC fin
    show wpAny _ A (assign (.Name y py) env (.ref D)) _ _ _
    refine wpAny_assign_Name (wpAny_storeName_local hy F'.ns (fun h₂ hn₂ hs₂ => ?_) hp)
    have hL₀ : h₀.get? env.locals = none := Heap.get?_none_of_le F'.above
    have F₂ : Fr h₀ env.locals h₂ (fun z => if z = y then some (.ref D) else m z) := ⟨hn₂, fun b o e => hs₂.extBut b o (fun q => by rw [q, hL₀] at e; cases e) (F'.keep b o e), F'.above⟩
    refine ⟨m', hn.sameBut hs₂ hCL, fun h'' hs'' => fin D h'' _ (F₂.change hs'' hCL hC₀) (fun p hp => ?_) o1⟩
    have z : h₂.get? p.1 = some p.2 := hs₂.extBut _ _ (N' p hp).2.1 (N' p hp).1
    refine ⟨hs''.extBut _ _ ?_ z, (N' p hp).2⟩
    rcases List.mem_cons.mp hp with rfl | hp
    · exact Ne.symm hCD
    · exact offC p hp
def KeptT (h₀ : Heap) (L : Addr) (m : Str → Option Value) (led : Led) (k : Int) (b : Prop) (s₁ : Shared) (y : Value) (s' : Shared) : Prop :=
  b ∧ (∃ t, y = .int k t) ∧ ∃ h' tk', s' = { s₁ with heap := h', toks := tk' } ∧ Fr h₀ L h' m ∧ News h₀ L h' led
def LeftT (h₀ : Heap) (L : Addr) (m : Str → Option Value) (led : Led) (b : Prop) (s₁ s' : Shared) : Prop :=
  b ∧ ∃ h' tk', s' = { s₁ with heap := h', toks := tk' } ∧ Fr h₀ L h' m ∧ News h₀ L h' led
theorem ints_snoc {vs : List Value} {ns : List Int} (h : IntsAre vs ns) (k : Int) (t : Tok) : IntsAre (vs ++ [.int k t]) (ns ++ [k]) := h.append (.cons _ _ .nil)
theorem comp_tup {ct elt : Expr} {x : Str} {scope : Scope} {cl : List (Str × Addr)} {Fin : Shared → List Value → Led → Prop} {ax : Addr} {vals : List Value} {ks : List Int} {kk : Nat} {base : Led} (p : Int → Bool)
    (hh : A.handled = none) (F : Fr h₀ L s.heap m) (N : News h₀ L s.heap base) (hm : (ax, ({ cls := .type "tuple", data := .seq vals.toArray kk } : Obj)) ∈ base) (hi : IntsAre vals ks) (hl : ks.length ≤ 1000)
    (turn : Held (∀ k I oI C oC D ys t m₂ h tk (E' : Value → Shared → Prop), NsObj oC m₂ → m₂ x = some (.int k t) → Fr h₀ L h m → News h₀ L h ((I, oI) :: (C, oC) :: (D, lst ys) :: base) →
      wpAny (model prog w) A (isTrue ct (compEnvC scope cl C env) (eval ct (compEnvC scope cl C env))) (fun ok s' => if ok = true then
        wpAny (model prog w) A (eval elt (compEnvC scope cl C env)) (KeptT h₀ L m ((I, oI) :: (C, oC) :: (D, lst ys) :: base) k (p k = true) { s with heap := h, toks := tk }) E' s'
        else LeftT h₀ L m ((I, oI) :: (C, oC) :: (D, lst ys) :: base) (p k = false) { s with heap := h, toks := tk } s') E' { s with heap := h, toks := tk }))
    (fin : Held (∀ g ys, IntsAre ys (ks.filter p) → Fin { s with heap := g } ys base)) :
    SrcTup prog w A h₀ L m env ct elt x scope cl Fin (.ref ax) s := by
  have hvl : vals.length = ks.length := hi.length
  refine ⟨ax, vals.toArray, _, base, rfl, hh, F, N, hm, fun h e => ⟨_, e, rfl, _, rfl⟩, by rw [sizeLine_eq]; simp; omega, ?_⟩
  rintro _ ⟨g, rfl⟩
  refine restT_inv (n := vals.toArray.size) (fun i ys nw => nw = base ∧ IntsAre ys ((ks.take i).filter p)) ?_ ?_ _ 0 [] base (by omega) ⟨rfl, .nil⟩
  · rintro i ys _ v I oI C oC D m₂ h tk E' hlt ⟨rfl, hj⟩ hP hC hx' F' N' off ne
    have hlt' : i < ks.length := by simp at hlt; omega
    obtain ⟨t, ht⟩ := hi.get i ks[i] (List.getElem?_eq_getElem hlt')
    have hv : v = .int ks[i] t := by
      have hP' : vals[i]? = some v := by simpa using hP
      rw [ht] at hP'
      exact (Option.some.inj hP').symm
    subst hv
    have hts : ks.take (i + 1) = ks.take i ++ [ks[i]] := by rw [List.take_add_one, List.getElem?_eq_getElem hlt']; rfl
    refine wpAny_mono (turn ks[i] I oI C oC D ys t m₂ h tk E' hC hx' F' N') (fun ok s' q => ?_) fun _ _ e => e
    cases ok with
    | true =>
      simp only [if_true] at q ⊢
      refine wpAny_mono q (fun y s'' q => ?_) fun _ _ e => e
      obtain ⟨hb, ⟨t', rfl⟩, h', tk', rfl, F₂, N₂⟩ := q
      refine ⟨h', tk', _, rfl, F₂, N₂, off, hm, rfl, ?_⟩
      rw [hts, List.filter_append, List.filter_cons, if_pos hb]
      exact ints_snoc hj _ _
    | false =>
      simp only [Bool.false_eq_true, if_false] at q ⊢
      obtain ⟨hb, h', tk', rfl, F₂, N₂⟩ := q
      refine ⟨h', tk', _, rfl, F₂, N₂, off, hm, rfl, ?_⟩
      rw [hts, List.filter_append, List.filter_cons, hb, if_neg Bool.false_ne_true]
      simpa using hj
  · rintro ys _ ⟨rfl, hj⟩
    have e : ks.take vals.toArray.size = ks := List.take_of_length_le (by simp; omega)
    rw [e] at hj
    exact fin g ys hj
end
end Mine
end
section
open PySem PySem.W PyProof.Rows PySem.Calls PySem.Spec PyProof.Rows.LCg PyProof.Rows.LCt
set_option linter.unusedVariables false
set_option linter.unusedSimpArgs false
set_option exponentiation.threshold 100
set_option maxRecDepth 100000
namespace Mine
/-! ### the years, month by month -/
theorem lt11 {i : Nat} (h : i < 11) : i = 0 ∨ i = 1 ∨ i = 2 ∨ i = 3 ∨ i = 4 ∨ i = 5 ∨ i = 6 ∨ i = 7 ∨ i = 8 ∨ i = 9 ∨ i = 10 := by omega
theorem lt12 {i : Nat} (h : i < 12) : i = 0 ∨ i = 1 ∨ i = 2 ∨ i = 3 ∨ i = 4 ∨ i = 5 ∨ i = 6 ∨ i = 7 ∨ i = 8 ∨ i = 9 ∨ i = 10 ∨ i = 11 := by omega
theorem lt13 {i : Nat} (h : i < 13) : i = 0 ∨ i = 1 ∨ i = 2 ∨ i = 3 ∨ i = 4 ∨ i = 5 ∨ i = 6 ∨ i = 7 ∨ i = 8 ∨ i = 9 ∨ i = 10 ∨ i = 11 ∨ i = 12 := by omega
def nsG (b : Bool) : List Int := [31, if b then 29 else 28, 31, 30, 31, 30, 31, 31, 30, 31, 30, 31]
def janJ (y : Int) : Int := 1721426 + 146097 * ((y - 1) / 400) + 365 * ((y - 1) % 400) + (y - 1) % 400 / 4 - (y - 1) % 400 / 100
theorem jan_eq (y : Int) : janJ y = 1721426 + 365 * (y - 1) + (y - 1) / 4 - (y - 1) / 100 + (y - 1) / 400 := by unfold janJ; omega
theorem nsG_b (b : Bool) : ∀ n ∈ nsG b, 1 ≤ n ∧ n ≤ 31 := by cases b <;> decide
theorem g_len (y : Int) : ∀ i : Nat, i < 12 → gregLen y (1 + (i : Int)) = (nsG (isleapB y)).getD i 0 := by
  intro i h
  unfold gregLen nsG
  cases isleapB y <;> (rcases lt12 h with rfl | rfl | rfl | rfl | rfl | rfl | rfl | rfl | rfl | rfl | rfl | rfl <;> rfl)
theorem g_day (y : Int) : ∀ i : Nat, i < 12 → gregJ y (1 + (i : Int)) 1 % 7 = (janJ y + ((nsG (isleapB y)).take i).sum) % 7 := by
  intro i h
  rw [jan_eq]
  unfold gregJ nsG
  cases isleapB y <;> (rcases lt12 h with rfl | rfl | rfl | rfl | rfl | rfl | rfl | rfl | rfl | rfl | rfl | rfl <;> simp [List.take, List.sum] <;> omega)
theorem j_len (y : Int) : ∀ i : Nat, i < 12 → julLen y (1 + (i : Int)) = (nsG (y.fmod 4 == 0)).getD i 0 := by
  intro i h
  rw [fmod_lit]
  unfold julLen nsG
  by_cases q : y % 4 = 0
  · rw [show (y % 4 == 0) = true by rw [beq_iff_eq]; exact q]
    simp only [if_pos q]
    rcases lt12 h with rfl | rfl | rfl | rfl | rfl | rfl | rfl | rfl | rfl | rfl | rfl | rfl <;> rfl
  · rw [show (y % 4 == 0) = false by rw [beq_eq_false_iff_ne]; exact q]
    simp only [if_neg q]
    rcases lt12 h with rfl | rfl | rfl | rfl | rfl | rfl | rfl | rfl | rfl | rfl | rfl | rfl <;> rfl
theorem j_day (y : Int) : ∀ i : Nat, i < 12 → julJ y (1 + (i : Int)) % 7 = (1721424 + 365 * (y - 1) + (y - 1) / 4 + ((nsG (y.fmod 4 == 0)).take i).sum) % 7 := by
  intro i h
  rw [fmod_lit]
  unfold julJ nsG
  by_cases q : y % 4 = 0
  · rw [show (y % 4 == 0) = true by rw [beq_iff_eq]; exact q]
    rcases lt12 h with rfl | rfl | rfl | rfl | rfl | rfl | rfl | rfl | rfl | rfl | rfl | rfl <;> simp [List.take, List.sum] <;> omega
  · rw [show (y % 4 == 0) = false by rw [beq_eq_false_iff_ne]; exact q]
    obtain ⟨a, ha⟩ : ∃ a : Int, y = 4 * a + 1 ∨ y = 4 * a + 2 ∨ y = 4 * a + 3 := ⟨y / 4, by omega⟩
    have e1 : 1461 * (y - 1 + 4716) / 4 = 365 * (y - 1) + (y - 1) / 4 + 1461 * 1179 := by omega
    have e2 : 1461 * (y + 4716) / 4 = 365 * (y - 1) + (y - 1) / 4 + 365 + 1461 * 1179 := by rcases ha with rfl | rfl | rfl <;> omega
    rw [e1, e2]
    rcases lt12 h with rfl | rfl | rfl | rfl | rfl | rfl | rfl | rfl | rfl | rfl | rfl | rfl <;> simp [List.take, List.sum] <;> omega
def nsT (l : Int) : List Int := [30, 30, 30, 30, 30, 30, 30, 30, 30, 30, 30, 30, l]
theorem c_lenL (y : Int) : ∀ i : Nat, i < 13 → copLen y (1 + (i : Int)) = (nsT (if y % 4 = 3 then 6 else 5)).getD i 0 := by
  intro i h
  unfold copLen nsT
  rcases lt13 h with rfl | rfl | rfl | rfl | rfl | rfl | rfl | rfl | rfl | rfl | rfl | rfl | rfl <;> rfl
theorem c_day (y l : Int) : ∀ i : Nat, i < 13 → copJ y (1 + (i : Int)) % 7 = (1825030 + 365 * (y - 1) + y / 4 + ((nsT l).take i).sum) % 7 := by
  intro i h
  unfold copJ nsT
  rcases lt13 h with rfl | rfl | rfl | rfl | rfl | rfl | rfl | rfl | rfl | rfl | rfl | rfl | rfl <;> simp [List.take, List.sum] <;> omega
theorem a_len (y : Int) : ∀ i : Nat, i < 13 → armLen y (1 + (i : Int)) = (nsT 5).getD i 0 := by
  intro i h
  unfold armLen nsT
  rcases lt13 h with rfl | rfl | rfl | rfl | rfl | rfl | rfl | rfl | rfl | rfl | rfl | rfl | rfl <;> rfl
theorem a_day (y l : Int) : ∀ i : Nat, i < 13 → armJ y (1 + (i : Int)) % 7 = (1922868 + 365 * (y - 1) + ((nsT l).take i).sum) % 7 := by
  intro i h
  unfold armJ nsT
  rcases lt13 h with rfl | rfl | rfl | rfl | rfl | rfl | rfl | rfl | rfl | rfl | rfl | rfl | rfl <;> simp [List.take, List.sum] <;> omega
theorem s_len (y : Int) : ∀ i : Nat, i < 13 → sarLen (y + 533) (1 + (i : Int)) = (nsT (if y % 4 = 3 then 6 else 5)).getD i 0 := by
  intro i h
  unfold sarLen nsT
  by_cases q : y % 4 = 3
  · have q' : (y + 533) % 4 = 0 := by omega
    simp only [if_pos q, if_pos q']
    rcases lt13 h with rfl | rfl | rfl | rfl | rfl | rfl | rfl | rfl | rfl | rfl | rfl | rfl | rfl <;> rfl
  · have q' : ¬ (y + 533) % 4 = 0 := by omega
    simp only [if_neg q, if_neg q']
    rcases lt13 h with rfl | rfl | rfl | rfl | rfl | rfl | rfl | rfl | rfl | rfl | rfl | rfl | rfl <;> rfl
theorem s_day (y l : Int) : ∀ i : Nat, i < 13 → sarJ (y + 533) (1 + (i : Int)) % 7 = (2117577 + 365 * (y - 1) + y / 4 + ((nsT l).take i).sum) % 7 := by
  intro i h
  unfold sarJ nsT
  rcases lt13 h with rfl | rfl | rfl | rfl | rfl | rfl | rfl | rfl | rfl | rfl | rfl | rfl | rfl <;> simp [List.take, List.sum] <;> omega
def nsI : List Int := [31, 31, 31, 31, 31, 30, 30, 30, 30, 30, 30]
theorem i_len (y : Int) : ∀ i : Nat, i < 11 → indLen y (2 + (i : Int)) = nsI.getD i 0 := by
  intro i h
  unfold indLen nsI
  rcases lt11 h with rfl | rfl | rfl | rfl | rfl | rfl | rfl | rfl | rfl | rfl | rfl <;> rfl
theorem i_day (y : Int) : ∀ i : Nat, i < 11 → indJ y (2 + (i : Int)) % 7 = (janJ (y + 78) + (31 + (if isleapB (y + 78) = true then 29 else 28) + 31) + 20 + (nsI.take i).sum) % 7 := by
  intro i h
  rw [jan_eq]
  unfold indJ gregJ nsI
  cases isleapB (y + 78) <;> (rcases lt11 h with rfl | rfl | rfl | rfl | rfl | rfl | rfl | rfl | rfl | rfl | rfl <;> simp [List.take, List.sum] <;> omega)
/-! the Islamic years -/
def longsI : List Int := [2, 5, 7, 10, 13, 16, 18, 21, 24, 26, 29]
theorem longs_all : ((List.range 30).all fun r => decide (((longsI.filter fun x => decide (x ≤ (r : Int))).length : Int) = (11 * (r : Int) + 14) / 30) && (decide (((r : Int) + 1) ∈ longsI) == decide ((((r : Int) + 1) * 11 + 14) % 30 < 11))) = true := by decide +kernel
theorem longs_at {r : Int} (h0 : 0 ≤ r) (h1 : r < 30) : ((longsI.filter fun x => decide (x ≤ r)).length : Int) = (11 * r + 14) / 30 ∧ ((r + 1) ∈ longsI ↔ ((r + 1) * 11 + 14) % 30 < 11) := by
  have q := List.all_eq_true.mp longs_all r.toNat (List.mem_range.mpr (by omega))
  rw [Int.toNat_of_nonneg h0] at q
  simp only [Bool.and_eq_true, decide_eq_true_eq, beq_iff_eq, decide_eq_decide] at q
  exact q
def muhJ (y : Int) : Int := 1948440 + 10631 * ((y - 1) / 30) + 354 * ((y - 1) % 30) + ((longsI.filter fun x => decide (x ≤ (y - 1) % 30)).length : Nat)
def nsM (l : Int) : List Int := [30, 29, 30, 29, 30, 29, 30, 29, 30, 29, 30, l]
theorem m_lenL (y l : Int) (hl : l = if (y - 1) % 30 + 1 ∈ longsI then 30 else 29) : ∀ i : Nat, i < 12 → islLen y (1 + (i : Int)) = (nsM l).getD i 0 := by
  intro i h
  have q := (longs_at (r := (y - 1) % 30) (by omega) (by omega)).2
  have e0 : (y * 11 + 14) % 30 = (((y - 1) % 30 + 1) * 11 + 14) % 30 := by
    obtain ⟨k, r, hk, hr⟩ : ∃ k r : Int, y = 30 * k + r + 1 ∧ (y - 1) % 30 = r := ⟨(y - 1) / 30, (y - 1) % 30, by omega, rfl⟩
    rw [hr, hk]
    omega
  unfold islLen nsM
  rw [hl]
  by_cases k : (y - 1) % 30 + 1 ∈ longsI
  · have k' : (y * 11 + 14) % 30 < 11 := by rw [e0]; exact q.mp k
    simp only [if_pos k, k', and_true]
    rcases lt12 h with rfl | rfl | rfl | rfl | rfl | rfl | rfl | rfl | rfl | rfl | rfl | rfl <;> rfl
  · have k' : ¬ (y * 11 + 14) % 30 < 11 := by rw [e0]; exact fun z => k (q.mpr z)
    simp only [if_neg k, k', and_false]
    rcases lt12 h with rfl | rfl | rfl | rfl | rfl | rfl | rfl | rfl | rfl | rfl | rfl | rfl <;> rfl
theorem m_day (y l : Int) : ∀ i : Nat, i < 12 → islJ y (1 + (i : Int)) % 7 = (muhJ y + ((nsM l).take i).sum) % 7 := by
  intro i h
  have q := (longs_at (r := (y - 1) % 30) (by omega) (by omega)).1
  unfold muhJ islJ nsM
  rw [q]
  obtain ⟨k, r, hk, hr, hd⟩ : ∃ k r : Int, y = 30 * k + r + 1 ∧ (y - 1) % 30 = r ∧ (y - 1) / 30 = k := ⟨(y - 1) / 30, (y - 1) % 30, by omega, rfl, rfl⟩
  rw [hr, hd, hk]
  have e1 : (3 + 11 * (30 * k + r + 1)) / 30 = 11 * k + (11 * r + 14) / 30 := by omega
  rw [e1]
  generalize (11 * r + 14) / 30 = z
  rcases lt12 h with rfl | rfl | rfl | rfl | rfl | rfl | rfl | rfl | rfl | rfl | rfl | rfl <;> simp [List.take, List.sum] <;> omega
end Mine
end
section
open PySem PySem.W PyProof.Rows PySem.Calls PySem.Spec PyProof.Rows.LCg PyProof.Rows.LCt
set_option linter.unusedVariables false
set_option exponentiation.threshold 100
set_option maxRecDepth 100000
namespace Mine
abbrev rngO (a b : Int) (t u v : Tok) : Obj := { cls := .type "range", data := .fields #[.int a t, .int b u, .int 1 v] }
section
variable {prog : Program} {w : World} {A : Around} {E : Value → Shared → Prop} {s : Shared} {h₀ : Heap} {L : Addr} {m : Str → Option Value} {news : Led} {env : Env}
theorem m_range2 {a b : Int} {t u : Tok} {Q : Value → Shared → Prop} (F : Fr h₀ L s.heap m) (N : News h₀ L s.heap news)
    (h : ∀ D h' v tk, Fr h₀ L h' m → News h₀ L h' ((D, rngO a b t u v) :: news) → (∀ p ∈ news, @LT.lt Nat _ p.1 D) → Q (.ref D) { s with heap := h', toks := tk }) :
    wpAny (model prog w) A (call (.type "range") [.int a t, .int b u]) Q E s :=
  call_range_2 (h _ _ _ _ (F.push _) (N.push F _) fun p hp => Heap.lt_size (N p hp).1)
theorem comp_elsL {elt : Expr} {x : Str} {scope : Scope} {cl : List (Str × Addr)} {Fin : Shared → List Value → Led → Prop} {r : Addr} {a b : Int} {t u v : Tok} {n : Nat} {base : Led} (f : Nat → Dat)
    (hh : A.handled = none) (F : Fr h₀ L s.heap m) (N : News h₀ L s.heap base) (hr : (r, rngO a b t u v) ∈ base) (hsm : Builtin.Range.small a b 1 = true) (hn : Builtin.Range.rangeSize a b 1 = ((n : Nat) : Int)) (hsz : n ≤ 1000)
    (turn : Held (∀ (i : Nat) (rows : Led) ys t I oI C oC D m₂ h tk (E' : Value → Shared → Prop), i < n → NsObj oC m₂ → m₂ x = some (.int (a + (i : Int)) t) → Fr h₀ L h m → News h₀ L h ((I, oI) :: (C, oC) :: (D, lst ys) :: (rows ++ base)) →
      wpAny (model prog w) A (eval elt (compEnvC scope cl C env)) (ElEnd h₀ L m ((I, oI) :: (C, oC) :: (D, lst ys) :: (rows ++ base)) (f i) { s with heap := h, toks := tk }) E' { s with heap := h, toks := tk }))
    (fin : Held (∀ g ys rows, Apart rows base → DatAll rows ys ((List.range n).map f) → Fin { s with heap := g } ys (rows ++ base))) :
    CompSrc prog w A h₀ L m env elt x scope cl Fin (.ref r) s := comp_els f hh F N (N _ hr).1 hsm hn hsz turn fin
theorem comp_valsL {elt : Expr} {x : Str} {scope : Scope} {cl : List (Str × Addr)} {Fin : Shared → List Value → Led → Prop} {r : Addr} {a b : Int} {t u v : Tok} {n : Nat} {base : Led} (f : Nat → Dat)
    (hh : A.handled = none) (F : Fr h₀ L s.heap m) (N : News h₀ L s.heap base) (hr : (r, rngO a b t u v) ∈ base) (hsm : Builtin.Range.small a b 1 = true) (hn : Builtin.Range.rangeSize a b 1 = ((n : Nat) : Int)) (hsz : n ≤ 1000)
    (turn : Held (∀ (i : Nat) ys t I oI C oC D m₂ h tk (E' : Value → Shared → Prop), i < n → NsObj oC m₂ → m₂ x = some (.int (a + (i : Int)) t) → Fr h₀ L h m → News h₀ L h ((I, oI) :: (C, oC) :: (D, lst ys) :: base) →
      wpAny (model prog w) A (eval elt (compEnvC scope cl C env)) (ValEnd h₀ L m ((I, oI) :: (C, oC) :: (D, lst ys) :: base) (fun y => DatIn [] y (f i)) { s with heap := h, toks := tk }) E' { s with heap := h, toks := tk }))
    (fin : Held (∀ g ys, DatAll [] ys ((List.range n).map f) → Fin { s with heap := g } ys base)) :
    CompSrc prog w A h₀ L m env elt x scope cl Fin (.ref r) s := comp_vals f hh F N (N _ hr).1 hsm hn hsz turn fin
end
theorem ints_rep (x : Int) (t : Tok) : ∀ k : Nat, IntsAre (List.replicate k (Value.int x t)) (List.replicate k x)
  | 0 => .nil
  | k + 1 => .cons _ _ (ints_rep x t k)
theorem ints_of : ∀ {ys : List Value} {ns : List Int}, DatAll [] ys (ns.map fun n => cellD (some n)) → IntsAre ys ns
  | [], [], _ => .nil
  | _ :: _, n :: ns, .cons d r => by
    rcases datIn_cell d with ⟨_, q⟩ | ⟨i, t, rfl, q⟩
    · cases q
    · cases q; exact .cons _ _ (ints_of r)
theorem ints_set {ys : List Value} {ns : List Int} (h : IntsAre ys ns) (x : Int) (t : Tok) : ∀ i : Nat, IntsAre (ys.set i (.int x t)) (ns.set i x) := by
  induction h with
  | nil => intro i; exact .nil
  | cons a b r ih =>
    intro i
    cases i with
    | zero => exact .cons _ _ r
    | succ i => exact .cons _ _ (ih i)
theorem els_same {led : Led} {ys : List Value} {f g : Nat → Dat} {n : Nat} (h : DatAll led ys ((List.range n).map f)) (e : ∀ i, i < n → f i = g i) : DatAll led ys ((List.range n).map g) := by
  rw [← List.map_congr_left fun i hi => e i (List.mem_range.mp hi)]; exact h
end Mine
end
section
open PySem PySem.W PyProof.Rows PySem.Calls PySem.Spec PyProof.Rows.LCg PyProof.Rows.LCt
set_option linter.unusedVariables false
set_option exponentiation.threshold 100
set_option maxRecDepth 100000
namespace Mine
/-! ### cuts: a fork whose two roads meet again -/
def CutEnd (h₀ : Heap) (L : Addr) (m : Str → Option Value) (led : Led) (x : Int) (s₁ : Shared) (y : Value) (s' : Shared) : Prop :=
  ∃ h' tk' t, y = .int x t ∧ s' = { s₁ with heap := h', toks := tk' } ∧ Fr h₀ L h' m ∧ News h₀ L h' led
def mL (y : Int) : Int := if (y - 1) % 30 + 1 ∈ longsI then 30 else 29
def MoonEnd (h₀ : Heap) (L : Addr) (m : Str → Option Value) (D : Addr) (base : Led) (y : Int) (s₁ : Shared) (fl : Flow) (s' : Shared) : Prop :=
  ∃ h' tk' vs c, fl = .next ∧ s' = { s₁ with heap := h', toks := tk' } ∧ Fr h₀ L h' m ∧ News h₀ L h' ((D, listOf vs.toArray c) :: base) ∧ IntsAre vs (nsM (mL y))
section
variable {prog : Program} {w : World} {A : Around} {E : Value → Shared → Prop} {s : Shared} {h₀ : Heap} {L : Addr} {m : Str → Option Value} {news : Led} {env : Env}
theorem ifexp_cut {test body orelse : Expr} {pos : Pos} {Q : Value → Shared → Prop} (x : Int) (F : Fr h₀ L s.heap m) (N : News h₀ L s.heap news)
    (h : Held (wpAny (model prog w) A (isTrue test env (eval test env)) (fun c s₂ => if c then wpAny (model prog w) A (eval body env) (CutEnd h₀ L m news x s) E s₂ else wpAny (model prog w) A (eval orelse env) (CutEnd h₀ L m news x s) E s₂) E s))
    (k : Held (∀ h t tk, Fr h₀ L h m → News h₀ L h news → Q (.int x t) { s with heap := h, toks := tk })) :
    wpAny (model prog w) A (eval (.IfExp test body orelse pos) env) Q E s := by
  refine wpAny_mono (IfExp_ h) ?_ (fun _ _ z => z)
  rintro v s' ⟨h', tk', t, rfl, rfl, F', N'⟩
  exact k h' t tk' F' N'
theorem if_moons {test : Expr} {body orelse : List Stmt} {pos : Pos} {Q : Flow → Shared → Prop} {D : Addr} {ys : List Value} {base : Led} (y : Int) (F : Fr h₀ L s.heap m) (N : News h₀ L s.heap ((D, lst ys) :: base))
    (h : Held (wpAny (model prog w) A (isTrue test env (eval test env)) (fun c s₂ => if c then wpAny (model prog w) A (execs body env) (MoonEnd h₀ L m D base y s) E s₂ else wpAny (model prog w) A (execs orelse env) (MoonEnd h₀ L m D base y s) E s₂) E s))
    (k : Held (∀ h tk vs c, Fr h₀ L h m → News h₀ L h ((D, listOf vs.toArray c) :: base) → IntsAre vs (nsM (mL y)) → Q .next { s with heap := h, toks := tk })) :
    wpAny (model prog w) A (exec (.If test body orelse pos) env) Q E s := by
  refine wpAny_mono (wpAny_If h) ?_ (fun _ _ z => z)
  rintro v s' ⟨h', tk', vs, c, rfl, rfl, F', N', i⟩
  exact k h' tk' vs c F' N' i
theorem m_inTup {ax : Addr} {vals : List Value} {ks : List Int} {kk : Nat} {x : Int} {u : Tok} {Q : Value → Shared → Prop} (N : News h₀ L s.heap news) (hm : (ax, ({ cls := .type "tuple", data := .seq vals.toArray kk } : Obj)) ∈ news) (hi : IntsAre vals ks)
    (h : Q (.bool (ks.any (· == x))) s) : wpAny (model prog w) A (compareOp .In (.int x u) (.ref ax)) Q E s :=
  in_tuple_ints (items := vals.toArray) ⟨_, (N _ hm).1, rfl, kk, rfl⟩ hi h
end
theorem moons_els {ys : List Value} (h : DatAll [] ys ((List.range 12).map fun (i : Nat) => cellD (some (if i % 2 = 0 then 30 else 29)))) : IntsAre ys [30, 29, 30, 29, 30, 29, 30, 29, 30, 29, 30, 29] := ints_of (ns := nsM 29) h
theorem moons_long {y : Int} (h : (longsI.any (· == (y - 1) % 30 + 1)) = true) : mL y = 30 := by
  unfold mL
  rw [if_pos]
  obtain ⟨x, hx, e⟩ := List.any_eq_true.mp h
  rw [beq_iff_eq] at e
  exact e ▸ hx
theorem moons_short {y : Int} (h : (longsI.any (· == (y - 1) % 30 + 1)) = false) : mL y = 29 := by
  unfold mL
  rw [if_neg]
  intro hx
  rw [List.any_eq_false] at h
  exact h _ hx (beq_self_eq_true _)
theorem off1_all {D : Addr} : ∀ {l : Led}, Off1 D l → ∀ p ∈ l, p.1 ≠ D
  | [], _, _, hp => nomatch hp
  | _ :: _, o, p, hp => by
    rcases List.mem_cons.mp hp with rfl | hp
    · exact o.1
    · exact off1_all o.2 p hp
theorem pick3 (vs : List Value) : kms_pick vs none (some 3) = vs.take 3 := by
  unfold kms_pick kms_lo kms_hi
  simp only [List.drop_zero, Nat.sub_zero]
  rw [if_neg (by decide)]
  by_cases h : 3 ≤ vs.length
  · rw [show min (Int.toNat 3) vs.length = 3 by simp only [Int.reduceToNat]; omega]
  · rw [show min (Int.toNat 3) vs.length = vs.length by simp only [Int.reduceToNat]; omega, List.take_of_length_le (Nat.le_refl _), List.take_of_length_le (by omega)]
section
variable {prog : Program} {w : World} {A : Around} {E : Value → Shared → Prop} {s : Shared} {h₀ : Heap} {L : Addr} {m : Str → Option Value} {news : Led}
theorem m_slice3 {H : Heap} {g d o : _} {tk : Nat} {l : Addr} {vs : List Value} {c : Nat} {t : Tok} {value slice : PySem.Expr} {Q : Value → Shared → Prop} (F : Fr h₀ L H m) (N : News h₀ L H news) (hl : (l, listOf vs.toArray c) ∈ news) (hv : vs.length ≤ 1000)
    (h : ∀ D h', Fr h₀ L h' m → News h₀ L h' ((D, listOf (vs.take 3).toArray 0) :: news) → (∀ p ∈ news, p.1 < D) → Q (.ref D) { heap := h', gens := g, drawn := d, toks := tk, os := o })
    (hs : subscripted slice false (.ref l) (.ref H.objs.size) = operate [.ref H.objs.size, .ref l] (getItem (.ref l) (.ref H.objs.size))) :
    wpAny (model prog w) A (subscriptTail value slice (.ref l) (.ref H.objs.size)) Q E { heap := H.push { cls := .type "slice", data := .fields #[.none, .int 3 t, .none] }, gens := g, drawn := d, toks := tk, os := o } := by
  refine kba_turn (value' := PySem.Expr.Name (PySem.Str.ofString "_") ⟨0, 0, 0, 0⟩) (fun _ => rfl) ?_
  exact kms_slice_lit (s := { heap := H, gens := g, drawn := d, toks := tk, os := o }) F N (News.isList N hl) IsPart.none (IsPart.int _ _) (pick3 vs) h hs (fun _ => rfl) (by rw [sizeLine_eq, List.size_toArray]; omega)
theorem m_sum3 {l : Addr} {vs : List Value} {a b d : Int} {r : List Int} {Q : Value → Shared → Prop} (hh : A.handled = none) (F : Fr h₀ L s.heap m) (N : News h₀ L s.heap news) (hl : (l, listOf (vs.take 3).toArray 0) ∈ news) (hi : IntsAre vs (a :: b :: d :: r))
    (h : ∀ h' tk t', Fr h₀ L h' m → News h₀ L h' news → Q (.int (a + b + d) t') { s with heap := h', toks := tk }) :
    wpAny (model prog w) A (call (.builtin "sum") [.ref l]) Q E s := by
  have hi3 : IntsAre (vs.take 3) [a, b, d] := by
    cases hi with
    | cons _ _ hi => cases hi with
      | cons _ _ hi => cases hi with
        | cons _ _ hi => exact .cons _ _ (.cons _ _ (.cons _ _ .nil))
  refine sumK hh F N (News.isList N hl) hi3 fun h' tk t' F' N' => ?_
  have q := h h' tk t' F' N'
  rw [show [a, b, d].sum = a + b + d by simp [List.sum_cons, List.sum_nil]; omega]
  exact q
end
theorem mL_1 (y : Int) : 1 ≤ mL y := by unfold mL; split <;> omega
theorem mL_31 (y : Int) : mL y ≤ 31 := by unfold mL; split <;> omega
end Mine
end
section
open PySem PySem.W PyProof.Rows PySem.Calls PySem.Spec PyProof.Rows.LCg PyProof.Rows.LCt
set_option linter.unusedVariables false
set_option exponentiation.threshold 100
set_option maxRecDepth 100000
namespace Mine
/-! ### sums of floats and small ints, with the overflow shut ahead of the walk -/
theorem fits_small {n : Int} (h1 : -1000000000000 ≤ n) (h2 : n ≤ 1000000000000) : n.natAbs < 2 ^ 1023 :=
  Nat.lt_of_lt_of_le (show n.natAbs < 2 ^ 40 by omega) (Nat.pow_le_pow_right (by decide) (by decide))
section
variable {prog : Program} {w : World} {A : Around} {E : Value → Shared → Prop} {s : Shared} {Q : Value → Shared → Prop} {a : UInt64} {n b : Int} {t u : Tok}
theorem q_add (h1 : -1000000000000 ≤ n ∧ n ≤ 1000000000000) (h : Q (.float (Float64.add a (Float64.ofInt n)) s.toks) { s with toks := s.toks + 1 }) :
    wpAny (model prog w) A (binaryOp .Add (.float a t) (.int n u)) Q E s := add_fi_fits (fits_small h1.1 h1.2) h
theorem q_addr (h1 : -1000000000000 ≤ n ∧ n ≤ 1000000000000) (h : Q (.float (Float64.add (Float64.ofInt n) a) s.toks) { s with toks := s.toks + 1 }) :
    wpAny (model prog w) A (binaryOp .Add (.int n u) (.float a t)) Q E s := add_if_fits (fits_small h1.1 h1.2) h
theorem q_sub (h1 : -1000000000000 ≤ n ∧ n ≤ 1000000000000) (h : Q (.float (Float64.sub a (Float64.ofInt n)) s.toks) { s with toks := s.toks + 1 }) :
    wpAny (model prog w) A (binaryOp .Sub (.float a t) (.int n u)) Q E s := sub_fi_fits (fits_small h1.1 h1.2) h
theorem q_subr (h1 : -1000000000000 ≤ n ∧ n ≤ 1000000000000) (h : Q (.float (Float64.sub (Float64.ofInt n) a) s.toks) { s with toks := s.toks + 1 }) :
    wpAny (model prog w) A (binaryOp .Sub (.int n u) (.float a t)) Q E s := sub_if_fits (fits_small h1.1 h1.2) h
theorem q_mul (h1 : -1000000000000 ≤ n ∧ n ≤ 1000000000000) (h : Q (.float (Float64.mul a (Float64.ofInt n)) s.toks) { s with toks := s.toks + 1 }) :
    wpAny (model prog w) A (binaryOp .Mult (.float a t) (.int n u)) Q E s := mul_fi_fits (fits_small h1.1 h1.2) h
theorem q_iadd (h1 : -1000000000000 ≤ n ∧ n ≤ 1000000000000) (h : Q (.float (Float64.add a (Float64.ofInt n)) s.toks) { s with toks := s.toks + 1 }) :
    wpAny (model prog w) A (inplaceOp .Add (.float a t) (.int n u)) Q E s := PySem.Flt.iadd_fi_1 (Float64.ofInt_fits (fits_small h1.1 h1.2)) h
theorem q_div (hA : A.handled = none) (h1 : -1000000000000 ≤ n ∧ n ≤ 1000000000000) (hb : b ≠ 0)
    (h : Q (.float (Float64.ofFrac (decide (n < 0) != decide (b < 0)) n.natAbs b.natAbs) s.toks) { s with toks := s.toks + 1 }) :
    wpAny (model prog w) A (binaryOp .Div (.int n t) (.int b u)) Q E s := PySem.Flt.div_ii_fits hA (fits_small h1.1 h1.2) (fun e => absurd e hb) fun _ _ => h
end
end Mine
end
theorem Mine.anew1 : True := by
  w_top off
  trivial
section
open PySem PySem.W PyProof.Rows PySem.Calls PySem.Spec PyProof.Rows.LCg
set_option linter.unusedVariables false
set_option exponentiation.threshold 100
set_option maxRecDepth 100000
namespace Mine
local macro_rules | `(tactic| walk_at "m enter") => `(tactic| (refine wpAny_call ?_; k_dflt (first
  | ((first | (with_reducible refine' code_def ?k1 ?k2 ?k3 ?k4 ?k5 ?kA ?kF ?kK ?k6 ?k7 ?k8 ?k9 ?kB ?_ ?c2 ?c3 ?c4 ?c5) | (refine' code_def ?k1 ?k2 ?k3 ?k4 ?k5 ?kA ?kF ?kK ?k6 ?k7 ?k8 ?k9 ?kB ?_ ?c2 ?c3 ?c4 ?c5)); (case kA => exact rfl); (case kF => exact rfl); (case kK => first | assumption | exact rfl); (case k1 => k_asm); (case k2 => k_asm); (case k3 => k_asm); (case k4 => k_asm); (case k5 => k_asm); (case k6 => k_is); (case k7 => k_is); (case k8 => ktr_room); (case k9 => first | exact BindsTo.of_eq rfl | exact binds_K (by k_in) rfl (by k_is) rfl rfl rfl); (case c5 => decide); (case kB => exact locs rfl); (case c2 => exact rfl); (case c3 => exact rfl); (case c4 => exact rfl); k_whole; intro g' L' h' FG' F' N' B' X' T'; (try dsimp only); (try k_lift B'); (try k_fold))
  | ((first | (with_reducible refine' code_defC ?k1 ?k2 ?k3 ?k4 ?k5 ?kA ?kF ?kK ?k6 ?k7 ?k8 ?k9 ?kB ?kD ?_ ?c2 ?c3 ?c4) | (refine' code_defC ?k1 ?k2 ?k3 ?k4 ?k5 ?kA ?kF ?kK ?k6 ?k7 ?k8 ?k9 ?kB ?kD ?_ ?c2 ?c3 ?c4)); (case kA => exact rfl); (case kF => exact rfl); (case kK => first | assumption | exact rfl); (case k1 => k_asm); (case k2 => k_asm); (case k3 => k_asm); (case k4 => k_asm); (case k5 => k_asm); (case k6 => k_is); (case k7 => k_is); (case k8 => ktr_room); (case k9 => first | exact BindsTo.of_eq rfl | exact binds_K (by k_in) rfl (by k_is) rfl rfl rfl); (case kB => exact rfl); (case kD => decide +kernel); (case c2 => exact rfl); (case c3 => exact rfl); (case c4 => exact rfl); k_whole; intro g' L' h' tk' cells' FG' F' N' Y' B' X' T' l1; (have bn := (show Bnd L' _ from l1)); k_cells Y'; (try simp only [List.cons_append, List.nil_append] at N'); (try dsimp only); (try k_lift B'); (try k_fold)))))
local macro_rules | `(tactic| k_all) => `(tactic| exact Bnd.ne (by assumption) (by omega))
local macro_rules | `(tactic| k_mem) => `(tactic| first | assumption | (with_reducible refine List.mem_cons_of_mem _ ?_; k_mem) | (with_reducible refine List.mem_append_left _ ?_; k_mem) | (with_reducible refine List.mem_append_right _ ?_; k_mem))
local macro_rules | `(tactic| walk_at "m news") => `(tactic| first | k_asm | (refine' News.sub (by k_asm) ?_; intro p9 hp9; simp only [List.mem_cons, List.mem_append, hp9, or_true, true_or]))
local macro_rules | `(tactic| walk_at "m arith") => `(tactic| first | omega | ((try simp only [fmod_lit, fdiv_lit] at *); omega))
local macro_rules | `(tactic| walk_at "m len") => `(tactic| ((simp only [List.length_append, List.length_replicate, List.length_cons, List.length_nil, rangeKs_length]); (try simp only [IntsAre.length (by assumption)]); (try simp only [rangeKs_length, fmod_lit]); omega))
local macro_rules | `(tactic| walk_at "m size") => `(tactic| (rw [sizeLine_eq, List.size_toArray]; walk_at "m len"))
local macro_rules | `(tactic| walk_at "binaryOp Mult ref int") => `(tactic| (k_here; k_dflt ((first | (with_reducible refine' m_mul1 ?zzF ?zzN ?zzl ?zza ?zzb ?_) | (refine' m_mul1 ?zzF ?zzN ?zzl ?zza ?zzb ?_)); (case zzF => k_asm); (case zzN => k_asm); (case zzl => k_mem); (case zza => walk_at "m arith"); (case zzb => walk_at "m arith")); intro D' h' F' N' l1; (try k_lt l1); (try dsimp only)))
local macro_rules | `(tactic| walk_at "binaryOp Mult int ref") => `(tactic| (k_here; k_dflt ((first | (with_reducible refine' m_mul1r ?zzF ?zzN ?zzl ?zza ?zzb ?_) | (refine' m_mul1r ?zzF ?zzN ?zzl ?zza ?zzb ?_)); (case zzF => k_asm); (case zzN => k_asm); (case zzl => k_mem); (case zza => walk_at "m arith"); (case zzb => walk_at "m arith")); intro D' h' F' N' l1; (try k_lt l1); (try dsimp only)))
local macro_rules | `(tactic| walk_at "binaryOp Add ref ref") => `(tactic| (k_here; k_dflt ((first | (with_reducible refine' m_add ?zzF ?zzN ?zzl ?zzb ?zzz ?_) | (refine' m_add ?zzF ?zzN ?zzl ?zzb ?zzz ?_)); (case zzF => k_asm); (case zzN => k_asm); (case zzl => k_mem); (case zzb => k_mem); (case zzz => walk_at "m len")); intro D' h' F' N' l1; (try k_lt l1); (try dsimp only)))
local macro_rules | `(tactic| walk_at "call type:list") => `(tactic| (k_here; (with_reducible show wpAny _ _ (call (Value.type "list") [Value.ref _]) _ _ _); k_dflt ((first | (with_reducible refine' m_listRange ?zzhh ?zzF ?zzN ?zzr ?zzsm ?zzn ?zzle ?_) | (refine' m_listRange ?zzhh ?zzF ?zzN ?zzr ?zzsm ?zzn ?zzle ?_)); (case zzhh => exact rfl); (case zzF => k_asm); (case zzN => k_asm); (case zzr => assumption); (case zzn => exact range_size (by walk_at "m arith")); (case zzsm => exact range_small (by walk_at "m arith") (by walk_at "m arith")); (case zzle => walk_at "m arith")); intro D' h' tk' ys' c' F' N' l1 hI'; (try k_lt l1); (try dsimp only)))
local macro_rules | `(tactic| walk_at "m q4") => `(tactic| first
  | assumption
  | (first | exact q4_c0 | exact q4_c1 | exact q4_c2 | exact q4_c3 | exact q4_c4 | exact q4_c5 | exact q4_c6 | exact q4_c7 | exact q4_c8)
  | (with_reducible refine q4_ofInt _ ?_; walk_at "m arith")
  | (with_reducible refine q4_quarter _ ?_; walk_at "m arith")
  | (with_reducible apply q4_add; (focus walk_at "m q4"); (focus walk_at "m q4"); walk_at "m arith")
  | (with_reducible apply q4_sub; (focus walk_at "m q4"); (focus walk_at "m q4"); walk_at "m arith")
  | (with_reducible apply q4_mul; (focus walk_at "m q4"); (focus walk_at "m q4"); walk_at "m arith"))
local macro_rules | `(tactic| walk_at "call builtin:math.floor") => `(tactic| (k_here; (with_reducible show wpAny _ _ (call _ [Value.float _ _]) _ _ _); k_dflt (first
  | (refine m_floorG rfl (by assumption) (by assumption) (by omega) (by omega) ?_)
  | (refine m_floorJ rfl (by walk_at "m arith") (by walk_at "m arith") ?_)
  | ((first | (with_reducible refine' m_floor rfl ?zzq ?_) | (refine' m_floor rfl ?zzq ?_)); (case zzq => walk_at "m q4"))
  | (refine m_floorQuot rfl (by walk_at "m arith") (by walk_at "m arith") ?_)); (try dsimp only)))
local macro_rules | `(tactic| walk_at "call builtin:math.ceil") => `(tactic| (k_here; (with_reducible show wpAny _ _ (call _ [Value.float _ _]) _ _ _); k_dflt ((first | (with_reducible refine' m_ceil rfl ?zzq ?_) | (refine' m_ceil rfl ?zzq ?_)); (case zzq => walk_at "m q4")); (try dsimp only)))
local macro_rules | `(tactic| walk_at "call builtin:math.trunc") => `(tactic| (k_here; (with_reducible show wpAny _ _ (call _ [Value.float _ _]) _ _ _); k_dflt ((first | (with_reducible refine' m_trunc rfl ?zzq ?zzp ?_) | (refine' m_trunc rfl ?zzq ?zzp ?_)); (case zzq => walk_at "m q4"); (case zzp => walk_at "m arith")); (try dsimp only)))
local macro_rules | `(tactic| walk_at "compareOp In int ref") => `(tactic| (k_here; k_dflt ((first | (with_reducible refine' in_tuple_ints ?zzt ?zzi ?_) | (refine' in_tuple_ints ?zzt ?zzi ?_)); (case zzt => exact tupK (Frag.In.keeps (by k_asm) (Fr.keep (by k_asm))) (by k_is)); (case zzi => repeat constructor)); (try dsimp only)))
local macro_rules | `(tactic| walk_at "compareOp Eq int ref") => `(tactic| (k_here; k_dflt ((first | (with_reducible refine' m_eqOwn ?zzX ?zzu ?zzo ?zzt ?zzs ?zzf ?_) | (refine' m_eqOwn ?zzX ?zzu ?zzo ?zzt ?zzs ?zzf ?_)); (case zzX => exact Frag.In.keeps (by k_asm) (Fr.keep (by k_asm))); (case zzu => ktr_units); (case zzo => k_is); (case zzt => k_is); (case zzs => k_is); (case zzf => k_is)); (try dsimp only)))
local macro_rules | `(tactic| walk_at "call type:datetime.date") => `(tactic| (k_here; k_dflt ((first | (with_reducible refine' m_date ?zzF ?zzN ?zza ?zzb ?zzc ?zzd ?zze ?zzf ?_) | (refine' m_date ?zzF ?zzN ?zza ?zzb ?zzc ?zzd ?zze ?zzf ?_)); (case zzF => k_asm); (case zzN => k_asm); (case zza => walk_at "m arith"); (case zzb => walk_at "m arith"); (case zzc => walk_at "m arith"); (case zzd => walk_at "m arith"); (case zze => walk_at "m arith"); (case zzf => walk_at "m arith")); intro D' h' F' N' l1; (try k_lt l1); (try dsimp only)))
local macro_rules | `(tactic| walk_at "getMethod ref") => `(tactic| (k_here; (with_reducible show wpAny _ _ (getMethod (Value.ref _) (PySem.Str.ofString "weekday") _) _ _ _); k_dflt ((first | (with_reducible refine' m_weekdayM ?zzN ?zzm ?_) | (refine' m_weekdayM ?zzN ?zzm ?_)); (case zzN => k_asm); (case zzm => k_mem)); (try dsimp only)))
local macro_rules | `(tactic| walk_at "call builtin:datetime.date.weekday") => `(tactic| (k_here; k_dflt ((first | (with_reducible refine' m_weekday ?zzN ?zzm ?_) | (refine' m_weekday ?zzN ?zzm ?_)); (case zzN => k_asm); (case zzm => k_mem)); intro k' t' k0' k1'; (try dsimp only)))
local macro_rules | `(tactic| walk_at "subscriptTail Name") => `(tactic| (k_here; (with_reducible show wpAny _ _ (subscriptTail _ _ (Value.ref _) (Value.int _ _)) _ _ _); k_dflt ((first | (with_reducible refine' m_item_any ?zzt ?zza ?zzb ?zzc ?_) | (refine' m_item_any ?zzt ?zza ?zzb ?zzc ?_)); (case zzt => exact tupK (Frag.In.keeps (by k_asm) (Fr.keep (by k_asm))) (by k_is)); (case zza => assumption); (case zzb => (simp only [List.length_cons, List.length_nil]; omega)); (case zzc => decide)); intro v' m'; (try dsimp only)))
local macro_rules | `(tactic| walk_at "subscriptTail Name") => `(tactic| (k_here; (with_reducible show wpAny _ _ (subscriptTail _ _ (Value.ref _) (Value.int _ _)) _ _ _); k_dflt ((first | (with_reducible refine' m_item_int ?zzt ?zzi ?zza ?zzb ?zzc ?_) | (refine' m_item_int ?zzt ?zzi ?zza ?zzb ?zzc ?_)); (case zzt => exact lstK (Frag.In.keeps (by k_asm) (Fr.keep (by k_asm))) (by k_is)); (case zzi => repeat constructor); (case zza => omega); (case zzb => (simp only [List.length_cons, List.length_nil]; omega)); (case zzc => decide)); intro t'; (try dsimp only)))
local macro_rules | `(tactic| walk_at "call ref") => `(tactic| (k_here; walk_at "m enter"))
local macro_rules | `(tactic| walk_at "binaryOp Add float int") => `(tactic| (k_here; k_dflt ((first | (with_reducible refine' q_add ?zzf ?_) | (refine' q_add ?zzf ?_)); (case zzf => walk_at "m arith")); (try dsimp only)))
local macro_rules | `(tactic| walk_at "binaryOp Add int float") => `(tactic| (k_here; k_dflt ((first | (with_reducible refine' q_addr ?zzf ?_) | (refine' q_addr ?zzf ?_)); (case zzf => walk_at "m arith")); (try dsimp only)))
local macro_rules | `(tactic| walk_at "binaryOp Sub float int") => `(tactic| (k_here; k_dflt ((first | (with_reducible refine' q_sub ?zzf ?_) | (refine' q_sub ?zzf ?_)); (case zzf => walk_at "m arith")); (try dsimp only)))
local macro_rules | `(tactic| walk_at "binaryOp Sub int float") => `(tactic| (k_here; k_dflt ((first | (with_reducible refine' q_subr ?zzf ?_) | (refine' q_subr ?zzf ?_)); (case zzf => walk_at "m arith")); (try dsimp only)))
local macro_rules | `(tactic| walk_at "binaryOp Mult float int") => `(tactic| (k_here; k_dflt ((first | (with_reducible refine' q_mul ?zzf ?_) | (refine' q_mul ?zzf ?_)); (case zzf => walk_at "m arith")); (try dsimp only)))
local macro_rules | `(tactic| walk_at "inplaceOp Add float int") => `(tactic| (k_here; k_dflt ((first | (with_reducible refine' q_iadd ?zzf ?_) | (refine' q_iadd ?zzf ?_)); (case zzf => walk_at "m arith")); (try dsimp only)))
local macro_rules | `(tactic| walk_at "binaryOp Div int int") => `(tactic| (k_here; k_dflt ((first | (with_reducible refine' q_div ?zza ?zzf ?zzb ?_) | (refine' q_div ?zza ?zzf ?zzb ?_)); (case zzf => walk_at "m arith"); (case zza => exact rfl); (case zzb => first | decide | walk_at "m arith")); (try dsimp only)))
section
open PyProof.Rows.LCt
abbrev PR : Program := PySem.Challenge.rw_bd5017_01.row.prog
section
local macro_rules | `(tactic| walk_at "eval ListComp") => `(tactic| (k_here; k_dflt (refine ListComp_step (F₀ := by k_asm) (by with_unfolding_all rfl) (by decide) (by rfl) (by decide) (by rfl) ?_)))
local macro_rules | `(tactic| walk_at "subscriptTail Name Slice ref ref") => `(tactic| (k_here; k_dflt ((first | (with_reducible refine' kms_slice_lit ?zzF ?zzN ?zzl ?zzp ?zzq ?zze ?_ ?zzs ?zzt ?zzz) | (refine' kms_slice_lit ?zzF ?zzN ?zzl ?zzp ?zzq ?zze ?_ ?zzs ?zzt ?zzz)); (case zzF => k_asm); (case zzN => k_asm); (case zzl => kmk_list); (case zzp => kmk_part); (case zzq => kmk_part); (case zze => exact pick7' _ _); (case zzs => with_unfolding_all rfl); (case zzt => kmk_pure); (case zzz => walk_at "m size")); intro D' h' F' N' l1))
local macro_rules | `(tactic| walk_at "RowEnd") => `(tactic| exact ⟨_, _, _, _, rfl, rfl, by k_asm, by k_asm, by assumption⟩)
local macro_rules | `(tactic| walk_at "m len") => `(tactic| first | omega | ((simp only [List.length_append, List.length_replicate, List.length_cons, List.length_nil]); (try simp only [fmod_lit]); omega))
local macro_rules | `(tactic| walk_at "m arith") => `(tactic| first | omega | ((simp only [List.length_append, List.length_replicate, fmod_lit]); omega))
local macro_rules | `(tactic| walk_at "call builtin:len") => `(tactic| (k_here; k_dflt ((first | (with_reducible refine' m_len ?zzN ?zzm ?zzf ?_) | (refine' m_len ?zzN ?zzm ?zzf ?_)); (case zzN => k_asm); (case zzm => k_mem); (case zzf => walk_at "m len")); (try dsimp only)))
set_option maxHeartbeats 4000000 in
theorem c_rows (w : World) (cx : Addr) (vs : List Value) (c : Nat) (cells : List (Option Int)) (hx : DatAll [] vs (cells.map cellD)) (hl : vs.length ≤ 1000) :
    Ctr PR w (hd.heap_39 w.params) 1 607 [.ref cx] (fun news => (cx, listOf vs.toArray c) ∈ news) (fun add v => DatIn add v (leafD (rowsL cells))) := by
  unfold Ctr
  intro p loose mean mg mb dp un gd cn cs a ccd cl outer A₀ base h₀ L m news s Q E B F X N T hk hd hu hpre hret
  walk_at "m enter"
  k_steps
  have hlen : vs.length = cells.length := by rw [datAll_len hx, List.length_map]
  have hx2 : DatAll [] (vs ++ List.replicate ((-(vs.length : Int)).fmod 7).toNat Value.none) ((cells ++ List.replicate ((-(vs.length : Int)).fmod 7).toNat none).map cellD) := by
    rw [List.map_append]
    exact hx.append (datAll_rep [] _)
  refine comp7 (n := (cells.length + 6) / 7) rfl (by k_asm) (by k_asm) (by assumption) (by walk_at "m arith") (by walk_at "m arith") hx2 ?_ ?_
  · intro i rows ys t9 I oI C oC D m₂ h tk E' hi hC hx F9 N9
    k_steps
  · intro D h tk ys rows F9 N9 A9 D9
    k_steps
    refine hret _ ((D, lst ys) :: rows) _ _ (by k_asm) (News.sub (by assumption) fun p hp => ?_) (A9.sub fun p hp => ?_) ?_
    · simp only [List.mem_cons, List.mem_append] at hp ⊢
      rcases hp with (h | h) | h
      · exact .inl h
      · exact .inr (.inl h)
      · simp [h]
    · simp [hp]
    · refine .list List.mem_cons_self (DatAll.mono (fun p hp => List.mem_cons_of_mem _ hp) ?_)
      rw [rowsL_of cells _ (by rw [fmod_lit, ← hlen]; omega)] at D9
      exact D9
end
end
section
local macro_rules | `(tactic| walk_at "eval ListComp") => `(tactic| (k_here; k_dflt (refine ListComp_step (F₀ := by k_asm) (by with_unfolding_all rfl) (by decide) (by rfl) (by decide) (by rfl) ?_)))
local macro_rules | `(tactic| walk_at "subscriptTail Name Slice ref ref") => `(tactic| (k_here; k_dflt ((first | (with_reducible refine' kms_slice_lit ?zzF ?zzN ?zzl ?zzp ?zzq ?zze ?_ ?zzs ?zzt ?zzz) | (refine' kms_slice_lit ?zzF ?zzN ?zzl ?zzp ?zzq ?zze ?_ ?zzs ?zzt ?zzz)); (case zzF => k_asm); (case zzN => k_asm); (case zzl => kmk_list); (case zzp => kmk_part); (case zzq => kmk_part); (case zze => exact pick7' _ _); (case zzs => with_unfolding_all rfl); (case zzt => kmk_pure); (case zzz => walk_at "m size")); intro D' h' F' N' l1))
local macro_rules | `(tactic| walk_at "RowEnd") => `(tactic| exact ⟨_, _, _, _, rfl, rfl, by k_asm, by k_asm, by assumption⟩)
set_option maxHeartbeats 4000000 in
theorem c_helper (w : World) (wd n : Int) (t u : Tok) (h1 : 0 ≤ wd) (h2 : wd ≤ 6) (h3 : 0 ≤ n) (h4 : n ≤ 31) :
    Ctr PR w (hd.heap_39 w.params) 1 71 [.int wd t, .int n u] (fun _ => True) (fun add v => DatIn add v (leafD (leafL ((wd + 1) % 7).toNat n.toNat))) := by
  unfold Ctr
  intro p loose mean mg mb dp un gd cn cs a ccd cl outer A₀ base h₀ L m news s Q E B F X N T hk hd hu _ hret
  walk_at "m enter"
  k_steps
  have hx := days_all (by assumption) ((wd + 1).fmod 7).toNat
  refine comp7 (n := (((wd + 1) % 7).toNat + n.toNat + 6) / 7) rfl (by k_asm) (by k_asm) (by assumption) (by walk_at "m arith") (by walk_at "m arith") hx ?_ ?_
  · intro i rows ys t9 I oI C oC D m₂ h tk E' hi hC hx F9 N9
    k_steps
  · intro D h tk ys rows F9 N9 A9 D9
    k_steps
    refine hret _ ((D, lst ys) :: rows) _ _ (by k_asm) (News.sub (by assumption) fun p hp => ?_) (A9.sub fun p hp => ?_) ?_
    · simp only [List.mem_cons, List.mem_append] at hp ⊢
      rcases hp with (h | h) | h
      · exact .inl h
      · exact .inr (.inl h)
      · simp [h]
    · simp [hp]
    · refine .list List.mem_cons_self (DatAll.mono (fun p hp => List.mem_cons_of_mem _ hp) ?_)
      have e1 : (1 + n - 1).toNat = n.toNat := by omega
      rw [fmod_lit, e1] at D9
      exact D9
end

local macro_rules | `(tactic| walk_at "call ref") => `(tactic| (k_here; k_dflt ((first | (with_reducible refine' c_use (c_helper _ _ _ _ _ ?zzh1 ?zzh2 ?zzh3 ?zzh4) ?zz1 ?zz2 ?zz3 ?zz4 ?zz5 ?zzK ?zzd ?zzu trivial ?_) | (refine' c_use (c_helper _ _ _ _ _ ?zzh1 ?zzh2 ?zzh3 ?zzh4) ?zz1 ?zz2 ?zz3 ?zz4 ?zz5 ?zzK ?zzd ?zzu trivial ?_)); (case zzh1 => walk_at "m arith"); (case zzh2 => walk_at "m arith"); (case zzh3 => walk_at "m arith"); (case zzh4 => walk_at "m arith"); (case zz1 => k_asm); (case zz2 => k_asm); (case zz3 => k_asm); (case zz4 => k_asm); (case zz5 => k_asm); (case zzK => first | assumption | exact rfl); (case zzd => ktr_room); (case zzu => ktr_units)); intro v9 add9 h9 tk9 F9 N9 A9 P9; (try k_sweep); (try dsimp only); (try k_fold)))
set_option maxHeartbeats 4000000 in
theorem c_isleap (w : World) (y : Int) (t : Tok)  : Ctr0 PR w (hd.heap_39 w.params) 1 392 [.int y t] (fun v => v = .bool (isleapB y)) := by
  unfold Ctr0
  intro p loose mean mg mb dp un gd cn cs a ccd cl outer A₀ base h₀ L m news s Q E B F X N T hk hd hu hret
  walk_at "m enter"
  k_steps
  all_goals first | (exfalso; omega) | (refine hret _ _ _ (by k_asm) (by walk_at "m news") ?_)
  all_goals (simp only [fmod_lit] at *; simp [isleapB, *])


local macro_rules | `(tactic| walk_at "call ref") => `(tactic| (k_here; k_dflt ((first | (with_reducible refine' c0_use (c_isleap _ _ _ ) ?zz1 ?zz2 ?zz3 ?zz4 ?zz5 ?zzK ?zzd ?zzu ?_) | (refine' c0_use (c_isleap _ _ _ ) ?zz1 ?zz2 ?zz3 ?zz4 ?zz5 ?zzK ?zzd ?zzu ?_)); (case zz1 => k_asm); (case zz2 => k_asm); (case zz3 => k_asm); (case zz4 => k_asm); (case zz5 => k_asm); (case zzK => first | assumption | exact rfl); (case zzd => ktr_room); (case zzu => ktr_units)); intro v9 h9 tk9 F9 N9 P9; subst P9; (try k_sweep); (try dsimp only); (try k_fold)))

set_option maxHeartbeats 4000000 in
theorem c_weekday (w : World) (y mo : Int) (t u v : Tok) (h1 : 1 ≤ y) (h2 : y ≤ 500000) (h3 : 1 ≤ mo) (h4 : mo ≤ 12) : Ctr0 PR w (hd.heap_39 w.params) 1 399 [.int y t, .int mo u, .int 1 v] (fun v => ∃ a, v = .ref a) := by
  unfold Ctr0
  intro p loose mean mg mb dp un gd cn cs a ccd cl outer A₀ base h₀ L m news s Q E B F X N T hk hd hu hret
  walk_at "m enter"
  k_steps
  all_goals first | (exfalso; omega) | (refine hret _ _ _ (by k_asm) (by walk_at "m news") ?_)
  all_goals (refine' all_refs ?_ (by assumption); rfl)


local macro_rules | `(tactic| walk_at "call ref") => `(tactic| (k_here; k_dflt ((first | (with_reducible refine' c0_use (c_weekday _ _ _ _ _ _ ?zzh1 ?zzh2 ?zzh3 ?zzh4) ?zz1 ?zz2 ?zz3 ?zz4 ?zz5 ?zzK ?zzd ?zzu ?_) | (refine' c0_use (c_weekday _ _ _ _ _ _ ?zzh1 ?zzh2 ?zzh3 ?zzh4) ?zz1 ?zz2 ?zz3 ?zz4 ?zz5 ?zzK ?zzd ?zzu ?_)); (case zzh1 => walk_at "m arith"); (case zzh2 => walk_at "m arith"); (case zzh3 => walk_at "m arith"); (case zzh4 => walk_at "m arith"); (case zz1 => k_asm); (case zz2 => k_asm); (case zz3 => k_asm); (case zz4 => k_asm); (case zz5 => k_asm); (case zzK => first | assumption | exact rfl); (case zzd => ktr_room); (case zzu => ktr_units)); intro v9 h9 tk9 F9 N9 P9; obtain ⟨a9, P9⟩ := P9; subst P9; (try k_sweep); (try dsimp only); (try k_fold)))

set_option maxHeartbeats 4000000 in
theorem c_jwday (w : World) (x : UInt64) (t : Tok) (j : Int) (hq : Q4 x (4 * j - 2)) (h1 : 0 ≤ j) (h2 : j ≤ 1000000000) : Ctr0 PR w (hd.heap_39 w.params) 1 66 [.float x t] (fun v => ∃ n t, v = .int n t ∧ n = j % 7) := by
  unfold Ctr0
  intro p loose mean mg mb dp un gd cn cs a ccd cl outer A₀ base h₀ L m news s Q E B F X N T hk hd hu hret
  walk_at "m enter"
  k_steps
  all_goals first | (exfalso; omega) | (refine hret _ _ _ (by k_asm) (by walk_at "m news") ?_)
  exact ⟨_, _, rfl, by rw [fmod_lit]; omega⟩


local macro_rules | `(tactic| walk_at "call ref") => `(tactic| (k_here; k_dflt ((first | (with_reducible refine' c0_use (c_jwday _ _ _ _ ?zzhq ?zzh1 ?zzh2) ?zz1 ?zz2 ?zz3 ?zz4 ?zz5 ?zzK ?zzd ?zzu ?_) | (refine' c0_use (c_jwday _ _ _ _ ?zzhq ?zzh1 ?zzh2) ?zz1 ?zz2 ?zz3 ?zz4 ?zz5 ?zzK ?zzd ?zzu ?_)); (case zzhq => assumption); (case zzh1 => walk_at "m arith"); (case zzh2 => walk_at "m arith"); (case zz1 => k_asm); (case zz2 => k_asm); (case zz3 => k_asm); (case zz4 => k_asm); (case zz5 => k_asm); (case zzK => first | assumption | exact rfl); (case zzd => ktr_room); (case zzu => ktr_units)); intro v9 h9 tk9 F9 N9 P9; obtain ⟨n9, t9, P9, e9⟩ := P9; subst P9; (try k_sweep); (try dsimp only); (try k_fold)))

set_option maxHeartbeats 4000000 in
theorem c_legal_g (w : World) (y mo dd : Int) (t u v : Tok) (h3 : 1 ≤ mo) (h4 : mo ≤ 12) (h5 : 1 ≤ dd) (h6 : dd ≤ 28) : Ctr0 PR w (hd.heap_39 w.params) 2 420 [.int y t, .int mo u, .int dd v] (fun v => v = .bool true) := by
  unfold Ctr0
  intro p loose mean mg mb dp un gd cn cs a ccd cl outer A₀ base h₀ L m news s Q E B F X N T hk hd hu hret
  walk_at "m enter"
  k_steps
  all_goals first | (exfalso; omega) | (refine hret _ _ _ (by k_asm) (by walk_at "m news") ?_)
  all_goals exact rfl


local macro_rules | `(tactic| walk_at "call ref") => `(tactic| (k_here; k_dflt ((first | (with_reducible refine' c0_use (c_legal_g _ _ _ _ _ _ _ ?zzh3 ?zzh4 ?zzh5 ?zzh6) ?zz1 ?zz2 ?zz3 ?zz4 ?zz5 ?zzK ?zzd ?zzu ?_) | (refine' c0_use (c_legal_g _ _ _ _ _ _ _ ?zzh3 ?zzh4 ?zzh5 ?zzh6) ?zz1 ?zz2 ?zz3 ?zz4 ?zz5 ?zzK ?zzd ?zzu ?_)); (case zzh3 => walk_at "m arith"); (case zzh4 => walk_at "m arith"); (case zzh5 => walk_at "m arith"); (case zzh6 => walk_at "m arith"); (case zz1 => k_asm); (case zz2 => k_asm); (case zz3 => k_asm); (case zz4 => k_asm); (case zz5 => k_asm); (case zzK => first | assumption | exact rfl); (case zzd => ktr_room); (case zzu => ktr_units)); intro v9 h9 tk9 F9 N9 P9; subst P9; (try k_sweep); (try dsimp only); (try k_fold)))

set_option maxHeartbeats 4000000 in
theorem c_mlen_g (w : World) (y mo : Int) (t u : Tok) (h1 : 1 ≤ y) (h2 : y ≤ 500000) (h3 : 1 ≤ mo) (h4 : mo ≤ 12) : Ctr0 PR w (hd.heap_39 w.params) 4 434 [.int y t, .int mo u] (fun v => ∃ n t, v = .int n t ∧ n = gregLen y mo ∧ 1 ≤ n ∧ n ≤ 31) := by
  unfold Ctr0
  intro p loose mean mg mb dp un gd cn cs a ccd cl outer A₀ base h₀ L m news s Q E B F X N T hk hd hu hret
  walk_at "m enter"
  k_steps
  all_goals first | (exfalso; omega) | (refine hret _ _ _ (by k_asm) (by walk_at "m news") ?_)
  all_goals (refine ⟨_, _, rfl, int_end ?_ (gregLen_b y mo)⟩)
  all_goals first
    | exact gLen1 (by assumption)
    | exact gLen2 h3 h4 (by assumption)


local macro_rules | `(tactic| walk_at "call ref") => `(tactic| (k_here; k_dflt ((first | (with_reducible refine' c0_use (c_mlen_g _ _ _ _ _ ?zzh1 ?zzh2 ?zzh3 ?zzh4) ?zz1 ?zz2 ?zz3 ?zz4 ?zz5 ?zzK ?zzd ?zzu ?_) | (refine' c0_use (c_mlen_g _ _ _ _ _ ?zzh1 ?zzh2 ?zzh3 ?zzh4) ?zz1 ?zz2 ?zz3 ?zz4 ?zz5 ?zzK ?zzd ?zzu ?_)); (case zzh1 => walk_at "m arith"); (case zzh2 => walk_at "m arith"); (case zzh3 => walk_at "m arith"); (case zzh4 => walk_at "m arith"); (case zz1 => k_asm); (case zz2 => k_asm); (case zz3 => k_asm); (case zz4 => k_asm); (case zz5 => k_asm); (case zzK => first | assumption | exact rfl); (case zzd => ktr_room); (case zzu => ktr_units)); intro v9 h9 tk9 F9 N9 P9; obtain ⟨n9, t9, P9, e9, b9, c9⟩ := P9; subst P9; (try k_sweep); (try dsimp only); (try k_fold)))

set_option maxHeartbeats 4000000 in
theorem c_tojd_g (w : World) (y mo dd : Int) (t u v : Tok) (h1 : 1 ≤ y) (h2 : y ≤ 500000) (h3 : 1 ≤ mo) (h4 : mo ≤ 12) (h5 : dd = 1 ∨ dd = 21 ∨ dd = 22) : Ctr0 PR w (hd.heap_39 w.params) 4 427 [.int y t, .int mo u, .int dd v] (fun v => ∃ x t j, v = .float x t ∧ Q4 x (4 * j - 2) ∧ j = gregJ y mo dd ∧ 0 ≤ j ∧ j ≤ 900000000) := by
  unfold Ctr0
  intro p loose mean mg mb dp un gd cn cs a ccd cl outer A₀ base h₀ L m news s Q E B F X N T hk hd hu hret
  walk_at "m enter"
  k_steps
  all_goals first | (exfalso; omega) | (refine hret _ _ _ (by k_asm) (by walk_at "m news") ?_)
  all_goals (refine ⟨_, _, gregJ y mo dd, rfl, q4_cast (by walk_at "m q4") ?_, rfl, ?_⟩)
  all_goals first
    | (rw [gregJ1 _ (by assumption)]; omega)
    | (rw [gregJ2 _ (by assumption) (by assumption)]; omega)
    | (rw [gregJ3 _ (by assumption) (by assumption)]; omega)


local macro_rules | `(tactic| walk_at "call ref") => `(tactic| (k_here; k_dflt ((first | (with_reducible refine' c0_use (c_tojd_g _ _ _ _ _ _ _ ?zzh1 ?zzh2 ?zzh3 ?zzh4 ?zzh5) ?zz1 ?zz2 ?zz3 ?zz4 ?zz5 ?zzK ?zzd ?zzu ?_) | (refine' c0_use (c_tojd_g _ _ _ _ _ _ _ ?zzh1 ?zzh2 ?zzh3 ?zzh4 ?zzh5) ?zz1 ?zz2 ?zz3 ?zz4 ?zz5 ?zzK ?zzd ?zzu ?_)); (case zzh1 => walk_at "m arith"); (case zzh2 => walk_at "m arith"); (case zzh3 => walk_at "m arith"); (case zzh4 => walk_at "m arith"); (case zzh5 => walk_at "m arith"); (case zz1 => k_asm); (case zz2 => k_asm); (case zz3 => k_asm); (case zz4 => k_asm); (case zz5 => k_asm); (case zzK => first | assumption | exact rfl); (case zzd => ktr_room); (case zzu => ktr_units)); intro v9 h9 tk9 F9 N9 P9; obtain ⟨x9, t9, j9, P9, q9, e9, b9, c9⟩ := P9; subst P9; (try k_sweep); (try dsimp only); (try k_fold)))

set_option maxHeartbeats 4000000 in
theorem c_cal_g (w : World) (y mo : Int) (t u : Tok) (h1 : 1 ≤ y) (h2 : y ≤ 500000) (h3 : 1 ≤ mo) (h4 : mo ≤ 12) : Ctr PR w (hd.heap_39 w.params) 6 441 [.int y t, .int mo u] (fun _ => True) (fun add v => DatIn add v (leafJ (gregJ y mo 1) (gregLen y mo))) := by
  unfold Ctr
  intro p loose mean mg mb dp un gd cn cs a ccd cl outer A₀ base h₀ L m news s Q E B F X N T hk hd hu _ hret
  walk_at "m enter"
  k_steps
  refine hret _ _ _ _ (by k_asm) (by k_asm) (by assumption) ?_
  subst_vars
  rw [← leafJ_of]
  assumption


local macro_rules | `(tactic| walk_at "call ref") => `(tactic| (k_here; k_dflt ((first | (with_reducible refine' c_use (c_cal_g _ _ _ _ _ ?zzh1 ?zzh2 ?zzh3 ?zzh4) ?zz1 ?zz2 ?zz3 ?zz4 ?zz5 ?zzK ?zzd ?zzu trivial ?_) | (refine' c_use (c_cal_g _ _ _ _ _ ?zzh1 ?zzh2 ?zzh3 ?zzh4) ?zz1 ?zz2 ?zz3 ?zz4 ?zz5 ?zzK ?zzd ?zzu trivial ?_)); (case zzh1 => walk_at "m arith"); (case zzh2 => walk_at "m arith"); (case zzh3 => walk_at "m arith"); (case zzh4 => walk_at "m arith"); (case zz1 => k_asm); (case zz2 => k_asm); (case zz3 => k_asm); (case zz4 => k_asm); (case zz5 => k_asm); (case zzK => first | assumption | exact rfl); (case zzd => ktr_room); (case zzu => ktr_units)); intro v9 add9 h9 tk9 F9 N9 A9 P9; (try k_sweep); (try dsimp only); (try k_fold)))
section

set_option maxHeartbeats 4000000 in
theorem c_mlen_j (w : World) (y mo : Int) (t u : Tok) (h3 : 1 ≤ mo) (h4 : mo ≤ 12) : Ctr0 PR w (hd.heap_39 w.params) 2 456 [.int y t, .int mo u] (fun v => ∃ n t, v = .int n t ∧ n = julLen y mo ∧ 1 ≤ n ∧ n ≤ 31) := by
  unfold Ctr0
  intro p loose mean mg mb dp un gd cn cs a ccd cl outer A₀ base h₀ L m news s Q E B F X N T hk hd hu hret
  walk_at "m enter"
  k_steps
  all_goals first | (exfalso; omega) | (refine hret _ _ _ (by k_asm) (by walk_at "m news") ?_)
  all_goals (refine ⟨_, _, rfl, int_end ?_ (julLen_b y mo)⟩)
  all_goals first
    | exact jl1 (by assumption) (by assumption)
    | exact jl2 (by assumption) (by assumption)
    | exact jl3 (by assumption) (by assumption)
    | exact jl4 (by assumption) (by assumption)


local macro_rules | `(tactic| walk_at "call ref") => `(tactic| (k_here; k_dflt ((first | (with_reducible refine' c0_use (c_mlen_j _ _ _ _ _ ?zzh3 ?zzh4) ?zz1 ?zz2 ?zz3 ?zz4 ?zz5 ?zzK ?zzd ?zzu ?_) | (refine' c0_use (c_mlen_j _ _ _ _ _ ?zzh3 ?zzh4) ?zz1 ?zz2 ?zz3 ?zz4 ?zz5 ?zzK ?zzd ?zzu ?_)); (case zzh3 => walk_at "m arith"); (case zzh4 => walk_at "m arith"); (case zz1 => k_asm); (case zz2 => k_asm); (case zz3 => k_asm); (case zz4 => k_asm); (case zz5 => k_asm); (case zzK => first | assumption | exact rfl); (case zzd => ktr_room); (case zzu => ktr_units)); intro v9 h9 tk9 F9 N9 P9; obtain ⟨n9, t9, P9, e9, b9, c9⟩ := P9; subst P9; (try k_sweep); (try dsimp only); (try k_fold)))

set_option maxHeartbeats 4000000 in
theorem c_legal_j (w : World) (y mo : Int) (t u v : Tok) (h3 : 1 ≤ mo) (h4 : mo ≤ 12) : Ctr0 PR w (hd.heap_39 w.params) 3 463 [.int y t, .int mo u, .int 1 v] (fun v => v = .bool true) := by
  unfold Ctr0
  intro p loose mean mg mb dp un gd cn cs a ccd cl outer A₀ base h₀ L m news s Q E B F X N T hk hd hu hret
  walk_at "m enter"
  k_steps
  all_goals first | (exfalso; omega) | (refine hret _ _ _ (by k_asm) (by walk_at "m news") ?_)
  all_goals exact rfl


local macro_rules | `(tactic| walk_at "call ref") => `(tactic| (k_here; k_dflt ((first | (with_reducible refine' c0_use (c_legal_j _ _ _ _ _ _ ?zzh3 ?zzh4) ?zz1 ?zz2 ?zz3 ?zz4 ?zz5 ?zzK ?zzd ?zzu ?_) | (refine' c0_use (c_legal_j _ _ _ _ _ _ ?zzh3 ?zzh4) ?zz1 ?zz2 ?zz3 ?zz4 ?zz5 ?zzK ?zzd ?zzu ?_)); (case zzh3 => walk_at "m arith"); (case zzh4 => walk_at "m arith"); (case zz1 => k_asm); (case zz2 => k_asm); (case zz3 => k_asm); (case zz4 => k_asm); (case zz5 => k_asm); (case zzK => first | assumption | exact rfl); (case zzd => ktr_room); (case zzu => ktr_units)); intro v9 h9 tk9 F9 N9 P9; subst P9; (try k_sweep); (try dsimp only); (try k_fold)))

set_option maxHeartbeats 4000000 in
theorem c_tojd_j (w : World) (y mo : Int) (t u v : Tok) (h1 : 1 ≤ y) (h2 : y ≤ 500000) (h3 : 1 ≤ mo) (h4 : mo ≤ 12) : Ctr0 PR w (hd.heap_39 w.params) 4 470 [.int y t, .int mo u, .int 1 v] (fun v => ∃ x t j, v = .float x t ∧ Q4 x (4 * j - 2) ∧ j = julJ y mo ∧ 0 ≤ j ∧ j ≤ 900000000) := by
  unfold Ctr0
  intro p loose mean mg mb dp un gd cn cs a ccd cl outer A₀ base h₀ L m news s Q E B F X N T hk hd hu hret
  walk_at "m enter"
  k_steps
  all_goals first | (exfalso; omega) | (refine hret _ _ _ (by k_asm) (by walk_at "m news") ?_)
  all_goals (refine ⟨_, _, julJ y mo, rfl, q4_cast (by walk_at "m q4") ?_, rfl, ?_⟩)
  all_goals (unfold julJ; (repeat' split) <;> omega)


local macro_rules | `(tactic| walk_at "call ref") => `(tactic| (k_here; k_dflt ((first | (with_reducible refine' c0_use (c_tojd_j _ _ _ _ _ _ ?zzh1 ?zzh2 ?zzh3 ?zzh4) ?zz1 ?zz2 ?zz3 ?zz4 ?zz5 ?zzK ?zzd ?zzu ?_) | (refine' c0_use (c_tojd_j _ _ _ _ _ _ ?zzh1 ?zzh2 ?zzh3 ?zzh4) ?zz1 ?zz2 ?zz3 ?zz4 ?zz5 ?zzK ?zzd ?zzu ?_)); (case zzh1 => walk_at "m arith"); (case zzh2 => walk_at "m arith"); (case zzh3 => walk_at "m arith"); (case zzh4 => walk_at "m arith"); (case zz1 => k_asm); (case zz2 => k_asm); (case zz3 => k_asm); (case zz4 => k_asm); (case zz5 => k_asm); (case zzK => first | assumption | exact rfl); (case zzd => ktr_room); (case zzu => ktr_units)); intro v9 h9 tk9 F9 N9 P9; obtain ⟨x9, t9, j9, P9, q9, e9, b9, c9⟩ := P9; subst P9; (try k_sweep); (try dsimp only); (try k_fold)))

set_option maxHeartbeats 4000000 in
theorem c_cal_j (w : World) (y mo : Int) (t u : Tok) (h1 : 1 ≤ y) (h2 : y ≤ 500000) (h3 : 1 ≤ mo) (h4 : mo ≤ 12) : Ctr PR w (hd.heap_39 w.params) 6 477 [.int y t, .int mo u] (fun _ => True) (fun add v => DatIn add v (leafJ (julJ y mo) (julLen y mo))) := by
  unfold Ctr
  intro p loose mean mg mb dp un gd cn cs a ccd cl outer A₀ base h₀ L m news s Q E B F X N T hk hd hu _ hret
  walk_at "m enter"
  k_steps
  refine hret _ _ _ _ (by k_asm) (by k_asm) (by assumption) ?_
  subst_vars
  rw [← leafJ_of]
  assumption


local macro_rules | `(tactic| walk_at "call ref") => `(tactic| (k_here; k_dflt ((first | (with_reducible refine' c_use (c_cal_j _ _ _ _ _ ?zzh1 ?zzh2 ?zzh3 ?zzh4) ?zz1 ?zz2 ?zz3 ?zz4 ?zz5 ?zzK ?zzd ?zzu trivial ?_) | (refine' c_use (c_cal_j _ _ _ _ _ ?zzh1 ?zzh2 ?zzh3 ?zzh4) ?zz1 ?zz2 ?zz3 ?zz4 ?zz5 ?zzK ?zzd ?zzu trivial ?_)); (case zzh1 => walk_at "m arith"); (case zzh2 => walk_at "m arith"); (case zzh3 => walk_at "m arith"); (case zzh4 => walk_at "m arith"); (case zz1 => k_asm); (case zz2 => k_asm); (case zz3 => k_asm); (case zz4 => k_asm); (case zz5 => k_asm); (case zzK => first | assumption | exact rfl); (case zzd => ktr_room); (case zzu => ktr_units)); intro v9 add9 h9 tk9 F9 N9 A9 P9; (try k_sweep); (try dsimp only); (try k_fold)))
end
section

set_option maxHeartbeats 4000000 in
theorem c_mlen_c (w : World) (y mo : Int) (t u : Tok) (h3 : 1 ≤ mo) (h4 : mo ≤ 13) : Ctr0 PR w (hd.heap_39 w.params) 2 537 [.int y t, .int mo u] (fun v => ∃ n t, v = .int n t ∧ n = copLen y mo ∧ 1 ≤ n ∧ n ≤ 31) := by
  unfold Ctr0
  intro p loose mean mg mb dp un gd cn cs a ccd cl outer A₀ base h₀ L m news s Q E B F X N T hk hd hu hret
  walk_at "m enter"
  k_steps
  all_goals first | (exfalso; omega) | (refine hret _ _ _ (by k_asm) (by walk_at "m news") ?_)
  all_goals (refine ⟨_, _, rfl, int_end ?_ (copLen_b y mo)⟩)
  all_goals first
    | exact cl2 (by assumption) (by assumption)
    | exact cl3 (by assumption) (by assumption)
    | (unfold copLen; rw [if_pos (by assumption)])


local macro_rules | `(tactic| walk_at "call ref") => `(tactic| (k_here; k_dflt ((first | (with_reducible refine' c0_use (c_mlen_c _ _ _ _ _ ?zzh3 ?zzh4) ?zz1 ?zz2 ?zz3 ?zz4 ?zz5 ?zzK ?zzd ?zzu ?_) | (refine' c0_use (c_mlen_c _ _ _ _ _ ?zzh3 ?zzh4) ?zz1 ?zz2 ?zz3 ?zz4 ?zz5 ?zzK ?zzd ?zzu ?_)); (case zzh3 => walk_at "m arith"); (case zzh4 => walk_at "m arith"); (case zz1 => k_asm); (case zz2 => k_asm); (case zz3 => k_asm); (case zz4 => k_asm); (case zz5 => k_asm); (case zzK => first | assumption | exact rfl); (case zzd => ktr_room); (case zzu => ktr_units)); intro v9 h9 tk9 F9 N9 P9; obtain ⟨n9, t9, P9, e9, b9, c9⟩ := P9; subst P9; (try k_sweep); (try dsimp only); (try k_fold)))

set_option maxHeartbeats 4000000 in
theorem c_tojd_c (w : World) (y mo : Int) (t u v : Tok) (h1 : 1 ≤ y) (h2 : y ≤ 500000) (h3 : 1 ≤ mo) (h4 : mo ≤ 13) : Ctr0 PR w (hd.heap_39 w.params) 4 530 [.int y t, .int mo u, .int 1 v] (fun v => ∃ x t j, v = .float x t ∧ Q4 x (4 * j - 2) ∧ j = copJ y mo ∧ 0 ≤ j ∧ j ≤ 900000000) := by
  unfold Ctr0
  intro p loose mean mg mb dp un gd cn cs a ccd cl outer A₀ base h₀ L m news s Q E B F X N T hk hd hu hret
  walk_at "m enter"
  k_steps
  all_goals first | (exfalso; omega) | (refine hret _ _ _ (by k_asm) (by walk_at "m news") ?_)
  all_goals (refine ⟨_, _, copJ y mo, rfl, q4_cast (by walk_at "m q4") ?_, rfl, ?_⟩)
  all_goals (unfold copJ; (repeat' split) <;> omega)


local macro_rules | `(tactic| walk_at "call ref") => `(tactic| (k_here; k_dflt ((first | (with_reducible refine' c0_use (c_tojd_c _ _ _ _ _ _ ?zzh1 ?zzh2 ?zzh3 ?zzh4) ?zz1 ?zz2 ?zz3 ?zz4 ?zz5 ?zzK ?zzd ?zzu ?_) | (refine' c0_use (c_tojd_c _ _ _ _ _ _ ?zzh1 ?zzh2 ?zzh3 ?zzh4) ?zz1 ?zz2 ?zz3 ?zz4 ?zz5 ?zzK ?zzd ?zzu ?_)); (case zzh1 => walk_at "m arith"); (case zzh2 => walk_at "m arith"); (case zzh3 => walk_at "m arith"); (case zzh4 => walk_at "m arith"); (case zz1 => k_asm); (case zz2 => k_asm); (case zz3 => k_asm); (case zz4 => k_asm); (case zz5 => k_asm); (case zzK => first | assumption | exact rfl); (case zzd => ktr_room); (case zzu => ktr_units)); intro v9 h9 tk9 F9 N9 P9; obtain ⟨x9, t9, j9, P9, q9, e9, b9, c9⟩ := P9; subst P9; (try k_sweep); (try dsimp only); (try k_fold)))

set_option maxHeartbeats 4000000 in
theorem c_cal_c (w : World) (y mo : Int) (t u : Tok) (h1 : 1 ≤ y) (h2 : y ≤ 500000) (h3 : 1 ≤ mo) (h4 : mo ≤ 13) : Ctr PR w (hd.heap_39 w.params) 6 544 [.int y t, .int mo u] (fun _ => True) (fun add v => DatIn add v (leafJ (copJ y mo) (copLen y mo))) := by
  unfold Ctr
  intro p loose mean mg mb dp un gd cn cs a ccd cl outer A₀ base h₀ L m news s Q E B F X N T hk hd hu _ hret
  walk_at "m enter"
  k_steps
  refine hret _ _ _ _ (by k_asm) (by k_asm) (by assumption) ?_
  subst_vars
  rw [← leafJ_of]
  assumption


local macro_rules | `(tactic| walk_at "call ref") => `(tactic| (k_here; k_dflt ((first | (with_reducible refine' c_use (c_cal_c _ _ _ _ _ ?zzh1 ?zzh2 ?zzh3 ?zzh4) ?zz1 ?zz2 ?zz3 ?zz4 ?zz5 ?zzK ?zzd ?zzu trivial ?_) | (refine' c_use (c_cal_c _ _ _ _ _ ?zzh1 ?zzh2 ?zzh3 ?zzh4) ?zz1 ?zz2 ?zz3 ?zz4 ?zz5 ?zzK ?zzd ?zzu trivial ?_)); (case zzh1 => walk_at "m arith"); (case zzh2 => walk_at "m arith"); (case zzh3 => walk_at "m arith"); (case zzh4 => walk_at "m arith"); (case zz1 => k_asm); (case zz2 => k_asm); (case zz3 => k_asm); (case zz4 => k_asm); (case zz5 => k_asm); (case zzK => first | assumption | exact rfl); (case zzd => ktr_room); (case zzu => ktr_units)); intro v9 add9 h9 tk9 F9 N9 A9 P9; (try k_sweep); (try dsimp only); (try k_fold)))
end
section

set_option maxHeartbeats 4000000 in
theorem c_mlen_m (w : World) (y mo : Int) (t u : Tok) (h3 : 1 ≤ mo) (h4 : mo ≤ 12) : Ctr0 PR w (hd.heap_39 w.params) 2 588 [.int y t, .int mo u] (fun v => ∃ n t, v = .int n t ∧ n = islLen y mo ∧ 1 ≤ n ∧ n ≤ 31) := by
  unfold Ctr0
  intro p loose mean mg mb dp un gd cn cs a ccd cl outer A₀ base h₀ L m news s Q E B F X N T hk hd hu hret
  walk_at "m enter"
  k_steps
  all_goals first | (exfalso; omega) | (refine hret _ _ _ (by k_asm) (by walk_at "m news") ?_)
  all_goals (refine ⟨_, _, rfl, int_end ?_ (islLen_b y mo)⟩)
  all_goals first
    | exact il1 h3 h4 (by assumption)
    | exact il2 h3 h4 (by assumption) (by assumption) (by assumption)
    | exact il3 h3 h4 (by assumption) (by assumption) (by assumption)
    | exact il4 h3 h4 (by assumption) (by assumption)


local macro_rules | `(tactic| walk_at "call ref") => `(tactic| (k_here; k_dflt ((first | (with_reducible refine' c0_use (c_mlen_m _ _ _ _ _ ?zzh3 ?zzh4) ?zz1 ?zz2 ?zz3 ?zz4 ?zz5 ?zzK ?zzd ?zzu ?_) | (refine' c0_use (c_mlen_m _ _ _ _ _ ?zzh3 ?zzh4) ?zz1 ?zz2 ?zz3 ?zz4 ?zz5 ?zzK ?zzd ?zzu ?_)); (case zzh3 => walk_at "m arith"); (case zzh4 => walk_at "m arith"); (case zz1 => k_asm); (case zz2 => k_asm); (case zz3 => k_asm); (case zz4 => k_asm); (case zz5 => k_asm); (case zzK => first | assumption | exact rfl); (case zzd => ktr_room); (case zzu => ktr_units)); intro v9 h9 tk9 F9 N9 P9; obtain ⟨n9, t9, P9, e9, b9, c9⟩ := P9; subst P9; (try k_sweep); (try dsimp only); (try k_fold)))

set_option maxHeartbeats 4000000 in
theorem c_tojd_m (w : World) (y mo : Int) (t u v : Tok) (h1 : 1 ≤ y) (h2 : y ≤ 500000) (h3 : 1 ≤ mo) (h4 : mo ≤ 12) : Ctr0 PR w (hd.heap_39 w.params) 4 581 [.int y t, .int mo u, .int 1 v] (fun v => ∃ x t j, v = .float x t ∧ Q4 x (4 * j - 2) ∧ j = islJ y mo ∧ 0 ≤ j ∧ j ≤ 900000000) := by
  unfold Ctr0
  intro p loose mean mg mb dp un gd cn cs a ccd cl outer A₀ base h₀ L m news s Q E B F X N T hk hd hu hret
  walk_at "m enter"
  k_steps
  all_goals first | (exfalso; omega) | (refine hret _ _ _ (by k_asm) (by walk_at "m news") ?_)
  all_goals (refine ⟨_, _, islJ y mo, rfl, q4_cast (by walk_at "m q4") ?_, rfl, ?_⟩)
  all_goals (unfold islJ; (repeat' split) <;> omega)


local macro_rules | `(tactic| walk_at "call ref") => `(tactic| (k_here; k_dflt ((first | (with_reducible refine' c0_use (c_tojd_m _ _ _ _ _ _ ?zzh1 ?zzh2 ?zzh3 ?zzh4) ?zz1 ?zz2 ?zz3 ?zz4 ?zz5 ?zzK ?zzd ?zzu ?_) | (refine' c0_use (c_tojd_m _ _ _ _ _ _ ?zzh1 ?zzh2 ?zzh3 ?zzh4) ?zz1 ?zz2 ?zz3 ?zz4 ?zz5 ?zzK ?zzd ?zzu ?_)); (case zzh1 => walk_at "m arith"); (case zzh2 => walk_at "m arith"); (case zzh3 => walk_at "m arith"); (case zzh4 => walk_at "m arith"); (case zz1 => k_asm); (case zz2 => k_asm); (case zz3 => k_asm); (case zz4 => k_asm); (case zz5 => k_asm); (case zzK => first | assumption | exact rfl); (case zzd => ktr_room); (case zzu => ktr_units)); intro v9 h9 tk9 F9 N9 P9; obtain ⟨x9, t9, j9, P9, q9, e9, b9, c9⟩ := P9; subst P9; (try k_sweep); (try dsimp only); (try k_fold)))

set_option maxHeartbeats 4000000 in
theorem c_cal_m (w : World) (y mo : Int) (t u : Tok) (h1 : 1 ≤ y) (h2 : y ≤ 500000) (h3 : 1 ≤ mo) (h4 : mo ≤ 12) : Ctr PR w (hd.heap_39 w.params) 6 595 [.int y t, .int mo u] (fun _ => True) (fun add v => DatIn add v (leafJ (islJ y mo) (islLen y mo))) := by
  unfold Ctr
  intro p loose mean mg mb dp un gd cn cs a ccd cl outer A₀ base h₀ L m news s Q E B F X N T hk hd hu _ hret
  walk_at "m enter"
  k_steps
  refine hret _ _ _ _ (by k_asm) (by k_asm) (by assumption) ?_
  subst_vars
  rw [← leafJ_of]
  assumption


local macro_rules | `(tactic| walk_at "call ref") => `(tactic| (k_here; k_dflt ((first | (with_reducible refine' c_use (c_cal_m _ _ _ _ _ ?zzh1 ?zzh2 ?zzh3 ?zzh4) ?zz1 ?zz2 ?zz3 ?zz4 ?zz5 ?zzK ?zzd ?zzu trivial ?_) | (refine' c_use (c_cal_m _ _ _ _ _ ?zzh1 ?zzh2 ?zzh3 ?zzh4) ?zz1 ?zz2 ?zz3 ?zz4 ?zz5 ?zzK ?zzd ?zzu trivial ?_)); (case zzh1 => walk_at "m arith"); (case zzh2 => walk_at "m arith"); (case zzh3 => walk_at "m arith"); (case zzh4 => walk_at "m arith"); (case zz1 => k_asm); (case zz2 => k_asm); (case zz3 => k_asm); (case zz4 => k_asm); (case zz5 => k_asm); (case zzK => first | assumption | exact rfl); (case zzd => ktr_room); (case zzu => ktr_units)); intro v9 add9 h9 tk9 F9 N9 A9 P9; (try k_sweep); (try dsimp only); (try k_fold)))
end
section

set_option maxHeartbeats 4000000 in
theorem c_mlen_i (w : World) (y mo : Int) (t u : Tok) (h3 : 1 ≤ mo) (h4 : mo ≤ 12) : Ctr0 PR w (hd.heap_39 w.params) 2 559 [.int y t, .int mo u] (fun v => ∃ n t, v = .int n t ∧ n = indLen y mo ∧ 1 ≤ n ∧ n ≤ 31) := by
  unfold Ctr0
  intro p loose mean mg mb dp un gd cn cs a ccd cl outer A₀ base h₀ L m news s Q E B F X N T hk hd hu hret
  walk_at "m enter"
  k_steps
  all_goals first | (exfalso; omega) | (refine hret _ _ _ (by k_asm) (by walk_at "m news") ?_)
  all_goals (refine ⟨_, _, rfl, int_end ?_ (indLen_b y mo)⟩)
  all_goals first
    | exact nl1 (by assumption)
    | exact nl2 (by assumption) (by assumption) (by assumption)
    | exact nl3 (by assumption) (by assumption) (by assumption)
    | exact nl4 (by assumption) (by assumption)


local macro_rules | `(tactic| walk_at "call ref") => `(tactic| (k_here; k_dflt ((first | (with_reducible refine' c0_use (c_mlen_i _ _ _ _ _ ?zzh3 ?zzh4) ?zz1 ?zz2 ?zz3 ?zz4 ?zz5 ?zzK ?zzd ?zzu ?_) | (refine' c0_use (c_mlen_i _ _ _ _ _ ?zzh3 ?zzh4) ?zz1 ?zz2 ?zz3 ?zz4 ?zz5 ?zzK ?zzd ?zzu ?_)); (case zzh3 => walk_at "m arith"); (case zzh4 => walk_at "m arith"); (case zz1 => k_asm); (case zz2 => k_asm); (case zz3 => k_asm); (case zz4 => k_asm); (case zz5 => k_asm); (case zzK => first | assumption | exact rfl); (case zzd => ktr_room); (case zzu => ktr_units)); intro v9 h9 tk9 F9 N9 P9; obtain ⟨n9, t9, P9, e9, b9, c9⟩ := P9; subst P9; (try k_sweep); (try dsimp only); (try k_fold)))

set_option maxHeartbeats 4000000 in
theorem c_tojd_i (w : World) (y mo : Int) (t u v : Tok) (h1 : 1 ≤ y) (h2 : y ≤ 490000) (h3 : 1 ≤ mo) (h4 : mo ≤ 12) : Ctr0 PR w (hd.heap_39 w.params) 5 552 [.int y t, .int mo u, .int 1 v] (fun v => ∃ x t j, v = .float x t ∧ Q4 x (4 * j - 2) ∧ j = indJ y mo ∧ 0 ≤ j ∧ j ≤ 1000000000) := by
  unfold Ctr0
  intro p loose mean mg mb dp un gd cn cs a ccd cl outer A₀ base h₀ L m news s Q E B F X N T hk hd hu hret
  walk_at "m enter"
  k_steps
  all_goals first | (exfalso; omega) | (refine hret _ _ _ (by k_asm) (by walk_at "m news") ?_)
  all_goals (refine ⟨_, _, indJ y mo, rfl, q4_cast (by walk_at "m q4") ?_, rfl, ?_⟩)
  all_goals first
    | (rw [indJ_t (by assumption) (by assumption)]; (repeat' split) <;> omega)
    | (rw [indJ_f (by assumption) (by assumption)]; (repeat' split) <;> omega)


local macro_rules | `(tactic| walk_at "call ref") => `(tactic| (k_here; k_dflt ((first | (with_reducible refine' c0_use (c_tojd_i _ _ _ _ _ _ ?zzh1 ?zzh2 ?zzh3 ?zzh4) ?zz1 ?zz2 ?zz3 ?zz4 ?zz5 ?zzK ?zzd ?zzu ?_) | (refine' c0_use (c_tojd_i _ _ _ _ _ _ ?zzh1 ?zzh2 ?zzh3 ?zzh4) ?zz1 ?zz2 ?zz3 ?zz4 ?zz5 ?zzK ?zzd ?zzu ?_)); (case zzh1 => walk_at "m arith"); (case zzh2 => walk_at "m arith"); (case zzh3 => walk_at "m arith"); (case zzh4 => walk_at "m arith"); (case zz1 => k_asm); (case zz2 => k_asm); (case zz3 => k_asm); (case zz4 => k_asm); (case zz5 => k_asm); (case zzK => first | assumption | exact rfl); (case zzd => ktr_room); (case zzu => ktr_units)); intro v9 h9 tk9 F9 N9 P9; obtain ⟨x9, t9, j9, P9, q9, e9, b9, c9⟩ := P9; subst P9; (try k_sweep); (try dsimp only); (try k_fold)))

set_option maxHeartbeats 4000000 in
theorem c_cal_i (w : World) (y mo : Int) (t u : Tok) (h1 : 1 ≤ y) (h2 : y ≤ 490000) (h3 : 1 ≤ mo) (h4 : mo ≤ 12) : Ctr PR w (hd.heap_39 w.params) 6 566 [.int y t, .int mo u] (fun _ => True) (fun add v => DatIn add v (leafJ (indJ y mo) (indLen y mo))) := by
  unfold Ctr
  intro p loose mean mg mb dp un gd cn cs a ccd cl outer A₀ base h₀ L m news s Q E B F X N T hk hd hu _ hret
  walk_at "m enter"
  k_steps
  refine hret _ _ _ _ (by k_asm) (by k_asm) (by assumption) ?_
  subst_vars
  rw [← leafJ_of]
  assumption


local macro_rules | `(tactic| walk_at "call ref") => `(tactic| (k_here; k_dflt ((first | (with_reducible refine' c_use (c_cal_i _ _ _ _ _ ?zzh1 ?zzh2 ?zzh3 ?zzh4) ?zz1 ?zz2 ?zz3 ?zz4 ?zz5 ?zzK ?zzd ?zzu trivial ?_) | (refine' c_use (c_cal_i _ _ _ _ _ ?zzh1 ?zzh2 ?zzh3 ?zzh4) ?zz1 ?zz2 ?zz3 ?zz4 ?zz5 ?zzK ?zzd ?zzu trivial ?_)); (case zzh1 => walk_at "m arith"); (case zzh2 => walk_at "m arith"); (case zzh3 => walk_at "m arith"); (case zzh4 => walk_at "m arith"); (case zz1 => k_asm); (case zz2 => k_asm); (case zz3 => k_asm); (case zz4 => k_asm); (case zz5 => k_asm); (case zzK => first | assumption | exact rfl); (case zzd => ktr_room); (case zzu => ktr_units)); intro v9 add9 h9 tk9 F9 N9 A9 P9; (try k_sweep); (try dsimp only); (try k_fold)))
end
section

set_option maxHeartbeats 4000000 in
theorem c_valid_a (w : World) (y mo : Int) (t u v : Tok) (h1 : 1 ≤ y) (h2 : y ≤ 500000) (h3 : 1 ≤ mo) (h4 : mo ≤ 13) : Ctr0 PR w (hd.heap_39 w.params) 2 485 [.int y t, .int mo u, .int 1 v, .none] (fun v => v = .bool true) := by
  unfold Ctr0
  intro p loose mean mg mb dp un gd cn cs a ccd cl outer A₀ base h₀ L m news s Q E B F X N T hk hd hu hret
  walk_at "m enter"
  k_steps
  all_goals first | (exfalso; omega) | (refine hret _ _ _ (by k_asm) (by walk_at "m news") ?_)
  all_goals exact rfl


local macro_rules | `(tactic| walk_at "call ref") => `(tactic| (k_here; k_dflt ((first | (with_reducible refine' c0_use (c_valid_a _ _ _ _ _ _ ?zzh1 ?zzh2 ?zzh3 ?zzh4) ?zz1 ?zz2 ?zz3 ?zz4 ?zz5 ?zzK ?zzd ?zzu ?_) | (refine' c0_use (c_valid_a _ _ _ _ _ _ ?zzh1 ?zzh2 ?zzh3 ?zzh4) ?zz1 ?zz2 ?zz3 ?zz4 ?zz5 ?zzK ?zzd ?zzu ?_)); (case zzh1 => walk_at "m arith"); (case zzh2 => walk_at "m arith"); (case zzh3 => walk_at "m arith"); (case zzh4 => walk_at "m arith"); (case zz1 => k_asm); (case zz2 => k_asm); (case zz3 => k_asm); (case zz4 => k_asm); (case zz5 => k_asm); (case zzK => first | assumption | exact rfl); (case zzd => ktr_room); (case zzu => ktr_units)); intro v9 h9 tk9 F9 N9 P9; subst P9; (try k_sweep); (try dsimp only); (try k_fold)))

set_option maxHeartbeats 4000000 in
theorem c_mlen_a (w : World) (y mo : Int) (t u : Tok) (h3 : 1 ≤ mo) (h4 : mo ≤ 13) : Ctr0 PR w (hd.heap_39 w.params) 2 508 [.int y t, .int mo u, .none] (fun v => ∃ n t, v = .int n t ∧ n = armLen y mo ∧ 1 ≤ n ∧ n ≤ 31) := by
  unfold Ctr0
  intro p loose mean mg mb dp un gd cn cs a ccd cl outer A₀ base h₀ L m news s Q E B F X N T hk hd hu hret
  walk_at "m enter"
  k_steps
  all_goals first | (exfalso; omega) | (refine hret _ _ _ (by k_asm) (by walk_at "m news") ?_)
  all_goals (refine ⟨_, _, rfl, int_end ?_ (armLen_b y mo)⟩)
  all_goals (unfold armLen; (repeat' split) <;> omega)


local macro_rules | `(tactic| walk_at "call ref") => `(tactic| (k_here; k_dflt ((first | (with_reducible refine' c0_use (c_mlen_a _ _ _ _ _ ?zzh3 ?zzh4) ?zz1 ?zz2 ?zz3 ?zz4 ?zz5 ?zzK ?zzd ?zzu ?_) | (refine' c0_use (c_mlen_a _ _ _ _ _ ?zzh3 ?zzh4) ?zz1 ?zz2 ?zz3 ?zz4 ?zz5 ?zzK ?zzd ?zzu ?_)); (case zzh3 => walk_at "m arith"); (case zzh4 => walk_at "m arith"); (case zz1 => k_asm); (case zz2 => k_asm); (case zz3 => k_asm); (case zz4 => k_asm); (case zz5 => k_asm); (case zzK => first | assumption | exact rfl); (case zzd => ktr_room); (case zzu => ktr_units)); intro v9 h9 tk9 F9 N9 P9; obtain ⟨n9, t9, P9, e9, b9, c9⟩ := P9; subst P9; (try k_sweep); (try dsimp only); (try k_fold)))

set_option maxHeartbeats 4000000 in
theorem c_tojd_a (w : World) (y mo : Int) (t u v : Tok) (h1 : 1 ≤ y) (h2 : y ≤ 500000) (h3 : 1 ≤ mo) (h4 : mo ≤ 13) : Ctr0 PR w (hd.heap_39 w.params) 4 500 [.int y t, .int mo u, .int 1 v, .none] (fun v => ∃ x t j, v = .float x t ∧ Q4 x (4 * j - 2) ∧ j = armJ y mo ∧ 0 ≤ j ∧ j ≤ 900000000) := by
  unfold Ctr0
  intro p loose mean mg mb dp un gd cn cs a ccd cl outer A₀ base h₀ L m news s Q E B F X N T hk hd hu hret
  walk_at "m enter"
  k_steps
  all_goals first | (exfalso; omega) | (refine hret _ _ _ (by k_asm) (by walk_at "m news") ?_)
  all_goals (refine ⟨_, _, armJ y mo, rfl, q4_cast (by walk_at "m q4") ?_, rfl, ?_⟩)
  all_goals (unfold armJ; (repeat' split) <;> omega)


local macro_rules | `(tactic| walk_at "call ref") => `(tactic| (k_here; k_dflt ((first | (with_reducible refine' c0_use (c_tojd_a _ _ _ _ _ _ ?zzh1 ?zzh2 ?zzh3 ?zzh4) ?zz1 ?zz2 ?zz3 ?zz4 ?zz5 ?zzK ?zzd ?zzu ?_) | (refine' c0_use (c_tojd_a _ _ _ _ _ _ ?zzh1 ?zzh2 ?zzh3 ?zzh4) ?zz1 ?zz2 ?zz3 ?zz4 ?zz5 ?zzK ?zzd ?zzu ?_)); (case zzh1 => walk_at "m arith"); (case zzh2 => walk_at "m arith"); (case zzh3 => walk_at "m arith"); (case zzh4 => walk_at "m arith"); (case zz1 => k_asm); (case zz2 => k_asm); (case zz3 => k_asm); (case zz4 => k_asm); (case zz5 => k_asm); (case zzK => first | assumption | exact rfl); (case zzd => ktr_room); (case zzu => ktr_units)); intro v9 h9 tk9 F9 N9 P9; obtain ⟨x9, t9, j9, P9, q9, e9, b9, c9⟩ := P9; subst P9; (try k_sweep); (try dsimp only); (try k_fold)))

set_option maxHeartbeats 4000000 in
theorem c_cal_a (w : World) (y mo : Int) (t u : Tok) (h1 : 1 ≤ y) (h2 : y ≤ 500000) (h3 : 1 ≤ mo) (h4 : mo ≤ 13) : Ctr PR w (hd.heap_39 w.params) 6 516 [.int y t, .int mo u] (fun _ => True) (fun add v => DatIn add v (leafJ (armJ y mo) (armLen y mo))) := by
  unfold Ctr
  intro p loose mean mg mb dp un gd cn cs a ccd cl outer A₀ base h₀ L m news s Q E B F X N T hk hd hu _ hret
  walk_at "m enter"
  k_steps
  refine hret _ _ _ _ (by k_asm) (by k_asm) (by assumption) ?_
  subst_vars
  rw [← leafJ_of]
  assumption


local macro_rules | `(tactic| walk_at "call ref") => `(tactic| (k_here; k_dflt ((first | (with_reducible refine' c_use (c_cal_a _ _ _ _ _ ?zzh1 ?zzh2 ?zzh3 ?zzh4) ?zz1 ?zz2 ?zz3 ?zz4 ?zz5 ?zzK ?zzd ?zzu trivial ?_) | (refine' c_use (c_cal_a _ _ _ _ _ ?zzh1 ?zzh2 ?zzh3 ?zzh4) ?zz1 ?zz2 ?zz3 ?zz4 ?zz5 ?zzK ?zzd ?zzu trivial ?_)); (case zzh1 => walk_at "m arith"); (case zzh2 => walk_at "m arith"); (case zzh3 => walk_at "m arith"); (case zzh4 => walk_at "m arith"); (case zz1 => k_asm); (case zz2 => k_asm); (case zz3 => k_asm); (case zz4 => k_asm); (case zz5 => k_asm); (case zzK => first | assumption | exact rfl); (case zzd => ktr_room); (case zzu => ktr_units)); intro v9 add9 h9 tk9 F9 N9 A9 P9; (try k_sweep); (try dsimp only); (try k_fold)))
end
section

set_option maxHeartbeats 4000000 in
theorem c_leap_s (w : World) (y : Int) (t : Tok) (h1 : 533 ≤ y) : Ctr0 PR w (hd.heap_39 w.params) 1 492 [.int y t] (fun v => v = .bool (y % 4 == 0)) := by
  unfold Ctr0
  intro p loose mean mg mb dp un gd cn cs a ccd cl outer A₀ base h₀ L m news s Q E B F X N T hk hd hu hret
  walk_at "m enter"
  k_steps
  all_goals first | (exfalso; omega) | (refine hret _ _ _ (by k_asm) (by walk_at "m news") ?_)
  all_goals rw [fmod_lit]


local macro_rules | `(tactic| walk_at "call ref") => `(tactic| (k_here; k_dflt ((first | (with_reducible refine' c0_use (c_leap_s _ _ _ ?zzh1) ?zz1 ?zz2 ?zz3 ?zz4 ?zz5 ?zzK ?zzd ?zzu ?_) | (refine' c0_use (c_leap_s _ _ _ ?zzh1) ?zz1 ?zz2 ?zz3 ?zz4 ?zz5 ?zzK ?zzd ?zzu ?_)); (case zzh1 => walk_at "m arith"); (case zz1 => k_asm); (case zz2 => k_asm); (case zz3 => k_asm); (case zz4 => k_asm); (case zz5 => k_asm); (case zzK => first | assumption | exact rfl); (case zzd => ktr_room); (case zzu => ktr_units)); intro v9 h9 tk9 F9 N9 P9; subst P9; (try k_sweep); (try dsimp only); (try k_fold)))

set_option maxHeartbeats 4000000 in
theorem c_valid_s (w : World) (y mo : Int) (t u v z : Tok) (h1 : 533 ≤ y) (h2 : y ≤ 500000) (h3 : 1 ≤ mo) (h4 : mo ≤ 13) : Ctr0 PR w (hd.heap_39 w.params) 2 485 [.int y t, .int mo u, .int 1 v, .str (Str.ofString "sarkawag") z] (fun v => v = .bool true) := by
  unfold Ctr0
  intro p loose mean mg mb dp un gd cn cs a ccd cl outer A₀ base h₀ L m news s Q E B F X N T hk hd hu hret
  walk_at "m enter"
  k_steps
  all_goals first | (exfalso; omega) | (refine hret _ _ _ (by k_asm) (by walk_at "m news") ?_)
  all_goals exact rfl


local macro_rules | `(tactic| walk_at "call ref") => `(tactic| (k_here; k_dflt ((first | (with_reducible refine' c0_use (c_valid_s _ _ _ _ _ _ _ ?zzh1 ?zzh2 ?zzh3 ?zzh4) ?zz1 ?zz2 ?zz3 ?zz4 ?zz5 ?zzK ?zzd ?zzu ?_) | (refine' c0_use (c_valid_s _ _ _ _ _ _ _ ?zzh1 ?zzh2 ?zzh3 ?zzh4) ?zz1 ?zz2 ?zz3 ?zz4 ?zz5 ?zzK ?zzd ?zzu ?_)); (case zzh1 => walk_at "m arith"); (case zzh2 => walk_at "m arith"); (case zzh3 => walk_at "m arith"); (case zzh4 => walk_at "m arith"); (case zz1 => k_asm); (case zz2 => k_asm); (case zz3 => k_asm); (case zz4 => k_asm); (case zz5 => k_asm); (case zzK => first | assumption | exact rfl); (case zzd => ktr_room); (case zzu => ktr_units)); intro v9 h9 tk9 F9 N9 P9; subst P9; (try k_sweep); (try dsimp only); (try k_fold)))

set_option maxHeartbeats 4000000 in
theorem c_mlen_s (w : World) (y mo : Int) (t u z : Tok) (h1 : 533 ≤ y) (h2 : y ≤ 500000) (h3 : 1 ≤ mo) (h4 : mo ≤ 13) : Ctr0 PR w (hd.heap_39 w.params) 2 508 [.int y t, .int mo u, .str (Str.ofString "sarkawag") z] (fun v => ∃ n t, v = .int n t ∧ n = sarLen y mo ∧ 1 ≤ n ∧ n ≤ 31) := by
  unfold Ctr0
  intro p loose mean mg mb dp un gd cn cs a ccd cl outer A₀ base h₀ L m news s Q E B F X N T hk hd hu hret
  walk_at "m enter"
  k_steps
  all_goals first | (exfalso; omega) | (refine hret _ _ _ (by k_asm) (by walk_at "m news") ?_)
  all_goals (refine ⟨_, _, rfl, int_end ?_ (sarLen_b y mo)⟩)
  all_goals (unfold sarLen; (repeat' split) <;> omega)


local macro_rules | `(tactic| walk_at "call ref") => `(tactic| (k_here; k_dflt ((first | (with_reducible refine' c0_use (c_mlen_s _ _ _ _ _ _ ?zzh1 ?zzh2 ?zzh3 ?zzh4) ?zz1 ?zz2 ?zz3 ?zz4 ?zz5 ?zzK ?zzd ?zzu ?_) | (refine' c0_use (c_mlen_s _ _ _ _ _ _ ?zzh1 ?zzh2 ?zzh3 ?zzh4) ?zz1 ?zz2 ?zz3 ?zz4 ?zz5 ?zzK ?zzd ?zzu ?_)); (case zzh1 => walk_at "m arith"); (case zzh2 => walk_at "m arith"); (case zzh3 => walk_at "m arith"); (case zzh4 => walk_at "m arith"); (case zz1 => k_asm); (case zz2 => k_asm); (case zz3 => k_asm); (case zz4 => k_asm); (case zz5 => k_asm); (case zzK => first | assumption | exact rfl); (case zzd => ktr_room); (case zzu => ktr_units)); intro v9 h9 tk9 F9 N9 P9; obtain ⟨n9, t9, P9, e9, b9, c9⟩ := P9; subst P9; (try k_sweep); (try dsimp only); (try k_fold)))

set_option maxHeartbeats 4000000 in
theorem c_tojd_s (w : World) (y mo : Int) (t u v z : Tok) (h1 : 533 ≤ y) (h2 : y ≤ 500000) (h3 : 1 ≤ mo) (h4 : mo ≤ 13) : Ctr0 PR w (hd.heap_39 w.params) 4 500 [.int y t, .int mo u, .int 1 v, .str (Str.ofString "sarkawag") z] (fun v => ∃ x t j, v = .float x t ∧ Q4 x (4 * j - 2) ∧ j = sarJ y mo ∧ 0 ≤ j ∧ j ≤ 900000000) := by
  unfold Ctr0
  intro p loose mean mg mb dp un gd cn cs a ccd cl outer A₀ base h₀ L m news s Q E B F X N T hk hd hu hret
  walk_at "m enter"
  k_steps
  all_goals first | (exfalso; omega) | (refine hret _ _ _ (by k_asm) (by walk_at "m news") ?_)
  all_goals (refine ⟨_, _, sarJ y mo, rfl, q4_cast (by walk_at "m q4") ?_, rfl, ?_⟩)
  all_goals (unfold sarJ; (repeat' split) <;> omega)


local macro_rules | `(tactic| walk_at "call ref") => `(tactic| (k_here; k_dflt ((first | (with_reducible refine' c0_use (c_tojd_s _ _ _ _ _ _ _ ?zzh1 ?zzh2 ?zzh3 ?zzh4) ?zz1 ?zz2 ?zz3 ?zz4 ?zz5 ?zzK ?zzd ?zzu ?_) | (refine' c0_use (c_tojd_s _ _ _ _ _ _ _ ?zzh1 ?zzh2 ?zzh3 ?zzh4) ?zz1 ?zz2 ?zz3 ?zz4 ?zz5 ?zzK ?zzd ?zzu ?_)); (case zzh1 => walk_at "m arith"); (case zzh2 => walk_at "m arith"); (case zzh3 => walk_at "m arith"); (case zzh4 => walk_at "m arith"); (case zz1 => k_asm); (case zz2 => k_asm); (case zz3 => k_asm); (case zz4 => k_asm); (case zz5 => k_asm); (case zzK => first | assumption | exact rfl); (case zzd => ktr_room); (case zzu => ktr_units)); intro v9 h9 tk9 F9 N9 P9; obtain ⟨x9, t9, j9, P9, q9, e9, b9, c9⟩ := P9; subst P9; (try k_sweep); (try dsimp only); (try k_fold)))

set_option maxHeartbeats 4000000 in
theorem c_cal_s (w : World) (y mo : Int) (t u z : Tok) (h1 : 533 ≤ y) (h2 : y ≤ 500000) (h3 : 1 ≤ mo) (h4 : mo ≤ 13) : Ctr PR w (hd.heap_39 w.params) 6 516 [.int y t, .int mo u, .str (Str.ofString "sarkawag") z] (fun _ => True) (fun add v => DatIn add v (leafJ (sarJ y mo) (sarLen y mo))) := by
  unfold Ctr
  intro p loose mean mg mb dp un gd cn cs a ccd cl outer A₀ base h₀ L m news s Q E B F X N T hk hd hu _ hret
  walk_at "m enter"
  k_steps
  refine hret _ _ _ _ (by k_asm) (by k_asm) (by assumption) ?_
  subst_vars
  rw [← leafJ_of]
  assumption


local macro_rules | `(tactic| walk_at "call ref") => `(tactic| (k_here; k_dflt ((first | (with_reducible refine' c_use (c_cal_s _ _ _ _ _ _ ?zzh1 ?zzh2 ?zzh3 ?zzh4) ?zz1 ?zz2 ?zz3 ?zz4 ?zz5 ?zzK ?zzd ?zzu trivial ?_) | (refine' c_use (c_cal_s _ _ _ _ _ _ ?zzh1 ?zzh2 ?zzh3 ?zzh4) ?zz1 ?zz2 ?zz3 ?zz4 ?zz5 ?zzK ?zzd ?zzu trivial ?_)); (case zzh1 => walk_at "m arith"); (case zzh2 => walk_at "m arith"); (case zzh3 => walk_at "m arith"); (case zzh4 => walk_at "m arith"); (case zz1 => k_asm); (case zz2 => k_asm); (case zz3 => k_asm); (case zz4 => k_asm); (case zz5 => k_asm); (case zzK => first | assumption | exact rfl); (case zzd => ktr_room); (case zzu => ktr_units)); intro v9 add9 h9 tk9 F9 N9 A9 P9; (try k_sweep); (try dsimp only); (try k_fold)))
end
end Mine
end
theorem Mine.anew2 : True := by
  w_top off
  trivial
section
open PySem PySem.W PyProof.Rows PySem.Calls PySem.Spec PyProof.Rows.LCg PyProof.Rows.LCt
set_option linter.unusedVariables false
set_option exponentiation.threshold 100
set_option maxRecDepth 100000
namespace Mine
local macro_rules | `(tactic| walk_at "m enter") => `(tactic| (refine wpAny_call ?_; k_dflt (first
  | ((first | (with_reducible refine' code_def ?k1 ?k2 ?k3 ?k4 ?k5 ?kA ?kF ?kK ?k6 ?k7 ?k8 ?k9 ?kB ?_ ?c2 ?c3 ?c4 ?c5) | (refine' code_def ?k1 ?k2 ?k3 ?k4 ?k5 ?kA ?kF ?kK ?k6 ?k7 ?k8 ?k9 ?kB ?_ ?c2 ?c3 ?c4 ?c5)); (case kA => exact rfl); (case kF => exact rfl); (case kK => first | assumption | exact rfl); (case k1 => k_asm); (case k2 => k_asm); (case k3 => k_asm); (case k4 => k_asm); (case k5 => k_asm); (case k6 => k_is); (case k7 => k_is); (case k8 => ktr_room); (case k9 => first | exact BindsTo.of_eq rfl | exact binds_K (by k_in) rfl (by k_is) rfl rfl rfl); (case c5 => decide); (case kB => exact locs rfl); (case c2 => exact rfl); (case c3 => exact rfl); (case c4 => exact rfl); k_whole; intro g' L' h' FG' F' N' B' X' T'; (try dsimp only); (try k_lift B'); (try k_fold))
  | ((first | (with_reducible refine' code_defC ?k1 ?k2 ?k3 ?k4 ?k5 ?kA ?kF ?kK ?k6 ?k7 ?k8 ?k9 ?kB ?kD ?_ ?c2 ?c3 ?c4) | (refine' code_defC ?k1 ?k2 ?k3 ?k4 ?k5 ?kA ?kF ?kK ?k6 ?k7 ?k8 ?k9 ?kB ?kD ?_ ?c2 ?c3 ?c4)); (case kA => exact rfl); (case kF => exact rfl); (case kK => first | assumption | exact rfl); (case k1 => k_asm); (case k2 => k_asm); (case k3 => k_asm); (case k4 => k_asm); (case k5 => k_asm); (case k6 => k_is); (case k7 => k_is); (case k8 => ktr_room); (case k9 => first | exact BindsTo.of_eq rfl | exact binds_K (by k_in) rfl (by k_is) rfl rfl rfl); (case kB => exact rfl); (case kD => decide +kernel); (case c2 => exact rfl); (case c3 => exact rfl); (case c4 => exact rfl); k_whole; intro g' L' h' tk' cells' FG' F' N' Y' B' X' T' l1; (have bn := (show Bnd L' _ from l1)); k_cells Y'; (try simp only [List.cons_append, List.nil_append] at N'); (try dsimp only); (try k_lift B'); (try k_fold)))))
local macro_rules | `(tactic| k_all) => `(tactic| exact Bnd.ne (by assumption) (by omega))
local macro_rules | `(tactic| k_mem) => `(tactic| first | assumption | (with_reducible refine List.mem_cons_of_mem _ ?_; k_mem) | (with_reducible refine List.mem_append_left _ ?_; k_mem) | (with_reducible refine List.mem_append_right _ ?_; k_mem))
local macro_rules | `(tactic| walk_at "m news") => `(tactic| first | k_asm | (refine' News.sub (by k_asm) ?_; intro p9 hp9; simp only [List.mem_cons, List.mem_append, hp9, or_true, true_or]))
local macro_rules | `(tactic| walk_at "m arith") => `(tactic| first | omega | ((try simp only [fmod_lit, fdiv_lit] at *); omega))
local macro_rules | `(tactic| walk_at "m len") => `(tactic| ((simp only [List.length_append, List.length_replicate, List.length_cons, List.length_nil, rangeKs_length]); (try simp only [IntsAre.length (by assumption)]); (try simp only [rangeKs_length, fmod_lit]); omega))
local macro_rules | `(tactic| walk_at "m size") => `(tactic| (rw [sizeLine_eq, List.size_toArray]; walk_at "m len"))
local macro_rules | `(tactic| walk_at "binaryOp Mult ref int") => `(tactic| (k_here; k_dflt ((first | (with_reducible refine' m_mul1 ?zzF ?zzN ?zzl ?zza ?zzb ?_) | (refine' m_mul1 ?zzF ?zzN ?zzl ?zza ?zzb ?_)); (case zzF => k_asm); (case zzN => k_asm); (case zzl => k_mem); (case zza => walk_at "m arith"); (case zzb => walk_at "m arith")); intro D' h' F' N' l1; (try k_lt l1); (try dsimp only)))
local macro_rules | `(tactic| walk_at "binaryOp Mult int ref") => `(tactic| (k_here; k_dflt ((first | (with_reducible refine' m_mul1r ?zzF ?zzN ?zzl ?zza ?zzb ?_) | (refine' m_mul1r ?zzF ?zzN ?zzl ?zza ?zzb ?_)); (case zzF => k_asm); (case zzN => k_asm); (case zzl => k_mem); (case zza => walk_at "m arith"); (case zzb => walk_at "m arith")); intro D' h' F' N' l1; (try k_lt l1); (try dsimp only)))
local macro_rules | `(tactic| walk_at "binaryOp Add ref ref") => `(tactic| (k_here; k_dflt ((first | (with_reducible refine' m_add ?zzF ?zzN ?zzl ?zzb ?zzz ?_) | (refine' m_add ?zzF ?zzN ?zzl ?zzb ?zzz ?_)); (case zzF => k_asm); (case zzN => k_asm); (case zzl => k_mem); (case zzb => k_mem); (case zzz => walk_at "m len")); intro D' h' F' N' l1; (try k_lt l1); (try dsimp only)))
local macro_rules | `(tactic| walk_at "call type:list") => `(tactic| (k_here; (with_reducible show wpAny _ _ (call (Value.type "list") [Value.ref _]) _ _ _); k_dflt ((first | (with_reducible refine' m_listRange ?zzhh ?zzF ?zzN ?zzr ?zzsm ?zzn ?zzle ?_) | (refine' m_listRange ?zzhh ?zzF ?zzN ?zzr ?zzsm ?zzn ?zzle ?_)); (case zzhh => exact rfl); (case zzF => k_asm); (case zzN => k_asm); (case zzr => assumption); (case zzn => exact range_size (by walk_at "m arith")); (case zzsm => exact range_small (by walk_at "m arith") (by walk_at "m arith")); (case zzle => walk_at "m arith")); intro D' h' tk' ys' c' F' N' l1 hI'; (try k_lt l1); (try dsimp only)))
local macro_rules | `(tactic| walk_at "m q4") => `(tactic| first
  | assumption
  | (first | exact q4_c0 | exact q4_c1 | exact q4_c2 | exact q4_c3 | exact q4_c4 | exact q4_c5 | exact q4_c6 | exact q4_c7 | exact q4_c8)
  | (with_reducible refine q4_ofInt _ ?_; walk_at "m arith")
  | (with_reducible refine q4_quarter _ ?_; walk_at "m arith")
  | (with_reducible apply q4_add; (focus walk_at "m q4"); (focus walk_at "m q4"); walk_at "m arith")
  | (with_reducible apply q4_sub; (focus walk_at "m q4"); (focus walk_at "m q4"); walk_at "m arith")
  | (with_reducible apply q4_mul; (focus walk_at "m q4"); (focus walk_at "m q4"); walk_at "m arith"))
local macro_rules | `(tactic| walk_at "call builtin:math.floor") => `(tactic| (k_here; (with_reducible show wpAny _ _ (call _ [Value.float _ _]) _ _ _); k_dflt (first
  | (refine m_floorG rfl (by assumption) (by assumption) (by omega) (by omega) ?_)
  | (refine m_floorJ rfl (by walk_at "m arith") (by walk_at "m arith") ?_)
  | ((first | (with_reducible refine' m_floor rfl ?zzq ?_) | (refine' m_floor rfl ?zzq ?_)); (case zzq => walk_at "m q4"))
  | (refine m_floorQuot rfl (by walk_at "m arith") (by walk_at "m arith") ?_)); (try dsimp only)))
local macro_rules | `(tactic| walk_at "call builtin:math.ceil") => `(tactic| (k_here; (with_reducible show wpAny _ _ (call _ [Value.float _ _]) _ _ _); k_dflt ((first | (with_reducible refine' m_ceil rfl ?zzq ?_) | (refine' m_ceil rfl ?zzq ?_)); (case zzq => walk_at "m q4")); (try dsimp only)))
local macro_rules | `(tactic| walk_at "call builtin:math.trunc") => `(tactic| (k_here; (with_reducible show wpAny _ _ (call _ [Value.float _ _]) _ _ _); k_dflt ((first | (with_reducible refine' m_trunc rfl ?zzq ?zzp ?_) | (refine' m_trunc rfl ?zzq ?zzp ?_)); (case zzq => walk_at "m q4"); (case zzp => walk_at "m arith")); (try dsimp only)))
local macro_rules | `(tactic| walk_at "compareOp In int ref") => `(tactic| (k_here; k_dflt ((first | (with_reducible refine' in_tuple_ints ?zzt ?zzi ?_) | (refine' in_tuple_ints ?zzt ?zzi ?_)); (case zzt => exact tupK (Frag.In.keeps (by k_asm) (Fr.keep (by k_asm))) (by k_is)); (case zzi => repeat constructor)); (try dsimp only)))
local macro_rules | `(tactic| walk_at "compareOp Eq int ref") => `(tactic| (k_here; k_dflt ((first | (with_reducible refine' m_eqOwn ?zzX ?zzu ?zzo ?zzt ?zzs ?zzf ?_) | (refine' m_eqOwn ?zzX ?zzu ?zzo ?zzt ?zzs ?zzf ?_)); (case zzX => exact Frag.In.keeps (by k_asm) (Fr.keep (by k_asm))); (case zzu => ktr_units); (case zzo => k_is); (case zzt => k_is); (case zzs => k_is); (case zzf => k_is)); (try dsimp only)))
local macro_rules | `(tactic| walk_at "call type:datetime.date") => `(tactic| (k_here; k_dflt ((first | (with_reducible refine' m_date ?zzF ?zzN ?zza ?zzb ?zzc ?zzd ?zze ?zzf ?_) | (refine' m_date ?zzF ?zzN ?zza ?zzb ?zzc ?zzd ?zze ?zzf ?_)); (case zzF => k_asm); (case zzN => k_asm); (case zza => walk_at "m arith"); (case zzb => walk_at "m arith"); (case zzc => walk_at "m arith"); (case zzd => walk_at "m arith"); (case zze => walk_at "m arith"); (case zzf => walk_at "m arith")); intro D' h' F' N' l1; (try k_lt l1); (try dsimp only)))
local macro_rules | `(tactic| walk_at "getMethod ref") => `(tactic| (k_here; (with_reducible show wpAny _ _ (getMethod (Value.ref _) (PySem.Str.ofString "weekday") _) _ _ _); k_dflt ((first | (with_reducible refine' m_weekdayM ?zzN ?zzm ?_) | (refine' m_weekdayM ?zzN ?zzm ?_)); (case zzN => k_asm); (case zzm => k_mem)); (try dsimp only)))
local macro_rules | `(tactic| walk_at "call builtin:datetime.date.weekday") => `(tactic| (k_here; k_dflt ((first | (with_reducible refine' m_weekday ?zzN ?zzm ?_) | (refine' m_weekday ?zzN ?zzm ?_)); (case zzN => k_asm); (case zzm => k_mem)); intro k' t' k0' k1'; (try dsimp only)))
local macro_rules | `(tactic| walk_at "subscriptTail Name") => `(tactic| (k_here; (with_reducible show wpAny _ _ (subscriptTail _ _ (Value.ref _) (Value.int _ _)) _ _ _); k_dflt ((first | (with_reducible refine' m_item_any ?zzt ?zza ?zzb ?zzc ?_) | (refine' m_item_any ?zzt ?zza ?zzb ?zzc ?_)); (case zzt => exact tupK (Frag.In.keeps (by k_asm) (Fr.keep (by k_asm))) (by k_is)); (case zza => assumption); (case zzb => (simp only [List.length_cons, List.length_nil]; omega)); (case zzc => decide)); intro v' m'; (try dsimp only)))
local macro_rules | `(tactic| walk_at "subscriptTail Name") => `(tactic| (k_here; (with_reducible show wpAny _ _ (subscriptTail _ _ (Value.ref _) (Value.int _ _)) _ _ _); k_dflt ((first | (with_reducible refine' m_item_int ?zzt ?zzi ?zza ?zzb ?zzc ?_) | (refine' m_item_int ?zzt ?zzi ?zza ?zzb ?zzc ?_)); (case zzt => exact lstK (Frag.In.keeps (by k_asm) (Fr.keep (by k_asm))) (by k_is)); (case zzi => repeat constructor); (case zza => omega); (case zzb => (simp only [List.length_cons, List.length_nil]; omega)); (case zzc => decide)); intro t'; (try dsimp only)))
section
local macro_rules | `(tactic| walk_at "call ref") => `(tactic| (k_here; k_dflt ((first | (with_reducible refine' c_use (c_rows _ _ _ _ _ ?zzx ?zzl) ?zz1 ?zz2 ?zz3 ?zz4 ?zz5 ?zzK ?zzd ?zzu ?zzp ?_) | (refine' c_use (c_rows _ _ _ _ _ ?zzx ?zzl) ?zz1 ?zz2 ?zz3 ?zz4 ?zz5 ?zzK ?zzd ?zzu ?zzp ?_)); (case zz1 => k_asm); (case zz2 => k_asm); (case zz3 => k_asm); (case zz4 => k_asm); (case zz5 => k_asm); (case zzp => k_mem); (case zzx => first | assumption | exact cells_all (by assumption) _); (case zzl => walk_at "m len"); (case zzK => first | assumption | exact rfl); (case zzd => ktr_room); (case zzu => ktr_units)); intro v9 add9 h9 tk9 F9 N9 A9 P9; (try k_sweep); (try dsimp only); (try k_fold)))
section
local macro_rules | `(tactic| walk_at "m len") => `(tactic| first | omega | ((simp only [List.length_append, List.length_replicate, List.length_cons, List.length_nil]); (try simp only [IntsAre.length (by assumption)]); (try simp only [rangeKs_length, fmod_lit]); omega))
set_option maxHeartbeats 4000000 in
theorem c_leaf (w : World) (noon n : Int) (t u : Tok) (h1 : 1 ≤ n) (h2 : n ≤ 31) :
    Ctr PR w (hd.heap_39 w.params) 2 614 [.int noon t, .int n u] (fun _ => True) (fun add v => DatIn add v (leafJ noon n)) := by
  unfold Ctr
  intro p loose mean mg mb dp un gd cn cs a ccd cl outer A₀ base h₀ L m news s Q E B F X N T hk hd hu _ hret
  walk_at "m enter"
  k_steps
  rename DatIn _ _ _ => P9
  rename Apart _ _ => A9
  rw [show (n + 1 - 1).toNat = n.toNat by omega, fmod_lit, ← leafL_rows] at P9
  refine hret _ _ _ _ (by k_asm) (News.sub (by k_asm) ?_) (A9.sub ?_) P9
  · intro p9 hp9
    rcases List.mem_append.mp hp9 with h | h <;> simp only [List.mem_append, List.mem_cons, h, true_or, or_true]
  · intro p9 hp9
    simp only [List.mem_cons, hp9, or_true]
end
end
section
section
local macro_rules | `(tactic| walk_at "exec For Name Name cons nil") => `(tactic| (k_here; (rename Fr _ _ _ _ => lF'); (with_unfolding_all refine' For_invVF lF' ?zz1 ?zz2 ?_; (case zz1 => exact rfl); (case zz2 => exact rfl); k_whole)))
local macro_rules | `(tactic| walk_at "exec Assign cons ListComp") => `(tactic| (k_here; k_dflt (refine LCg.Assign_ListComp_U (F₀ := by k_asm) (by rfl) (by with_unfolding_all rfl) (by with_unfolding_all rfl) (by decide) (by rfl) (by decide) (by rfl) (by rfl) (by rfl) ?_)))
local macro_rules | `(tactic| walk_at "eval ListComp") => `(tactic| (k_here; k_dflt (refine LCg.ListComp_U (F₀ := by k_asm) (by with_unfolding_all rfl) (by decide) (by rfl) (by decide) (by rfl) ?_)))
local macro_rules | `(tactic| walk_at "truthy ref") => `(tactic| (k_here; k_dflt (first
  | ((first | (with_reducible refine' m_truthyE ?zzN ?zzm ?_) | (refine' m_truthyE ?zzN ?zzm ?_)); (case zzN => k_asm); (case zzm => k_mem))
  | ((first | (with_reducible refine' m_truthyC ?zzN ?zzm ?zzz ?_) | (refine' m_truthyC ?zzN ?zzm ?zzz ?_)); (case zzN => k_asm); (case zzm => k_mem); (case zzz => omega)))))
local macro_rules | `(tactic| walk_at "CompSrc") => `(tactic| (k_dflt (first | ((first | (with_reducible refine' comp_valsM (n := 7) ?zzM rfl ?zzF ?zzN ?zzr ?zzs ?zzn ?zzl ?_ ?_) | (refine' comp_valsM (n := 7) ?zzM rfl ?zzF ?zzN ?zzr ?zzs ?zzn ?zzl ?_ ?_)); (case zzM => assumption); (case zzF => k_asm); (case zzN => k_asm); (case zzr => assumption); (case zzs => exact range_small (by omega) (by omega)); (case zzn => exact range_size (by omega)); (case zzl => omega)) | (refine' held ?_))))
local macro_rules | `(tactic| walk_at "ValEnd") => `(tactic| exact ⟨_, _, rfl, by k_asm, by k_asm, by assumption⟩)
local macro_rules | `(tactic| k_all) => `(tactic| assumption)
local macro_rules | `(tactic| walk_at "m len") => `(tactic| first | omega | ((simp only [List.length_append, List.length_replicate, List.length_cons, List.length_nil]); omega))
local macro_rules | `(tactic| walk_at "inplaceOp Add ref ref") => `(tactic| (k_here; k_dflt ((first | (with_reducible refine' m_iadd ?zzF ?zzN ?zzb ?zzU ?zzz ?_) | (refine' m_iadd ?zzF ?zzN ?zzb ?zzU ?zzz ?_)); (case zzF => k_asm); (case zzN => k_asm); (case zzb => k_mem); (case zzU => k_upd); (case zzz => walk_at "m len")); intro h' F' N'; (try k_sweep)))
local macro_rules | `(tactic| walk_at "call builtin:list.append") => `(tactic| (k_here; k_dflt ((first | (with_reducible refine' m_append ?zzF ?zzN ?zzU ?zzz ?_) | (refine' m_append ?zzF ?zzN ?zzU ?zzz ?_)); (case zzF => k_asm); (case zzN => k_asm); (case zzU => k_upd); (case zzz => walk_at "m len")); intro h' F' N'; (try k_sweep)))
local macro_rules | `(tactic| walk_at "call builtin:list.pop") => `(tactic| (k_here; k_dflt (first
  | ((first | (with_reducible refine' m_pop ?zzF ?zzN ?zzU ?zzz ?_) | (refine' m_pop ?zzF ?zzN ?zzU ?zzz ?_)); (case zzF => k_asm); (case zzN => k_asm); (case zzU => k_upd); (case zzz => walk_at "m len"))
  | ((first | (with_reducible refine' m_pop0 ?zzF ?zzN ?zzU ?zzz ?_) | (refine' m_pop0 ?zzF ?zzN ?zzU ?zzz ?_)); (case zzF => k_asm); (case zzN => k_asm); (case zzU => k_upd); (case zzz => walk_at "m len"))); intro h' F' N'; (try k_sweep)))
local macro_rules | `(tactic| walk_at "subscriptTail") => `(tactic| (k_here; k_dflt ((first | (with_reducible refine' m_itemN ?zzN ?zzm ?zza ?zzb ?zzx ?_) | (refine' m_itemN ?zzN ?zzm ?zza ?zzb ?zzx ?_)); (case zzN => k_asm); (case zzm => k_mem); (case zza => decide); (case zzx => assumption); (case zzb => walk_at "m len")); (try dsimp only)))
local macro_rules | `(tactic| walk_at "subscriptTail") => `(tactic| (k_here; k_dflt ((first | (with_reducible refine' m_itemP ?zzN ?zzm ?zza ?zzx ?_) | (refine' m_itemP ?zzN ?zzm ?zza ?zzx ?_)); (case zzN => k_asm); (case zzm => k_mem); (case zza => omega); (case zzx => assumption)); (try dsimp only)))
local macro_rules | `(tactic| walk_at "subscriptTail Name UnaryOp ref int") => `(tactic| (k_here; k_dflt ((first | (with_reducible refine' m_itemN ?zzN ?zzm ?zza ?zzb ?zzx ?_) | (refine' m_itemN ?zzN ?zzm ?zza ?zzb ?zzx ?_)); (case zzN => k_asm); (case zzm => k_mem); (case zza => decide); (case zzx => assumption); (case zzb => walk_at "m len")); (try dsimp only)))
local macro_rules | `(tactic| walk_at "subscriptTail Name") => `(tactic| (k_here; k_dflt ((first | (with_reducible refine' m_itemN ?zzN ?zzm ?zza ?zzb ?zzx ?_) | (refine' m_itemN ?zzN ?zzm ?zza ?zzb ?zzx ?_)); (case zzN => k_asm); (case zzm => k_mem); (case zza => decide); (case zzx => assumption); (case zzb => walk_at "m len")); (try dsimp only)))
local macro_rules | `(tactic| walk_at "subscriptTail Name") => `(tactic| (k_here; k_dflt ((first | (with_reducible refine' m_itemP ?zzN ?zzm ?zza ?zzx ?_) | (refine' m_itemP ?zzN ?zzm ?zza ?zzx ?_)); (case zzN => k_asm); (case zzm => k_mem); (case zza => omega); (case zzx => assumption)); (try dsimp only)))
local macro_rules | `(tactic| walk_at "subscriptTail Subscript") => `(tactic| (k_here; k_dflt ((first | (with_reducible refine' m_itemN ?zzN ?zzm ?zza ?zzb ?zzx ?_) | (refine' m_itemN ?zzN ?zzm ?zza ?zzb ?zzx ?_)); (case zzN => k_asm); (case zzm => k_mem); (case zza => decide); (case zzx => assumption); (case zzb => walk_at "m len")); (try dsimp only)))
local macro_rules | `(tactic| walk_at "subscriptTail Subscript") => `(tactic| (k_here; k_dflt ((first | (with_reducible refine' m_itemP ?zzN ?zzm ?zza ?zzx ?_) | (refine' m_itemP ?zzN ?zzm ?zza ?zzx ?_)); (case zzN => k_asm); (case zzm => k_mem); (case zza => omega); (case zzx => assumption)); (try dsimp only)))
set_option maxHeartbeats 4000000 in
theorem c_band (w : World) (lv : Addr) (lvs : List Value) (c : Nat) (lp : Nat) (ns : List Int) (h1 : lp < 7) (h2 : ∀ n ∈ ns, 1 ≤ n ∧ n ≤ 31) (h3 : ns.length ≤ 20) (h4 : 1 ≤ ns.length) :
    Ctr2 PR w (hd.heap_39 w.params) 1 619 [.ref lv] (fun news => (lv, listOf lvs.toArray c) ∈ news ∧ DatAll news lvs ((leavesL lp ns).map leafD)) (fun news add v => DatIn (add ++ news) v (leafD (rowsL (cellsL lp ns)))) := by
  unfold Ctr2
  intro p loose mean mg mb dp un gd cn cs a ccd cl outer A₀ base h₀ L m news s Q E B F X N T hk hd hu hpre hret
  obtain ⟨hm, hd9⟩ := hpre
  walk_at "m enter"
  k_steps
  rename Fr _ _ _ _ => lF9
  rename News _ _ _ _ => N9
  refine grow_list (BandJ _ _ _ _ news lp ns) rfl (by k_mem) lF9 N9 (band_init (by assumption) (by assumption)) ?zzt ?zzd
  case zzt =>
    intro i v m₁ news₁ h tk I oI hv hJ hkeep hoff F₁ N₁
    obtain ⟨hvars, bs, c9, o2, o1, x2, x1, new, rfl, e2, e1, hnew, hbs⟩ := hJ
    obtain ⟨u, u', rfl⟩ := vars_form hvars
    dsimp only [envOfC] at F₁ N₁
    have hi : i < ns.length := by
      have q := (List.getElem?_eq_some_iff.mp hv).1
      rw [datAll_len hd9, List.length_map, leavesL_length] at q
      exact q
    obtain ⟨v', hv', dv⟩ := datAll_get hd9 i (leafD (leafAt lp (ns.take i) (ns.getD i 0))) (by rw [List.getElem?_map, leavesL_get hi]; rfl)
    obtain rfl : v = v' := Option.some.inj (hv.symm.trans hv')
    obtain ⟨al, rs, k9, rfl, hal, hrs⟩ := datIn_list dv
    have hnI := List.forall_mem_cons.mp hoff
    have hnI2 := List.forall_mem_cons.mp hnI.2
    have hnI3 := List.forall_mem_cons.mp hnI2.2
    have hI1 := Ne.symm hnI.1
    have hI2 := Ne.symm hnI2.1
    have hI3 := Ne.symm hnI3.1
    dsimp only at hI1 hI2 hI3
    have cl1 := cellsL_len lp (ns.take i) fun n hn => h2 n (List.mem_of_mem_take hn)
    have cl2 : (ns.take i).length ≤ 20 := by rw [List.length_take]; omega
    have bl := datAll_len hbs
    have rl : rs.length ≤ 200 := by
      rw [datAll_len hrs, List.length_map, leafAt_rows, rowsL_length, List.length_append, List.length_replicate, dayNs_length]
      have := h2 (ns.getD i 0) (by rw [List.getD_eq_getElem?_getD, List.getElem?_eq_getElem hi]; exact List.getElem_mem hi)
      omega
    rename _ ∧ _ ∧ AllLt _ news => l9
    rename Bnd _ news => bn
    have hBd := fun (p : Addr × Obj) (hp : p ∈ new ++ news) => (List.mem_append.mp hp).elim (fun h => (hnew p h).1) (fun h => Nat.ne_of_lt (allLt_mem l9.2.2 p h))
    have hC2 := fun (p : Addr × Obj) (hp : p ∈ new ++ news) => (List.mem_append.mp hp).elim (fun h => (hnew p h).2.1) (fun h => Nat.ne_of_lt (Nat.lt_trans (bn p h) (Nat.lt_succ_of_lt (Nat.lt_succ_self _))))
    have hC1 := fun (p : Addr × Obj) (hp : p ∈ new ++ news) => (List.mem_append.mp hp).elim (fun h => (hnew p h).2.2.1) (fun h => Nat.ne_of_lt (Nat.lt_trans (bn p h) (Nat.lt_succ_self _)))
    rcases Nat.eq_zero_or_pos i with rfl | hpos
    · obtain rfl : bs = [] := by
        rw [if_pos rfl] at bl
        exact List.eq_nil_of_length_eq_zero bl
      k_steps
      unfold Held
      refine comp_copy rfl (by k_asm) (by k_asm) (by k_mem) (by omega) (fun _ => rfl) (fun _ => rfl) (by decide) ?_
      intro g D9 h9 tk9 F9 N9 o9
      obtain ⟨q1, q2, q3, q4, q5⟩ := off4 o9
      k_steps
      refine band_end (new := new) (bs := [] ++ rs) (c := cnt c9 rs) (by k_asm) (by k_asm) ?_ ?_ e2 e1 hnew ?_ hm (Ne.symm hI1) (Ne.symm hI2) (Ne.symm hI3) hnI3.2
      · intro p hp
        simp only [List.mem_cons] at hp ⊢
        rcases hp with h | h | h | h | h <;> simp [h]
      · intro z a b
        simp only [if_neg a, if_neg b]
        split <;> rfl
      · rw [← bandA h1 hi]
        exact hrs.mono fun p hp => List.mem_append_right _ hp
    rw [if_neg (Nat.pos_iff_ne_zero.mp hpos)] at hbs
    obtain ⟨d6, hd6⟩ := cellsL_last lp hpos (Nat.le_of_lt hi) h2
    have hcs : 0 < (cellsL lp (ns.take i)).length := by
      rcases Nat.eq_zero_or_pos (cellsL lp (ns.take i)).length with e | e
      · rw [cellAt_lt (by omega)] at hd6; cases hd6
      · exact e
    obtain ⟨ps, ya, lr, k8, c6, rfl, hya, hlr, hps, hl7, x1', x2', dc6⟩ := band_row hbs hcs
    rcases Nat.eq_zero_or_pos ((cellsL lp (ns.take i)).length % 7) with hr0 | hr0
    · rw [show 7 * (((cellsL lp (ns.take i)).length + 6) / 7 - 1) + 6 = (cellsL lp (ns.take i)).length - 1 by omega, hd6] at dc6
      obtain ⟨t6, rfl⟩ : ∃ t, c6 = .int d6 t := by
        rcases datIn_cell dc6 with ⟨_, q⟩ | ⟨i, t, q, r⟩
        · cases q
        · cases r; exact ⟨t, q⟩
      k_steps
      unfold Held
      refine comp_copy rfl (by k_asm) (by k_asm) (by k_mem) (by omega) (fun _ => rfl) (fun _ => rfl) (by decide) ?_
      intro g D9 h9 tk9 F9 N9 o9
      obtain ⟨q1, q2, q3, q4, q5⟩ := off4 o9
      k_steps
      refine band_end (new := new) (bs := (ps ++ [.ref ya]) ++ rs) (c := cnt c9 rs) (by k_asm) (by k_asm) ?_ ?_ e2 e1 hnew ?_ hm (Ne.symm hI1) (Ne.symm hI2) (Ne.symm hI3) hnI3.2
      · intro p hp
        simp only [List.mem_cons] at hp ⊢
        rcases hp with h | h | h | h | h <;> simp [h]
      · intro z a b
        simp only [if_neg a, if_neg b]
        split <;> rfl
      · rw [bandB hi hr0, List.map_append]
        exact hbs.append (hrs.mono fun p hp => List.mem_append_right _ hp)
    · rw [cellAt_lt (by omega)] at dc6
      obtain rfl : c6 = .none := by
        rcases datIn_cell dc6 with ⟨q, _⟩ | ⟨i, t, q, r⟩
        · exact q
        · cases r
      rw [leafAt_rows] at hrs
      obtain ⟨fa, rest, fr, k7, rfl, hfa, hfr, hrest⟩ := leaf_first hrs (by
        rw [List.length_append, List.length_replicate]; omega)
      have rl' : rest.length ≤ 200 := by rw [List.length_cons] at rl; omega
      have hq : (cellsL lp (ns.take i)).length = 7 * ((cellsL lp (ns.take i)).length / 7) + (cellsL lp (ns.take i)).length % 7 := by omega
      have hq2 : ((cellsL lp (ns.take i)).length + 6) / 7 - 1 = (cellsL lp (ns.take i)).length / 7 := by omega
      rw [hq2] at hlr hps
      k_steps
      unfold Held
      refine comp_copy rfl (by k_asm) (by k_asm) (by k_mem) (by omega) (fun _ => rfl) (fun _ => rfl) (by decide) ?_
      intro g D9 h9 tk9 F9 N9 o9
      obtain ⟨q1, q2, q3, q4, q5⟩ := off4 o9
      have mk : Mark (fun k => cellD (joinAt (rowAtL (cellsL lp (ns.take i)) ((cellsL lp (ns.take i)).length / 7)) (rowAtL (List.replicate ((cellsL lp (ns.take i)).length % 7) none ++ dayNs (ns.getD i 0).toNat) 0) k)) := trivial
      k_steps
      · unfold Held
        intro i9 ys9 t9 I9 oI9 C9 oC9 D8 m9 h8 tk8 E8 hi9 hC9 hx9 F8 N8
        obtain ⟨va, vb, xa, xb, ⟨rfl, d9⟩ | ⟨n9, t8, rfl, d9⟩⟩ := join_key hlr hfr hi9
        · k_steps
        · k_steps
      · unfold Held
        intro g8 ys dys DJ h8 tk8 F8 N8 o8
        obtain ⟨w1, w2, w3, w4, w5⟩ := off4 o8
        have iJ : ∀ p ∈ (DJ, lst ys) :: new ++ news, @Ne Nat p.1 I := by
          intro p hp
          rcases List.mem_cons.mp hp with rfl | hp
          · exact Ne.symm w2
          · exact hnI3.2 p hp
        k_steps
        refine band_end (new := (DJ, lst ys) :: new) (bs := (ps ++ [.ref DJ]) ++ rest) (c := cnt (c9 + 1 + 1) rest) (x2 := some (.ref fa)) (x1 := some (.ref ya)) (by k_asm) (by k_asm) ?_ ?_ (by assumption) (by assumption) (new_more hnew o8) ?_ hm (Ne.symm hI1) (Ne.symm hI2) (Ne.symm hI3) iJ
        · intro p hp
          simp only [List.mem_cons, List.cons_append] at hp ⊢
          rcases hp with h | h | h | h | h | h <;> simp [h]
        · intro z a b
          simp only [if_neg a, if_neg b]
          split <;> rfl
        · rw [cellsL_next hi]
          refine bandC (k := ys.length) hq hr0 (Nat.mod_lt _ (by decide)) (hbs.mono fun p hp => List.mem_cons_of_mem _ hp) hps (show (DJ, listOf ys.toArray ys.length) ∈ ((DJ, lst ys) :: new) ++ news from List.mem_append_left _ List.mem_cons_self) dys (hrest.mono fun p hp => List.mem_cons_of_mem _ (List.mem_append_right _ hp))
  case zzd =>
    intro m₁ news₁ h tk hJ hkeep F₁ N₁
    obtain ⟨hvars, bs, c9, o2, o1, x2, x1, new, rfl, e2, e1, hnew, hbs⟩ := hJ
    obtain ⟨u, u', rfl⟩ := vars_form hvars
    dsimp only [envOfC] at F₁ N₁
    have hlen : lvs.length = ns.length := by rw [datAll_len hd9, List.length_map, leavesL_length]
    rw [if_neg (by omega), hlen, List.take_length] at hbs
    rename _ ∧ _ ∧ AllLt _ news => l9
    k_steps
    refine hret _ ((_, listOf bs.toArray c9) :: new) _ _ (by k_asm) (News.sub (by k_asm) ?_) ?_ (.list List.mem_cons_self (hbs.mono fun p hp => List.mem_cons_of_mem _ hp))
    · intro p hp
      simp only [List.mem_cons, List.mem_append] at hp ⊢
      rcases hp with (h | h) | h <;> simp [h]
    · intro p hp q hq
      rcases List.mem_cons.mp hp with rfl | hp
      · exact Nat.ne_of_gt (allLt_mem l9.2.2 q hq)
      · exact (hnew p hp).2.2.2 q hq
end
end
section
local macro_rules | `(tactic| walk_at "call ref") => `(tactic| (k_here; k_dflt ((first | (with_reducible refine' c_use (c_rows _ _ _ _ _ ?zzx ?zzl) ?zz1 ?zz2 ?zz3 ?zz4 ?zz5 ?zzK ?zzd ?zzu ?zzp ?_) | (refine' c_use (c_rows _ _ _ _ _ ?zzx ?zzl) ?zz1 ?zz2 ?zz3 ?zz4 ?zz5 ?zzK ?zzd ?zzu ?zzp ?_)); (case zz1 => k_asm); (case zz2 => k_asm); (case zz3 => k_asm); (case zz4 => k_asm); (case zz5 => k_asm); (case zzp => k_mem); (case zzx => first | assumption | exact cells_all (by assumption) _); (case zzl => walk_at "m len"); (case zzK => first | assumption | exact rfl); (case zzd => ktr_room); (case zzu => ktr_units)); intro v9 add9 h9 tk9 F9 N9 A9 P9; (obtain ⟨a9, e9⟩ := rows_ref P9); subst e9; (try k_sweep); (try dsimp only); (try k_fold)))
local macro_rules | `(tactic| walk_at "call ref") => `(tactic| (k_here; k_dflt ((first | (with_reducible refine' c_use (c_leaf _ _ _ _ _ ?zzx ?zzl) ?zz1 ?zz2 ?zz3 ?zz4 ?zz5 ?zzK ?zzd ?zzu trivial ?_) | (refine' c_use (c_leaf _ _ _ _ _ ?zzx ?zzl) ?zz1 ?zz2 ?zz3 ?zz4 ?zz5 ?zzK ?zzd ?zzu trivial ?_)); (case zz1 => k_asm); (case zz2 => k_asm); (case zz3 => k_asm); (case zz4 => k_asm); (case zz5 => k_asm); (case zzx => assumption); (case zzl => assumption); (case zzK => first | assumption | exact rfl); (case zzd => ktr_room); (case zzu => ktr_units)); intro v9 add9 h9 tk9 F9 N9 A9 P9; (obtain ⟨a9, e9⟩ := leafJ_ref P9); subst e9; (try k_sweep); (try dsimp only); (try k_fold)))
local macro_rules | `(tactic| walk_at "call ref") => `(tactic| (k_here; k_dflt ((first | (with_reducible refine' c2_use (c_band _ _ _ _ _ _ ?zzx ?zzl ?zzm ?zzn) ?zz1 ?zz2 ?zz3 ?zz4 ?zz5 ?zzK ?zzd ?zzu ?zzp ?_) | (refine' c2_use (c_band _ _ _ _ _ _ ?zzx ?zzl ?zzm ?zzn) ?zz1 ?zz2 ?zz3 ?zz4 ?zz5 ?zzK ?zzd ?zzu ?zzp ?_)); (case zz1 => k_asm); (case zz2 => k_asm); (case zz3 => k_asm); (case zz4 => k_asm); (case zz5 => k_asm); (case zzp => refine' ⟨?_, DatAll.mono ?_ (by assumption)⟩; (focus k_mem); walk_at "m sub"); (case zzx => assumption); (case zzl => assumption); (case zzm => assumption); (case zzn => assumption); (case zzK => first | assumption | exact rfl); (case zzd => ktr_room); (case zzu => ktr_units)); intro v9 add9 h9 tk9 F9 N9 A9 P9; (obtain ⟨a9, e9⟩ := rows_ref P9); subst e9; (try k_sweep); (try dsimp only); (try k_fold)))
section
local macro_rules | `(tactic| walk_at "m none") => `(tactic| fail)
local macro_rules | `(tactic| walk_at "exec For Name Call cons nil") => `(tactic| (k_here; (rename Fr _ _ _ _ => lF'); (with_unfolding_all refine' For_invVF lF' ?zz1 ?zz2 ?_; (case zz1 => exact rfl); (case zz2 => exact rfl); k_whole)))
local macro_rules | `(tactic| walk_at "pyIter ref") => `(tactic| (refine' held ?_))
local macro_rules | `(tactic| k_upd) => `(tactic| ((first | (with_reducible refine' upd_app ?zzap ?zzup) | (refine' upd_app ?zzap ?zzup)); (case zzap => exact apart_ne (by assumption) (by k_mem)); (case zzup => k_upd)))
local macro_rules | `(tactic| k_ne) => `(tactic| exact all_lt_ne (by assumption) (by k_mem))
local macro_rules | `(tactic| k_all) => `(tactic| assumption)
local macro_rules | `(tactic| walk_at "m sub") => `(tactic| (intro p9 hp9; first | exact hp9 | exact List.mem_append_left _ hp9 | exact List.mem_append_right _ hp9 | simp only [List.mem_cons, List.mem_append, hp9, or_true, true_or]))
local macro_rules | `(tactic| walk_at "m len") => `(tactic| first | omega | ((try simp only [List.length_append, List.length_replicate, List.length_cons, List.length_nil]); (try simp only [IntsAre.length (by assumption)]); (try simp only [rangeKs_length]); omega))
local macro_rules | `(tactic| walk_at "call builtin:len") => `(tactic| (k_here; k_dflt ((first | (with_reducible refine' m_len ?zzN ?zzm ?zzf ?_) | (refine' m_len ?zzN ?zzm ?zzf ?_)); (case zzN => k_asm); (case zzm => k_mem); (case zzf => walk_at "m len")); (try dsimp only)))
local macro_rules | `(tactic| walk_at "inplaceOp Add ref ref") => `(tactic| (k_here; k_dflt ((first | (with_reducible refine' m_iadd ?zzF ?zzN ?zzb ?zzU ?zzz ?_) | (refine' m_iadd ?zzF ?zzN ?zzb ?zzU ?zzz ?_)); (case zzF => k_asm); (case zzN => k_asm); (case zzb => k_mem); (case zzU => k_upd); (case zzz => walk_at "m len")); intro h' F' N'; (try k_sweep)))
local macro_rules | `(tactic| walk_at "subscriptTail") => `(tactic| (k_here; k_dflt ((first | (with_reducible refine' m_itemP ?zzN ?zzm ?zza ?zzx ?_) | (refine' m_itemP ?zzN ?zzm ?zza ?zzx ?_)); (case zzN => k_asm); (case zzm => k_mem); (case zza => omega); (case zzx => assumption)); (try dsimp only)))
local macro_rules | `(tactic| walk_at "compareOp NotEq ref ref") => `(tactic| (k_here; k_dflt ((first | (with_reducible refine' m_neLeafS ?zzN ?zza ?zzb ?zzc ?zzd ?zze ?zzf ?zzg ?zzj ?_) | (refine' m_neLeafS ?zzN ?zza ?zzb ?zzc ?zzd ?zze ?zzf ?zzg ?zzj ?_)); (case zzN => k_asm); (case zza => assumption); (case zzc => assumption); (case zzb => walk_at "m sub"); (case zzd => walk_at "m sub"); (case zze => ktr_units); (case zzf => assumption); (case zzg => assumption); (case zzj => assumption)); (try dsimp only)))
local macro_rules | `(tactic| walk_at "compareOp Eq ref ref") => `(tactic| (k_here; k_dflt ((first | (with_reducible refine' m_eqRowsS ?zzN ?zza ?zzb ?zzc ?zzd ?zze ?_) | (refine' m_eqRowsS ?zzN ?zza ?zzb ?zzc ?zzd ?zze ?_)); (case zzN => k_asm); (case zza => assumption); (case zzc => assumption); (case zzb => walk_at "m sub"); (case zzd => walk_at "m sub"); (case zze => ktr_units)); (try dsimp only)))
set_option maxHeartbeats 4000000 in
theorem c_right (w : World) (lv sv : Addr) (lvs svs : List Value) (c1 c2 : Nat) (noon : Int) (t : Tok) (ns : List Int) (J : Nat → Int) (h2 : ∀ n ∈ ns, 1 ≤ n ∧ n ≤ 31) (h3 : ns.length ≤ 20) (h4 : 1 ≤ ns.length)
    (hJ : ∀ i, i < ns.length → J i % 7 = (noon + (ns.take i).sum) % 7) (hs : IntsAre svs ns) :
    Ctr PR w (hd.heap_39 w.params) 3 626 [.ref lv, .int noon t, .ref sv] (fun news => (lv, listOf lvs.toArray c1) ∈ news ∧ DatAll news lvs ((List.range ns.length).map fun i => leafJ (J i) (ns.getD i 0)) ∧ (sv, listOf svs.toArray c2) ∈ news) (fun add v => v = .bool true) := by
  unfold Ctr
  intro p loose mean mg mb dp un gd cn cs a ccd cl outer A₀ base h₀ L m news s Q E B F X N T hk hd hu hpre hret
  obtain ⟨hml, hdl, hms⟩ := hpre
  have hlp : ((noon + 1) % 7).toNat < 7 := by omega
  have hdL := hdl
  rw [leaves_same h2 hJ] at hdL
  have hsl : svs.length = ns.length := hs.length
  have hsg := fun (i : Nat) (hi : i < ns.length) => ints_get hs hi
  clear hs
  walk_at "m enter"
  k_steps
  unfold Held
  rename Fr _ _ _ _ => lF9
  rename News _ _ _ _ => N9
  rename _ ∧ AllLt _ news => l9
  refine grow_range (n := ns.length) (RightJ _ _ _ noon ((noon + 1) % 7).toNat ns) rfl (by assumption) (range_small (by omega) (by omega)) (range_size (by omega)) lF9 N9 (right_init (by rw [fmod_lit])) ?zzt ?zzd
  case zzt =>
    intro i t9 m₁ news₁ h tk I oI hi hJ9 hoff F₁ N₁
    obtain ⟨hvars, ⟨d, td, hday, ed⟩, cv, c9, rfl, dcv⟩ := hJ9
    obtain ⟨u, rfl⟩ := right_form hvars hday
    dsimp only [envOfC, envOf] at F₁ N₁
    obtain ⟨al, xa, da⟩ := leaf_get hdl hi
    obtain ⟨tn, xn⟩ := hsg i hi
    have hn := h2 _ (getD_mem hi)
    obtain ⟨hn1, hn2⟩ := hn
    have hj9 : J i % 7 = d % 7 := by rw [ed]; exact hJ i hi
    have cl1 := cellsL_len ((noon + 1) % 7).toNat (ns.take i) fun n hn => h2 n (List.mem_of_mem_take hn)
    have cl2 : (ns.take i).length ≤ 20 := by rw [List.length_take]; omega
    have cl3 := datAll_len dcv
    rw [List.length_map] at cl3
    have hnI := List.forall_mem_cons.mp hoff
    have hnI2 := List.forall_mem_cons.mp hnI.2
    have hI1 := Ne.symm hnI.1
    have hI2 := Ne.symm hnI2.1
    dsimp only at hI1 hI2
    k_steps
    rename IntsAre _ _ => hI9
    rw [show (ns.getD i 0 + 1 - 1).toNat = (ns.getD i 0).toNat by omega] at hI9
    refine' right_end (cv := cv) (c := c9) hi ?zyF ?zyN ?zys ?zyv ?zyd ?zye dcv (days_one hI9) hnI.2 (Ne.symm hI1)
    case zyF => k_asm
    case zyN => k_asm
    case zyd => exact rfl
    case zys =>
      intro p hp
      simp only [List.mem_cons, List.mem_append] at hp ⊢
      rcases hp with h | h | h | h <;> simp [h]
    case zyv =>
      intro z a b
      simp only [if_neg a, if_neg b]
      split <;> rfl
    case zye => omega
  case zzd =>
    intro m₁ news₁ h tk hJ9 F₁ N₁
    obtain ⟨hvars, ⟨d, td, hday, ed⟩, cv, c9, rfl, dcv⟩ := hJ9
    obtain ⟨u, rfl⟩ := right_form hvars hday
    dsimp only [envOfC, envOf] at F₁ N₁
    rw [List.take_length] at dcv ed
    have cl1 := cellsL_len ((noon + 1) % 7).toNat ns h2
    have cl3 := datAll_len dcv
    rw [List.length_map] at cl3
    k_steps
    exact hret _ [] _ _ (by k_asm) (News.sub (by k_asm) (fun p9 hp9 => by simp only [List.mem_cons, List.mem_append, List.nil_append] at hp9 ⊢; simp only [hp9, or_true])) (fun p9 hp9 => absurd hp9 List.not_mem_nil) rfl
end
end
section
section
local macro_rules | `(tactic| walk_at "call builtin:len") => `(tactic| (k_here; k_dflt ((first | (with_reducible refine' m_len ?zzN ?zzm ?zzf ?_) | (refine' m_len ?zzN ?zzm ?zzf ?_)); (case zzN => k_asm); (case zzm => exact List.mem_cons_self); (case zzf => omega)); (try dsimp only)))
local macro_rules | `(tactic| walk_at "exec Assign cons ListComp") => `(tactic| (refine' held ?_))
local macro_rules | `(tactic| walk_at "call builtin:divmod") => `(tactic| (k_here; k_dflt ((first | (with_reducible refine' m_divmod ?zzF ?zzN ?zza ?zzb ?_) | (refine' m_divmod ?zzF ?zzN ?zza ?zzb ?_)); (case zzF => k_asm); (case zzN => k_asm); (case zza => omega); (case zzb => omega)); intro D' h' t1' t2' tk' F' N' l1; (try k_lt l1); (try dsimp only)))
set_option maxHeartbeats 4000000 in
theorem c_long (w : World) (y : Int) (t : Tok) : Ctr0 PR w (hd.heap_39 w.params) 1 633 [.int y t] (fun v => v = .bool (isleapB y)) := by
  unfold Ctr0
  intro p loose mean mg mb dp un gd cn cs a ccd cl outer A₀ base h₀ L m news s Q E B F X N T hk hd hu hret
  walk_at "m enter"
  k_steps
  all_goals exact hret _ _ _ (by k_asm) (by walk_at "m news") (congrArg Value.bool (by first | exact long1 (by assumption) | exact long2 (by assumption) (by assumption) | exact long3 (by assumption)))
set_option maxHeartbeats 4000000 in
theorem c_sizes (w : World) (b : Bool) : Ctr PR w (hd.heap_39 w.params) 1 640 [.bool b] (fun _ => True) (fun add v => ∃ D vs c, v = .ref D ∧ (D, listOf vs.toArray c) ∈ add ∧ IntsAre vs [31, if b then 29 else 28, 31, 30, 31, 30, 31, 31, 30, 31, 30, 31]) := by
  unfold Ctr
  intro p loose mean mg mb dp un gd cn cs a ccd cl outer A₀ base h₀ L m news s Q E B F X N T hk hd hu _ hret
  walk_at "m enter"
  k_steps
  all_goals exact fin_one hret (by k_asm) (by k_asm) List.mem_cons_self (fun p9 hp9 => List.mem_cons_of_mem _ hp9) (by first | assumption | exact allLt_of (by assumption)) ⟨_, _, _, rfl, List.mem_singleton.mpr rfl, (by first | (rw [if_pos (by assumption)]; repeat constructor) | (rw [if_neg (by first | assumption | (intro q9; first | exact absurd q9 (by assumption) | (rw [(by assumption : b = false)] at q9; cases q9))) ]; repeat constructor))⟩
set_option maxHeartbeats 4000000 in
theorem c_january (w : World) (y : Int) (t : Tok) (h1 : 1 ≤ y) (h2 : y ≤ 100000) : Ctr0 PR w (hd.heap_39 w.params) 1 647 [.int y t] (fun v => ∃ u, v = .int (1721426 + 146097 * ((y - 1) / 400) + 365 * ((y - 1) % 400) + (y - 1) % 400 / 4 - (y - 1) % 400 / 100) u) := by
  unfold Ctr0
  intro p loose mean mg mb dp un gd cn cs a ccd cl outer A₀ base h₀ L m news s Q E B F X N T hk hd hu hret
  walk_at "m enter"
  k_steps
  exact hret _ _ _ (by k_asm) (by walk_at "m news") ⟨_, by simp only [fmod_lit, fdiv_lit]; rfl⟩
set_option maxHeartbeats 1000000 in
theorem c_muharram (w : World) (y : Int) (t : Tok) (h1 : 1 ≤ y) (h2 : y ≤ 100000) : Ctr0 PR w (hd.heap_39 w.params) 1 652 [.int y t] (fun v => ∃ u, v = .int (1948440 + 10631 * ((y - 1) / 30) + 354 * ((y - 1) % 30) + (([2, 5, 7, 10, 13, 16, 18, 21, 24, 26, 29].filter fun x => decide (x ≤ (y - 1) % 30)).length : Nat)) u) := by
  unfold Ctr0
  intro p loose mean mg mb dp un gd cn cs a ccd cl outer A₀ base h₀ L m news s Q E B F X N T hk hd hu hret
  walk_at "m enter"
  k_steps
  unfold Held
  refine' assign_tup ?hF ?h0 ?h1 ?h2 ?h5 ?h6 ?h7 ?h8 ?h9 ?h10 ?h4 ?h3
  case hF => k_asm
  case h0 => rfl
  case h6 => rfl
  case h8 => rfl
  case h9 => rfl
  case h10 => rfl
  case h5 => decide
  case h7 => decide
  case h2 => with_unfolding_all rfl
  case h3 => intro _; rfl
  case h1 => with_unfolding_all rfl
  k_steps
  refine comp_tup (ks := [2, 5, 7, 10, 13, 16, 18, 21, 24, 26, 29]) (fun x => decide (x ≤ (y - 1) % 30)) rfl (by k_asm) (by k_asm) List.mem_cons_self (by repeat constructor) (by decide) ?_ ?_
  · unfold Held
    intro k I oI C oC D ys t9 m₂ h tk E' hC hx F9 N9
    k_steps
    · exact ⟨decide_eq_true (by have q := (by assumption : k ≤ (y - 1).fmod 30); rw [fmod_lit] at q; exact q), ⟨_, rfl⟩, _, _, rfl, by k_asm, by k_asm⟩
    · exact ⟨decide_eq_false (by have q := (by assumption : ¬ k ≤ (y - 1).fmod 30); rw [fmod_lit] at q; exact q), _, _, rfl, by k_asm, by k_asm⟩
  · unfold Held
    intro g ys hys D h tk F9 N9 o9
    have hyl := hys.length
    have hyl2 : ys.length ≤ 11 := by rw [hyl]; exact List.length_filter_le _ _
    k_steps
    exact hret _ _ _ (by k_asm) (by walk_at "m news") ⟨_, by rw [← hyl]; simp only [fmod_lit, fdiv_lit]; rfl⟩
end
end
theorem right_use {w : World} {p : Program} {loose : List Str} {mean : ExcName → Option Value} {mg mb : Str → Option Value} {dp un : Nat} {gd : Option (List Code)} {cn : Str} {cs : Scope} {a : Addr} {ccd : Value} {cl : List (Str × Addr)} {outer : List Env} {A₀ : Around} {base h₀ : Heap} {L : Addr} {m : Str → Option Value} {news : Led} {s : Shared} {Q E : Value → Shared → Prop}
    {lv sv : Addr} {lvs svs : List Value} {c1 c2 : Nat} {noon : Int} {t : Tok} {n : Nat} {led : Led} (J : Nat → Int) (ns : List Int)
    (N : News h₀ L s.heap news) (B : Below A₀ base outer h₀) (F : Fr h₀ L s.heap m) (X : (hd.heap_39 w.params).In h₀) (T : Top p loose mean mg mb h₀) (hk : cs.kind = .function) (hd : dp + 3 < recursionLimit) (hu : un + (8 * 3 + 80) < cLine)
    (zm : (lv, listOf lvs.toArray c1) ∈ news) (zs : (sv, listOf svs.toArray c2) ∈ news) (E9 : DatAll led lvs ((List.range n).map fun i => leafJ (J i) (ns.getD i 0))) (sub : ∀ p ∈ led, p ∈ news) (hs : IntsAre svs ns)
    (hn : n = ns.length) (h2 : ∀ n ∈ ns, 1 ≤ n ∧ n ≤ 31) (h3 : ns.length ≤ 20) (h4 : 1 ≤ ns.length) (hJ : ∀ i, i < n → J i % 7 = (noon + (ns.take i).sum) % 7)
    (ret : ∀ (add : Led) (h' : Heap) (tk' : Nat), Fr h₀ L h' m → News h₀ L h' (add ++ news) → Apart add news → Q (.bool true) { s with heap := h', toks := tk' }) :
    wpAny (model PR w) (ktrTop dp un gd cn cs L a ccd cl outer) (call (.ref 626) [.ref lv, .int noon t, .ref sv]) Q E s := by
  subst hn
  refine c_use (c_right w lv sv lvs svs c1 c2 noon t ns J h2 h3 h4 hJ hs) B F X N T hk hd hu ⟨zm, DatAll.mono sub E9, zs⟩ ?_
  intro v add h' tk' F' N' A' P'
  subst P'
  exact ret add h' tk' F' N' A'
theorem nsT_b (l : Int) (h1 : 1 ≤ l) (h2 : l ≤ 31) : ∀ n ∈ nsT l, 1 ≤ n ∧ n ≤ 31 := by
  intro n hn
  simp only [nsT, List.mem_cons, List.not_mem_nil, or_false] at hn
  omega
theorem nsM_b (l : Int) (h1 : 1 ≤ l) (h2 : l ≤ 31) : ∀ n ∈ nsM l, 1 ≤ n ∧ n ≤ 31 := by
  intro n hn
  simp only [nsM, List.mem_cons, List.not_mem_nil, or_false] at hn
  omega
theorem nsI_b : ∀ n ∈ nsI, 1 ≤ n ∧ n ≤ 31 := by decide
end Mine
end
theorem Mine.anew3 : True := by
  w_top off
  trivial
section
open PySem PySem.W PyProof.Rows PySem.Calls PySem.Spec PyProof.Rows.LCg PyProof.Rows.LCt
set_option linter.unusedVariables false
set_option exponentiation.threshold 100
set_option maxRecDepth 100000
namespace Mine
section
local macro_rules | `(tactic| walk_at "m arith") => `(tactic| omega)
local macro_rules | `(tactic| walk_at "m news") => `(tactic| first | k_asm | (refine' News.sub (by k_asm) ?_; intro p9 hp9; simp only [List.mem_cons, List.mem_append, hp9, or_true, true_or]))
local macro_rules | `(tactic| walk_at "m sub") => `(tactic| (intro p9 hp9; first | exact hp9 | exact List.mem_append_left _ hp9 | exact List.mem_append_right _ hp9 | simp only [List.mem_cons, List.mem_append, hp9, or_true, true_or]))
local macro_rules | `(tactic| k_mem) => `(tactic| first | with_reducible assumption | (with_reducible refine List.mem_cons_of_mem _ ?_; k_mem) | (with_reducible refine List.mem_append_left _ ?_; k_mem) | (with_reducible refine List.mem_append_right _ ?_; k_mem))
local macro_rules | `(tactic| walk_at "binaryOp Mod int int") => `(tactic| (k_here; (with_reducible show wpAny _ _ (binaryOp _ (Value.int _ _) (Value.int 9000 _)) _ _ _); k_dflt ((first | (with_reducible refine' m_modAny (d := 9000) ?zza ?_) | (refine' m_modAny (d := 9000) ?zza ?_)); (case zza => decide)); intro c9 c0 c1; (try dsimp only)))
local macro_rules | `(tactic| walk_at "m mem") => `(tactic| first | with_reducible assumption | with_reducible exact List.mem_cons_self | (with_reducible refine List.mem_cons_of_mem _ ?_; walk_at "m mem") | (with_reducible refine List.mem_append_right _ ?_; walk_at "m mem") | (with_reducible refine List.mem_append_left _ ?_; walk_at "m mem"))
local macro_rules | `(tactic| walk_at "eval Name") => `(tactic| (k_here; (fail_if_success (with_reducible show wpAny _ _ (eval (Expr.Name _ _) (compEnvC _ _ _ _)) _ _ _)); k_dflt ((first | (with_reducible refine' nameX_C ?zzN ?zzc ?zzm ?zzd ?_ ?zza ?zzb) | (refine' nameX_C ?zzN ?zzc ?zzm ?zzd ?_ ?zza ?zzb)); (case zza => rfl); (case zzb => rfl); (case zzN => k_asm); (case zzc => rfl); (case zzm => walk_at "m mem"); (case zzd => with_reducible assumption); k_whole)))
local macro_rules | `(tactic| walk_at "eval Name") => `(tactic| (k_here; (with_reducible show wpAny _ _ (eval (Expr.Name _ _) (compEnvC _ _ _ _)) _ _ _); k_dflt (first | ((first | (with_reducible refine' lcf_cell ?zzN ?zzc ?zzm ?zzd ?_ ?zza ?zzb) | (refine' lcf_cell ?zzN ?zzc ?zzm ?zzd ?_ ?zza ?zzb)); (case zza => rfl); (case zzb => rfl); (case zzN => k_asm); (case zzc => rfl); (case zzm => walk_at "m mem"); (case zzd => with_reducible assumption); k_whole) | ((first | (with_reducible refine' lcf_free ?zzN ?zzc ?zzm ?zzd ?_ ?zza ?zzb) | (refine' lcf_free ?zzN ?zzc ?zzm ?zzd ?_ ?zza ?zzb)); (case zza => rfl); (case zzb => rfl); (case zzN => k_asm); (case zzc => rfl); (case zzm => walk_at "m mem"); (case zzd => with_reducible assumption); k_whole))))
local macro_rules | `(tactic| walk_at "call type:range") => `(tactic| (k_here; k_dflt ((first | (with_reducible refine' m_range2 ?zzF ?zzN ?_) | (refine' m_range2 ?zzF ?zzN ?_)); (case zzF => k_asm); (case zzN => k_asm)); intro D' h' v' tk' F' N' l1; (try k_lt l1); (try dsimp only)))
local macro_rules | `(tactic| walk_at "CompSrc") => `(tactic| (refine' held ?_))
local macro_rules | `(tactic| walk_at "ElEnd") => `(tactic| exact ⟨_, _, _, rfl, by k_asm, by k_asm, by assumption, by assumption⟩)
local macro_rules | `(tactic| walk_at "exec Assign cons ListComp") => `(tactic| (k_here; k_dflt ((first | (with_reducible refine' LCg.Assign_ListComp_U ?zzF ?zz0 ?zz1 ?zz2 ?zz3 ?zz4 ?zz5 ?zz6 ?zz7 ?zz8 ?_ ?zz9) | (refine' LCg.Assign_ListComp_U ?zzF ?zz0 ?zz1 ?zz2 ?zz3 ?zz4 ?zz5 ?zz6 ?zz7 ?zz8 ?_ ?zz9)); (case zzF => k_asm); (case zz0 => rfl); (case zz4 => rfl); (case zz6 => rfl); (case zz7 => rfl); (case zz8 => rfl); (case zz3 => decide); (case zz5 => decide); (case zz2 => with_unfolding_all rfl); (case zz9 => (intro _; rfl)); (case zz1 => with_unfolding_all rfl))))
local macro_rules | `(tactic| walk_at "call ref") => `(tactic| (k_here; k_dflt ((first | (with_reducible refine' c_use (c_cal_g _ _ _ _ _ ?zzh1 ?zzh2 ?zzh3 ?zzh4) ?zz1 ?zz2 ?zz3 ?zz4 ?zz5 ?zzK ?zzd ?zzu trivial ?_) | (refine' c_use (c_cal_g _ _ _ _ _ ?zzh1 ?zzh2 ?zzh3 ?zzh4) ?zz1 ?zz2 ?zz3 ?zz4 ?zz5 ?zzK ?zzd ?zzu trivial ?_)); (case zzh1 => walk_at "m arith"); (case zzh2 => walk_at "m arith"); (case zzh3 => walk_at "m arith"); (case zzh4 => walk_at "m arith"); (case zz1 => k_asm); (case zz2 => k_asm); (case zz3 => k_asm); (case zz4 => k_asm); (case zz5 => k_asm); (case zzK => first | assumption | exact rfl); (case zzd => ktr_room); (case zzu => ktr_units)); intro v9 add9 h9 tk9 F9 N9 A9 P9; (obtain ⟨a9, e9⟩ := leafJ_ref P9); subst e9; (try k_sweep); (try dsimp only); (try k_fold)))
local macro_rules | `(tactic| walk_at "call ref") => `(tactic| (k_here; k_dflt ((first | (with_reducible refine' c_use (c_cal_i _ _ _ _ _ ?zzh1 ?zzh2 ?zzh3 ?zzh4) ?zz1 ?zz2 ?zz3 ?zz4 ?zz5 ?zzK ?zzd ?zzu trivial ?_) | (refine' c_use (c_cal_i _ _ _ _ _ ?zzh1 ?zzh2 ?zzh3 ?zzh4) ?zz1 ?zz2 ?zz3 ?zz4 ?zz5 ?zzK ?zzd ?zzu trivial ?_)); (case zzh1 => walk_at "m arith"); (case zzh2 => walk_at "m arith"); (case zzh3 => walk_at "m arith"); (case zzh4 => walk_at "m arith"); (case zz1 => k_asm); (case zz2 => k_asm); (case zz3 => k_asm); (case zz4 => k_asm); (case zz5 => k_asm); (case zzK => first | assumption | exact rfl); (case zzd => ktr_room); (case zzu => ktr_units)); intro v9 add9 h9 tk9 F9 N9 A9 P9; (obtain ⟨a9, e9⟩ := leafJ_ref P9); subst e9; (try k_sweep); (try dsimp only); (try k_fold)))
local macro_rules | `(tactic| walk_at "call ref") => `(tactic| (k_here; k_dflt ((first | (with_reducible refine' c_use (c_cal_j _ _ _ _ _ ?zzh1 ?zzh2 ?zzh3 ?zzh4) ?zz1 ?zz2 ?zz3 ?zz4 ?zz5 ?zzK ?zzd ?zzu trivial ?_) | (refine' c_use (c_cal_j _ _ _ _ _ ?zzh1 ?zzh2 ?zzh3 ?zzh4) ?zz1 ?zz2 ?zz3 ?zz4 ?zz5 ?zzK ?zzd ?zzu trivial ?_)); (case zzh1 => walk_at "m arith"); (case zzh2 => walk_at "m arith"); (case zzh3 => walk_at "m arith"); (case zzh4 => walk_at "m arith"); (case zz1 => k_asm); (case zz2 => k_asm); (case zz3 => k_asm); (case zz4 => k_asm); (case zz5 => k_asm); (case zzK => first | assumption | exact rfl); (case zzd => ktr_room); (case zzu => ktr_units)); intro v9 add9 h9 tk9 F9 N9 A9 P9; (obtain ⟨a9, e9⟩ := leafJ_ref P9); subst e9; (try k_sweep); (try dsimp only); (try k_fold)))
local macro_rules | `(tactic| walk_at "call ref") => `(tactic| (k_here; k_dflt ((first | (with_reducible refine' c_use (c_cal_c _ _ _ _ _ ?zzh1 ?zzh2 ?zzh3 ?zzh4) ?zz1 ?zz2 ?zz3 ?zz4 ?zz5 ?zzK ?zzd ?zzu trivial ?_) | (refine' c_use (c_cal_c _ _ _ _ _ ?zzh1 ?zzh2 ?zzh3 ?zzh4) ?zz1 ?zz2 ?zz3 ?zz4 ?zz5 ?zzK ?zzd ?zzu trivial ?_)); (case zzh1 => walk_at "m arith"); (case zzh2 => walk_at "m arith"); (case zzh3 => walk_at "m arith"); (case zzh4 => walk_at "m arith"); (case zz1 => k_asm); (case zz2 => k_asm); (case zz3 => k_asm); (case zz4 => k_asm); (case zz5 => k_asm); (case zzK => first | assumption | exact rfl); (case zzd => ktr_room); (case zzu => ktr_units)); intro v9 add9 h9 tk9 F9 N9 A9 P9; (obtain ⟨a9, e9⟩ := leafJ_ref P9); subst e9; (try k_sweep); (try dsimp only); (try k_fold)))
local macro_rules | `(tactic| walk_at "call ref") => `(tactic| (k_here; k_dflt ((first | (with_reducible refine' c_use (c_cal_s _ _ _ _ _ _ ?zzh1 ?zzh2 ?zzh3 ?zzh4) ?zz1 ?zz2 ?zz3 ?zz4 ?zz5 ?zzK ?zzd ?zzu trivial ?_) | (refine' c_use (c_cal_s _ _ _ _ _ _ ?zzh1 ?zzh2 ?zzh3 ?zzh4) ?zz1 ?zz2 ?zz3 ?zz4 ?zz5 ?zzK ?zzd ?zzu trivial ?_)); (case zzh1 => walk_at "m arith"); (case zzh2 => walk_at "m arith"); (case zzh3 => walk_at "m arith"); (case zzh4 => walk_at "m arith"); (case zz1 => k_asm); (case zz2 => k_asm); (case zz3 => k_asm); (case zz4 => k_asm); (case zz5 => k_asm); (case zzK => first | assumption | exact rfl); (case zzd => ktr_room); (case zzu => ktr_units)); intro v9 add9 h9 tk9 F9 N9 A9 P9; (obtain ⟨a9, e9⟩ := leafJ_ref P9); subst e9; (try k_sweep); (try dsimp only); (try k_fold)))
local macro_rules | `(tactic| walk_at "call ref") => `(tactic| (k_here; k_dflt ((first | (with_reducible refine' c_use (c_cal_m _ _ _ _ _ ?zzh1 ?zzh2 ?zzh3 ?zzh4) ?zz1 ?zz2 ?zz3 ?zz4 ?zz5 ?zzK ?zzd ?zzu trivial ?_) | (refine' c_use (c_cal_m _ _ _ _ _ ?zzh1 ?zzh2 ?zzh3 ?zzh4) ?zz1 ?zz2 ?zz3 ?zz4 ?zz5 ?zzK ?zzd ?zzu trivial ?_)); (case zzh1 => walk_at "m arith"); (case zzh2 => walk_at "m arith"); (case zzh3 => walk_at "m arith"); (case zzh4 => walk_at "m arith"); (case zz1 => k_asm); (case zz2 => k_asm); (case zz3 => k_asm); (case zz4 => k_asm); (case zz5 => k_asm); (case zzK => first | assumption | exact rfl); (case zzd => ktr_room); (case zzu => ktr_units)); intro v9 add9 h9 tk9 F9 N9 A9 P9; (obtain ⟨a9, e9⟩ := leafJ_ref P9); subst e9; (try k_sweep); (try dsimp only); (try k_fold)))
local macro_rules | `(tactic| walk_at "call ref") => `(tactic| (k_here; k_dflt ((first | (with_reducible refine' c_use (c_cal_a _ _ _ _ _ ?zzh1 ?zzh2 ?zzh3 ?zzh4) ?zz1 ?zz2 ?zz3 ?zz4 ?zz5 ?zzK ?zzd ?zzu trivial ?_) | (refine' c_use (c_cal_a _ _ _ _ _ ?zzh1 ?zzh2 ?zzh3 ?zzh4) ?zz1 ?zz2 ?zz3 ?zz4 ?zz5 ?zzK ?zzd ?zzu trivial ?_)); (case zzh1 => walk_at "m arith"); (case zzh2 => walk_at "m arith"); (case zzh3 => walk_at "m arith"); (case zzh4 => walk_at "m arith"); (case zz1 => k_asm); (case zz2 => k_asm); (case zz3 => k_asm); (case zz4 => k_asm); (case zz5 => k_asm); (case zzK => first | assumption | exact rfl); (case zzd => ktr_room); (case zzu => ktr_units)); intro v9 add9 h9 tk9 F9 N9 A9 P9; (obtain ⟨a9, e9⟩ := leafJ_ref P9); subst e9; (try k_sweep); (try dsimp only); (try k_fold)))
local macro_rules | `(tactic| walk_at "call ref") => `(tactic| (k_here; k_dflt ((first | (with_reducible refine' c0_use (c_long _ _ _) ?zz1 ?zz2 ?zz3 ?zz4 ?zz5 ?zzK ?zzd ?zzu ?_) | (refine' c0_use (c_long _ _ _) ?zz1 ?zz2 ?zz3 ?zz4 ?zz5 ?zzK ?zzd ?zzu ?_)); (case zz1 => k_asm); (case zz2 => k_asm); (case zz3 => k_asm); (case zz4 => k_asm); (case zz5 => k_asm); (case zzK => first | assumption | exact rfl); (case zzd => ktr_room); (case zzu => ktr_units)); intro v9 h9 tk9 F9 N9 P9; subst P9; (try k_sweep); (try dsimp only); (try k_fold)))
local macro_rules | `(tactic| walk_at "call ref") => `(tactic| (k_here; k_dflt ((first | (with_reducible refine' c0_use (c_january _ _ _ ?zzh1 ?zzh2) ?zz1 ?zz2 ?zz3 ?zz4 ?zz5 ?zzK ?zzd ?zzu ?_) | (refine' c0_use (c_january _ _ _ ?zzh1 ?zzh2) ?zz1 ?zz2 ?zz3 ?zz4 ?zz5 ?zzK ?zzd ?zzu ?_)); (case zzh1 => omega); (case zzh2 => omega); (case zz1 => k_asm); (case zz2 => k_asm); (case zz3 => k_asm); (case zz4 => k_asm); (case zz5 => k_asm); (case zzK => first | assumption | exact rfl); (case zzd => ktr_room); (case zzu => ktr_units)); intro v9 h9 tk9 F9 N9 P9; (obtain ⟨u9, e9⟩ := P9); subst e9; (try k_sweep); (try dsimp only); (try k_fold)))
local macro_rules | `(tactic| walk_at "call ref") => `(tactic| (k_here; k_dflt ((first | (with_reducible refine' c0_use (c_muharram _ _ _ ?zzh1 ?zzh2) ?zz1 ?zz2 ?zz3 ?zz4 ?zz5 ?zzK ?zzd ?zzu ?_) | (refine' c0_use (c_muharram _ _ _ ?zzh1 ?zzh2) ?zz1 ?zz2 ?zz3 ?zz4 ?zz5 ?zzK ?zzd ?zzu ?_)); (case zzh1 => omega); (case zzh2 => omega); (case zz1 => k_asm); (case zz2 => k_asm); (case zz3 => k_asm); (case zz4 => k_asm); (case zz5 => k_asm); (case zzK => first | assumption | exact rfl); (case zzd => ktr_room); (case zzu => ktr_units)); intro v9 h9 tk9 F9 N9 P9; (obtain ⟨u9, e9⟩ := P9); subst e9; (try k_sweep); (try dsimp only); (try k_fold)))
local macro_rules | `(tactic| walk_at "call ref") => `(tactic| (k_here; k_dflt ((first | (with_reducible refine' c_use (c_sizes _ _) ?zz1 ?zz2 ?zz3 ?zz4 ?zz5 ?zzK ?zzd ?zzu trivial ?_) | (refine' c_use (c_sizes _ _) ?zz1 ?zz2 ?zz3 ?zz4 ?zz5 ?zzK ?zzd ?zzu trivial ?_)); (case zz1 => k_asm); (case zz2 => k_asm); (case zz3 => k_asm); (case zz4 => k_asm); (case zz5 => k_asm); (case zzK => first | assumption | exact rfl); (case zzd => ktr_room); (case zzu => ktr_units)); intro v9 add9 h9 tk9 F9 N9 A9 P9; (obtain ⟨D9, vs9, c9, e9, m9, i9⟩ := P9); subst e9; (try k_sweep); (try dsimp only); (try k_fold)))
local macro_rules | `(tactic| walk_at "call ref") => `(tactic| (k_here; (with_reducible show wpAny _ _ (call (Value.ref 626) _) _ _ _); refine' held ?_))
local macro_rules | `(tactic| walk_at "m len") => `(tactic| ((try simp only [List.length_append, List.length_replicate, List.length_cons, List.length_nil]); omega))
local macro_rules | `(tactic| walk_at "binaryOp Mult int ref") => `(tactic| (k_here; k_dflt ((first | (with_reducible refine' m_mul1r ?zzF ?zzN ?zzl ?zza ?zzb ?_) | (refine' m_mul1r ?zzF ?zzN ?zzl ?zza ?zzb ?_)); (case zzF => k_asm); (case zzN => k_asm); (case zzl => walk_at "m mem"); (case zza => walk_at "m arith"); (case zzb => walk_at "m arith")); intro D' h' F' N' l1; (try k_lt l1); (try dsimp only)))
local macro_rules | `(tactic| walk_at "binaryOp Add ref ref") => `(tactic| (k_here; k_dflt ((first | (with_reducible refine' m_add ?zzF ?zzN ?zzl ?zzb ?zzz ?_) | (refine' m_add ?zzF ?zzN ?zzl ?zzb ?zzz ?_)); (case zzF => k_asm); (case zzN => k_asm); (case zzl => walk_at "m mem"); (case zzb => walk_at "m mem"); (case zzz => walk_at "m len")); intro D' h' F' N' l1; (try k_lt l1); (try dsimp only)))
local macro_rules | `(tactic| walk_at "compareOp In int ref") => `(tactic| (k_here; k_dflt ((first | (with_reducible refine' m_inTup ?zzN ?zzm ?zzi ?_) | (refine' m_inTup ?zzN ?zzm ?zzi ?_)); (case zzN => k_asm); (case zzm => walk_at "m mem"); (case zzi => repeat constructor)); (try dsimp only)))
local macro_rules | `(tactic| walk_at "exec If Compare cons nil") => `(tactic| (refine' held ?_))
local macro_rules | `(tactic| walk_at "eval IfExp Compare Constant Constant") => `(tactic| (refine' held ?_))
local macro_rules | `(tactic| walk_at "CutEnd") => `(tactic| (refine' held ?_))
local macro_rules | `(tactic| walk_at "MoonEnd") => `(tactic| (refine' held ?_))
local macro_rules | `(tactic| walk_at "ValEnd") => `(tactic| (refine' held ?_))
local macro_rules | `(tactic| walk_at "eval Call") => `(tactic| (k_here; (with_reducible show wpAny _ _ (eval (Expr.Call (Expr.Name _ _) [Expr.BinOp _ _ _ _] [] _) _) _ _ _); k_dflt (refine Call_ ?_)))
local macro_rules | `(tactic| walk_at "subscriptTail Call") => `(tactic| (k_here; k_dflt ((first | (with_reducible refine' m_slice3 ?zzF ?zzN ?zzl ?zzv ?_ ?zzs) | (refine' m_slice3 ?zzF ?zzN ?zzl ?zzv ?_ ?zzs)); (case zzF => k_asm); (case zzN => k_asm); (case zzl => walk_at "m mem"); (case zzs => with_unfolding_all rfl); (case zzv => ((rename IntsAre _ _ => zzi); rw [zzi.length]; exact Nat.le_of_ble_eq_true rfl))); intro D' h' F' N' l1; (try k_lt l1); (try dsimp only)))
local macro_rules | `(tactic| walk_at "call builtin:sum") => `(tactic| (k_here; k_dflt ((first | (with_reducible refine' m_sum3 ?zzh ?zzF ?zzN ?zzl ?zzi ?_) | (refine' m_sum3 ?zzh ?zzF ?zzN ?zzl ?zzi ?_)); (case zzh => rfl); (case zzF => k_asm); (case zzN => k_asm); (case zzl => walk_at "m mem"); (case zzi => with_reducible assumption)); intro h' tk' t' F' N'; (try k_sweep); (try dsimp only)))
local macro_rules | `(tactic| walk_at "eval Name") => `(tactic| (k_here; (with_reducible show wpAny _ _ (eval (Expr.Name _ _) (compEnvC _ _ _ _)) _ _ _); k_dflt ((first | (with_reducible refine' LCgL.ld_global ?zzF ?zzX ?zzT ?zze ?_ ?zza ?zzb ?zzc ?zzd) | (refine' LCgL.ld_global ?zzF ?zzX ?zzT ?zze ?_ ?zza ?zzb ?zzc ?zzd)); (case zzc => rfl); (case zza => rfl); (case zzb => rfl); (case zzd => decide); (case zzF => k_asm); (case zzX => k_asm); (case zzT => k_asm); (case zze => k_is); k_whole)))
local macro_rules | `(tactic| walk_at "eval Name") => `(tactic| (k_here; (with_reducible show wpAny _ _ (eval (Expr.Name _ _) (compEnvC _ _ _ _)) _ _ _); k_dflt ((first | (with_reducible refine' LCgL.ld_own ?zzN ?zzm ?zzC ?zzx ?_ ?zza ?zzb ?zzd) | (refine' LCgL.ld_own ?zzN ?zzm ?zzC ?zzx ?_ ?zza ?zzb ?zzd)); (case zzb => rfl); (case zza => rfl); (case zzd => decide); (case zzN => k_asm); (case zzm => walk_at "m mem"); (case zzC => with_reducible assumption); (case zzx => with_reducible assumption); k_whole)))
local macro_rules | `(tactic| walk_at "setItem ref int") => `(tactic| (refine' held ?_))
local macro_rules | `(tactic| walk_at "setItem ref int int") => `(tactic| (refine' held ?_))
set_option maxHeartbeats 16000000 in
theorem law_holds : PySem.Challenge.rw_bd5017_01.Holds := Mine.hd (by
  k_go0
  (all_goals try k_fold)
  k_steps
  rename Int => c9
  unfold Held
  refine' comp_elsL (n := 12) (fun i => leafJ (gregJ (1 + c9) (1 + (i : Int)) 1) (gregLen (1 + c9) (1 + (i : Int)))) ?q0_b ?q1_b ?q2_b ?q3_b ?q4_b ?q5_b ?q6_b ?q7_b ?q8_b
  case q0_b => rfl
  case q1_b => k_asm
  case q2_b => k_asm
  case q3_b => walk_at "m mem"
  case q4_b => exact range_small (by omega) (by omega)
  case q5_b => exact range_size (by omega)
  case q6_b => omega
  case q7_b =>
    unfold Held
    intro i rows ys t9 I oI C oC D m₂ h tk E' hi hC hx F9 N9
    k_steps
  unfold Held
  intro gg ysg rowsg Apg Dtg D h tk F9 N9 o9
  k_steps
  rename IntsAre _ _ => I1
  unfold Held
  have Eg := els_same Dtg (fun i hi => by rw [g_len (1 + c9) i hi])
  refine' right_use (n := 12) (fun i => gregJ (1 + c9) (1 + (i : Int)) 1) (nsG (isleapB (1 + c9))) ?zz1_c ?zz2_c ?zz3_c ?zz4_c ?zz5_c ?zzK_c ?zzd_c ?zzu_c ?zzm_c ?zzs_c Eg ?zzb_c ?zzi_c ?zzn_c ?zzh2_c ?zzh3_c ?zzh4_c ?zzJ_c ?_
  case zz1_c => k_asm
  case zz2_c => k_asm
  case zz3_c => k_asm
  case zz4_c => k_asm
  case zz5_c => k_asm
  case zzK_c => first | with_reducible assumption | exact rfl
  case zzd_c => ktr_room
  case zzu_c => ktr_units
  case zzm_c => walk_at "m mem"
  case zzs_c => walk_at "m mem"
  case zzb_c => walk_at "m sub"
  case zzi_c => exact I1
  case zzn_c => rfl
  case zzh2_c => exact nsG_b _
  case zzh3_c => exact Nat.le_of_ble_eq_true rfl
  case zzh4_c => exact Nat.le_of_ble_eq_true rfl
  case zzJ_c => exact g_day _
  intro add9 h9 tk9 F9 N9 A9
  (try k_sweep)
  (try dsimp only)
  (try k_fold)
  k_steps
  unfold Held
  refine' comp_elsL (n := 12) (fun i => leafJ (julJ (1 + c9) (1 + (i : Int))) (julLen (1 + c9) (1 + (i : Int)))) ?q0_d ?q1_d ?q2_d ?q3_d ?q4_d ?q5_d ?q6_d ?q7_d ?q8_d
  case q0_d => rfl
  case q1_d => k_asm
  case q2_d => k_asm
  case q3_d => walk_at "m mem"
  case q4_d => exact range_small (by omega) (by omega)
  case q5_d => exact range_size (by omega)
  case q6_d => omega
  case q7_d =>
    unfold Held
    intro i rows ys t9 I oI C oC D m₂ h tk E' hi hC hx F9 N9
    k_steps
  unfold Held
  intro gj ysj rowsj Apj Dtj D h tk F9 N9 o9
  k_steps
  rename IntsAre _ _ => I2
  unfold Held
  have Ej := els_same Dtj (fun i hi => by rw [j_len (1 + c9) i hi])
  refine' right_use (n := 12) (fun i => julJ (1 + c9) (1 + (i : Int))) (nsG ((1 + c9).fmod 4 == 0)) ?zz1_e ?zz2_e ?zz3_e ?zz4_e ?zz5_e ?zzK_e ?zzd_e ?zzu_e ?zzm_e ?zzs_e Ej ?zzb_e ?zzi_e ?zzn_e ?zzh2_e ?zzh3_e ?zzh4_e ?zzJ_e ?_
  case zz1_e => k_asm
  case zz2_e => k_asm
  case zz3_e => k_asm
  case zz4_e => k_asm
  case zz5_e => k_asm
  case zzK_e => first | with_reducible assumption | exact rfl
  case zzd_e => ktr_room
  case zzu_e => ktr_units
  case zzm_e => walk_at "m mem"
  case zzs_e => walk_at "m mem"
  case zzb_e => walk_at "m sub"
  case zzi_e => exact I2
  case zzn_e => rfl
  case zzh2_e => exact nsG_b _
  case zzh3_e => exact Nat.le_of_ble_eq_true rfl
  case zzh4_e => exact Nat.le_of_ble_eq_true rfl
  case zzJ_e => (intro i hi; have q := j_day (1 + c9) i hi; (try simp only [fdiv_lit, fmod_lit] at q ⊢); omega)
  intro add9 h9 tk9 F9 N9 A9
  (try k_sweep)
  (try dsimp only)
  (try k_fold)
  k_steps
  unfold Held
  refine' comp_elsL (n := 12) (fun i => leafJ (islJ (1 + c9) (1 + (i : Int))) (islLen (1 + c9) (1 + (i : Int)))) ?q0_f ?q1_f ?q2_f ?q3_f ?q4_f ?q5_f ?q6_f ?q7_f ?q8_f
  case q0_f => rfl
  case q1_f => k_asm
  case q2_f => k_asm
  case q3_f => walk_at "m mem"
  case q4_f => exact range_small (by omega) (by omega)
  case q5_f => exact range_size (by omega)
  case q6_f => omega
  case q7_f =>
    unfold Held
    intro i rows ys t9 I oI C oC D m₂ h tk E' hi hC hx F9 N9
    k_steps
  unfold Held
  intro gm ysm rowsm Apm Dtm D h tk F9 N9 o9
  k_steps
  unfold Held
  refine' comp_valsL (n := 12) (fun (i : Nat) => cellD (some (if i % 2 = 0 then 30 else 29))) ?q0_g ?q1_g ?q2_g ?q3_g ?q4_g ?q5_g ?q6_g ?q7_g ?q8_g
  case q0_g => rfl
  case q1_g => k_asm
  case q2_g => k_asm
  case q3_g => walk_at "m mem"
  case q4_g => exact range_small (by omega) (by omega)
  case q5_g => exact range_size (by omega)
  case q6_g => omega
  case q7_g =>
    unfold Held
    intro i ys t9 I oI C oC D m₂ h tk E' hi hC hx F9 N9
    k_steps
    unfold Held
    refine IfExp_ ?_
    k_steps
    · unfold Held
      exact ⟨_, _, rfl, by k_asm, by k_asm, by rw [if_pos (by have q := (by with_reducible assumption : (1 + (i : Int)).fmod 2 = 1); rw [fmod_lit] at q; omega)]; exact .int _ _⟩
    · unfold Held
      exact ⟨_, _, rfl, by k_asm, by k_asm, by rw [if_neg (by have q := (by with_reducible assumption : ¬ (1 + (i : Int)).fmod 2 = 1); rw [fmod_lit] at q; omega)]; exact .int _ _⟩
  unfold Held
  intro gw ysw Dtw D h tk F9 N9 o9
  have Iw := moons_els Dtw
  k_steps
  unfold Held
  refine' if_moons (1 + c9) ?q1_h ?q2_h ?q3_h ?q4_h
  case q1_h => k_asm
  case q2_h => k_asm
  case q3_h =>
    unfold Held
    k_steps
    · unfold Held
      rename _ < _ ∧ _ => l9
      refine' ksa_set ?qa_h ?qb_h ?qc_h Iw ?qd_h ?qe_h ?qf_h ?qg_h
      case qa_h => k_asm
      case qb_h => k_asm
      case qc_h => exact Upd.tail (Nat.ne_of_gt l9.1) (Upd.head (off1_all o9))
      case qd_h => omega
      case qe_h => decide
      case qf_h => decide
      case qg_h =>
        intro h8 F8 N8 I8 _ _
        k_steps
        unfold Held
        have a9 := (by with_reducible assumption : ([2, 5, 7, 10, 13, 16, 18, 21, 24, 26, 29].any fun x => x == (1 + c9 - 1).fmod 30 + 1) = true)
        rw [fmod_lit] at a9
        refine' ⟨_, _, _, ysw.length, rfl, rfl, ?qh_h, ?qi_h, ?qj_h⟩
        case qj_h => rw [moons_long a9]; exact I8
        case qh_h => k_asm
        case qi_h => walk_at "m news"
    · unfold Held
      have a9 := (by with_reducible assumption : ([2, 5, 7, 10, 13, 16, 18, 21, 24, 26, 29].any fun x => x == (1 + c9 - 1).fmod 30 + 1) = false)
      rw [fmod_lit] at a9
      refine' ⟨_, _, ysw, ysw.length, rfl, rfl, ?qk_h, ?ql_h, ?qm_h⟩
      case qk_h => k_asm
      case ql_h => walk_at "m news"
      case qm_h => rw [moons_short a9]; exact Iw
  unfold Held
  intro h tk vsw cw F9 N9 I3
  k_steps
  unfold Held
  have Em := els_same Dtm (fun i hi => by rw [m_lenL (1 + c9) _ rfl i hi])
  refine' right_use (n := 12) (fun i => islJ (1 + c9) (1 + (i : Int))) (nsM (mL (1 + c9))) ?zz1_i ?zz2_i ?zz3_i ?zz4_i ?zz5_i ?zzK_i ?zzd_i ?zzu_i ?zzm_i ?zzs_i Em ?zzb_i ?zzi_i ?zzn_i ?zzh2_i ?zzh3_i ?zzh4_i ?zzJ_i ?_
  case zz1_i => k_asm
  case zz2_i => k_asm
  case zz3_i => k_asm
  case zz4_i => k_asm
  case zz5_i => k_asm
  case zzK_i => first | with_reducible assumption | exact rfl
  case zzd_i => ktr_room
  case zzu_i => ktr_units
  case zzm_i => walk_at "m mem"
  case zzs_i => walk_at "m mem"
  case zzb_i => walk_at "m sub"
  case zzi_i => exact I3
  case zzn_i => rfl
  case zzh2_i => exact nsM_b _ (mL_1 _) (mL_31 _)
  case zzh3_i => exact Nat.le_of_ble_eq_true rfl
  case zzh4_i => exact Nat.le_of_ble_eq_true rfl
  case zzJ_i => exact m_day _ _
  intro add9 h9 tk9 F9 N9 A9
  (try k_sweep)
  (try dsimp only)
  (try k_fold)
  k_steps
  unfold Held
  refine' ifexp_cut (if (1 + c9) % 4 = 3 then 6 else 5) ?q1_j ?q2_j ?q3_j ?q4_j
  case q1_j => k_asm
  case q2_j => k_asm
  case q3_j =>
    unfold Held
    k_steps
    · unfold Held
      have a9 := (by with_reducible assumption : (1 + c9).fmod 4 = 3)
      rw [fmod_lit] at a9
      refine' ⟨_, _, _, ?qa_j, rfl, ?qb_j, ?qc_j⟩
      case qa_j => rw [if_pos a9]
      case qb_j => k_asm
      case qc_j => walk_at "m news"
    · unfold Held
      have a9 := (by with_reducible assumption : ¬ (1 + c9).fmod 4 = 3)
      rw [fmod_lit] at a9
      refine' ⟨_, _, _, ?qd_j, rfl, ?qe_j, ?qf_j⟩
      case qd_j => rw [if_neg a9]
      case qe_j => k_asm
      case qf_j => walk_at "m news"
  unfold Held
  intro h t8 tk F9 N9
  k_steps
  unfold Held
  refine' comp_elsL (n := 13) (fun i => leafJ (copJ (1 + c9) (1 + (i : Int))) (copLen (1 + c9) (1 + (i : Int)))) ?q0_k ?q1_k ?q2_k ?q3_k ?q4_k ?q5_k ?q6_k ?q7_k ?q8_k
  case q0_k => rfl
  case q1_k => k_asm
  case q2_k => k_asm
  case q3_k => walk_at "m mem"
  case q4_k => exact range_small (by omega) (by omega)
  case q5_k => exact range_size (by omega)
  case q6_k => omega
  case q7_k =>
    unfold Held
    intro i rows ys t9 I oI C oC D m₂ h tk E' hi hC hx F9 N9
    k_steps
  unfold Held
  intro gc ysc rowsc Apc Dtc D h tk F9 N9 o9
  k_steps
  unfold Held
  have Ec := els_same Dtc (fun i hi => by rw [c_lenL (1 + c9) i hi])
  refine' right_use (n := 13) (fun i => copJ (1 + c9) (1 + (i : Int))) (nsT (if (1 + c9) % 4 = 3 then 6 else 5)) ?zz1_l ?zz2_l ?zz3_l ?zz4_l ?zz5_l ?zzK_l ?zzd_l ?zzu_l ?zzm_l ?zzs_l Ec ?zzb_l ?zzi_l ?zzn_l ?zzh2_l ?zzh3_l ?zzh4_l ?zzJ_l ?_
  case zz1_l => k_asm
  case zz2_l => k_asm
  case zz3_l => k_asm
  case zz4_l => k_asm
  case zz5_l => k_asm
  case zzK_l => first | with_reducible assumption | exact rfl
  case zzd_l => ktr_room
  case zzu_l => ktr_units
  case zzm_l => walk_at "m mem"
  case zzs_l => walk_at "m mem"
  case zzb_l => walk_at "m sub"
  case zzi_l => repeat constructor
  case zzn_l => rfl
  case zzh2_l => exact nsT_b _ (by split <;> omega) (by split <;> omega)
  case zzh3_l => exact Nat.le_of_ble_eq_true rfl
  case zzh4_l => exact Nat.le_of_ble_eq_true rfl
  case zzJ_l => (intro i hi; have q := c_day (1 + c9) (if (1 + c9) % 4 = 3 then 6 else 5) i hi; (try simp only [fdiv_lit, fmod_lit] at q ⊢); omega)
  intro add9 h9 tk9 F9 N9 A9
  (try k_sweep)
  (try dsimp only)
  (try k_fold)
  k_steps
  unfold Held
  refine' comp_elsL (n := 13) (fun i => leafJ (armJ (1 + c9) (1 + (i : Int))) (armLen (1 + c9) (1 + (i : Int)))) ?q0_m ?q1_m ?q2_m ?q3_m ?q4_m ?q5_m ?q6_m ?q7_m ?q8_m
  case q0_m => rfl
  case q1_m => k_asm
  case q2_m => k_asm
  case q3_m => walk_at "m mem"
  case q4_m => exact range_small (by omega) (by omega)
  case q5_m => exact range_size (by omega)
  case q6_m => omega
  case q7_m =>
    unfold Held
    intro i rows ys t9 I oI C oC D m₂ h tk E' hi hC hx F9 N9
    k_steps
  unfold Held
  intro ga ysa rowsa Apa Dta D h tk F9 N9 o9
  k_steps
  unfold Held
  have Ea := els_same Dta (fun i hi => by rw [a_len (1 + c9) i hi])
  refine' right_use (n := 13) (fun i => armJ (1 + c9) (1 + (i : Int))) (nsT 5) ?zz1_n ?zz2_n ?zz3_n ?zz4_n ?zz5_n ?zzK_n ?zzd_n ?zzu_n ?zzm_n ?zzs_n Ea ?zzb_n ?zzi_n ?zzn_n ?zzh2_n ?zzh3_n ?zzh4_n ?zzJ_n ?_
  case zz1_n => k_asm
  case zz2_n => k_asm
  case zz3_n => k_asm
  case zz4_n => k_asm
  case zz5_n => k_asm
  case zzK_n => first | with_reducible assumption | exact rfl
  case zzd_n => ktr_room
  case zzu_n => ktr_units
  case zzm_n => walk_at "m mem"
  case zzs_n => walk_at "m mem"
  case zzb_n => walk_at "m sub"
  case zzi_n => repeat constructor
  case zzn_n => rfl
  case zzh2_n => exact nsT_b _ (by omega) (by omega)
  case zzh3_n => exact Nat.le_of_ble_eq_true rfl
  case zzh4_n => exact Nat.le_of_ble_eq_true rfl
  case zzJ_n => (intro i hi; have q := a_day (1 + c9) 5 i hi; (try simp only [fdiv_lit, fmod_lit] at q ⊢); omega)
  intro add9 h9 tk9 F9 N9 A9
  (try k_sweep)
  (try dsimp only)
  (try k_fold)
  k_steps
  unfold Held
  refine' comp_elsL (n := 13) (fun i => leafJ (sarJ (1 + c9 + 533) (1 + (i : Int))) (sarLen (1 + c9 + 533) (1 + (i : Int)))) ?q0_o ?q1_o ?q2_o ?q3_o ?q4_o ?q5_o ?q6_o ?q7_o ?q8_o
  case q0_o => rfl
  case q1_o => k_asm
  case q2_o => k_asm
  case q3_o => walk_at "m mem"
  case q4_o => exact range_small (by omega) (by omega)
  case q5_o => exact range_size (by omega)
  case q6_o => omega
  case q7_o =>
    unfold Held
    intro i rows ys t9 I oI C oC D m₂ h tk E' hi hC hx F9 N9
    k_steps
  unfold Held
  intro gs yss rowss Aps Dts D h tk F9 N9 o9
  k_steps
  unfold Held
  have Es := els_same Dts (fun i hi => by rw [s_len (1 + c9) i hi])
  refine' right_use (n := 13) (fun i => sarJ (1 + c9 + 533) (1 + (i : Int))) (nsT (if (1 + c9) % 4 = 3 then 6 else 5)) ?zz1_p ?zz2_p ?zz3_p ?zz4_p ?zz5_p ?zzK_p ?zzd_p ?zzu_p ?zzm_p ?zzs_p Es ?zzb_p ?zzi_p ?zzn_p ?zzh2_p ?zzh3_p ?zzh4_p ?zzJ_p ?_
  case zz1_p => k_asm
  case zz2_p => k_asm
  case zz3_p => k_asm
  case zz4_p => k_asm
  case zz5_p => k_asm
  case zzK_p => first | with_reducible assumption | exact rfl
  case zzd_p => ktr_room
  case zzu_p => ktr_units
  case zzm_p => walk_at "m mem"
  case zzs_p => walk_at "m mem"
  case zzb_p => walk_at "m sub"
  case zzi_p => repeat constructor
  case zzn_p => rfl
  case zzh2_p => exact nsT_b _ (by split <;> omega) (by split <;> omega)
  case zzh3_p => exact Nat.le_of_ble_eq_true rfl
  case zzh4_p => exact Nat.le_of_ble_eq_true rfl
  case zzJ_p => (intro i hi; have q := s_day (1 + c9) (if (1 + c9) % 4 = 3 then 6 else 5) i hi; (try simp only [fdiv_lit, fmod_lit] at q ⊢); omega)
  intro add9 h9 tk9 F9 N9 A9
  (try k_sweep)
  (try dsimp only)
  (try k_fold)
  k_steps
  unfold Held
  refine' comp_elsL (n := 11) (fun i => leafJ (indJ (1 + c9) (2 + (i : Int))) (indLen (1 + c9) (2 + (i : Int)))) ?q0_q ?q1_q ?q2_q ?q3_q ?q4_q ?q5_q ?q6_q ?q7_q ?q8_q
  case q0_q => rfl
  case q1_q => k_asm
  case q2_q => k_asm
  case q3_q => walk_at "m mem"
  case q4_q => exact range_small (by omega) (by omega)
  case q5_q => exact range_size (by omega)
  case q6_q => omega
  case q7_q =>
    unfold Held
    intro i rows ys t9 I oI C oC D m₂ h tk E' hi hC hx F9 N9
    k_steps
  unfold Held
  intro gi ysi rowsi Api Dti D h tk F9 N9 o9
  k_steps
  unfold Held
  have Ei := els_same Dti (fun i hi => by rw [i_len (1 + c9) i hi])
  refine' right_use (n := 11) (fun i => indJ (1 + c9) (2 + (i : Int))) (nsI) ?zz1_r ?zz2_r ?zz3_r ?zz4_r ?zz5_r ?zzK_r ?zzd_r ?zzu_r ?zzm_r ?zzs_r Ei ?zzb_r ?zzi_r ?zzn_r ?zzh2_r ?zzh3_r ?zzh4_r ?zzJ_r ?_
  case zz1_r => k_asm
  case zz2_r => k_asm
  case zz3_r => k_asm
  case zz4_r => k_asm
  case zz5_r => k_asm
  case zzK_r => first | with_reducible assumption | exact rfl
  case zzd_r => ktr_room
  case zzu_r => ktr_units
  case zzm_r => walk_at "m mem"
  case zzs_r => walk_at "m mem"
  case zzb_r => walk_at "m sub"
  case zzi_r => repeat constructor
  case zzn_r => rfl
  case zzh2_r => exact nsI_b
  case zzh3_r => exact Nat.le_of_ble_eq_true rfl
  case zzh4_r => exact Nat.le_of_ble_eq_true rfl
  case zzJ_r => (first | exact i_day _ | (intro i hi; have q := i_day (1 + c9) i hi; unfold janJ at q; omega))
  intro add9 h9 tk9 F9 N9 A9
  (try k_sweep)
  (try dsimp only)
  (try k_fold)
  k_steps)
end
end Mine
end
theorem PySem.Challenge.cw_bd5017_01_holds : PySem.Challenge.rw_bd5017_01.Holds :=
  Mine.law_holds
