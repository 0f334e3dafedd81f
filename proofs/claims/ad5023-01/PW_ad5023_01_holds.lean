import PyProof.Rows.All
import Wide.All
import OpenK.AllK
import Wide.FinOn
import PySem.Challenge.RW_ad5023_01
set_option Elab.async false
set_option maxRecDepth 100000
set_option maxHeartbeats 8000000
set_option rowWalk.seconds 0
-- HD
namespace Mine
open PySem PySem.W PyProof.Rows
open_top hd for PySem.Challenge.rw_ad5023_01

end Mine
-- FL
namespace Mine
open PySem PySem.Float64
/-- the float of z / 4096 -/
def G (z : Int) : UInt64 := ofFrac (decide (z < 0)) z.natAbs 4096
/-- x is finite, of value a (in units of 2^-1074) -/
def Val (x : UInt64) (a : Int) : Prop := ∃ s m e, decode x = .fin s m e ∧ val x = a

theorem rep (k : Nat) : k ≤ 2000 → ∀ n : Nat, n ≤ 2 ^ 53 → ∃ t, t < infMag ∧ V t = n * 2 ^ k := by
  induction k with
  | zero =>
    intro _ n hn
    refine ⟨0 * 2 ^ 52 + n, ?_, V_at hn (.inr rfl)⟩
    unfold infMag; omega
  | succ k ih =>
    intro hk n hn
    by_cases h : 2 ^ 52 ≤ n
    · refine ⟨(k + 1) * 2 ^ 52 + n, ?_, V_at hn (.inl h)⟩
      unfold infMag; omega
    · obtain ⟨t, ht, hV⟩ := ih (by omega) (2 * n) (by omega)
      refine ⟨t, ht, ?_⟩
      rw [hV, Nat.pow_succ]
      ac_rfl
theorem V_inj {t t' : Nat} (h : V t = V t') : t = t' := by
  rcases Nat.lt_trichotomy t t' with h1 | h1 | h1
  · have := V_lt h1; omega
  · exact h1
  · have := V_lt h1; omega
theorem dist_zero {a b : Nat} (h : dist a b = 0) : a = b := by unfold dist at h; omega
theorem dist_self (a : Nat) : dist a a = 0 := by unfold dist; omega
theorem not_over {n k W D : Nat} (hn : n ≤ 2 ^ 53) (hk : k ≤ 1900) (hD : 0 < D) (hW : W ≤ D * (n * 2 ^ k)) : ¬ D * ((2 ^ 54 - 1) * 2 ^ 2045) ≤ 2 * W := by
  intro h
  have h1 : n * 2 ^ k ≤ 2 ^ 53 * 2 ^ 1900 := Nat.mul_le_mul hn (Nat.pow_le_pow_right (by decide) hk)
  have h2 : 2 * W ≤ D * (2 * (2 ^ 53 * 2 ^ 1900)) := by
    have := Nat.mul_le_mul_left D h1
    rw [Nat.mul_left_comm]
    omega
  have h3 : D * ((2 ^ 54 - 1) * 2 ^ 2045) ≤ D * (2 * (2 ^ 53 * 2 ^ 1900)) := Nat.le_trans h h2
  have h4 := Nat.le_of_mul_le_mul_left h3 hD
  exact absurd h4 (by decide +kernel)
theorem right_exact {r : UInt64} {neg : Bool} {W D n k : Nat} (h : Right r neg W D) (hD : 0 < D) (hk : k ≤ 1900) (hn : n ≤ 2 ^ 53) (hW : W = D * (n * 2 ^ k)) :
    ∃ t, r = pack neg t ∧ t < infMag ∧ V t = n * 2 ^ k := by
  obtain ⟨t, hr, hle, hov, hnear⟩ := h
  have hlt : t < infMag := by
    refine Nat.lt_of_le_of_ne hle fun e => ?_
    exact not_over hn hk hD (by omega) (hov.mp e)
  obtain ⟨t', _, hV⟩ := rep k (by omega) n hn
  have h1 := (hnear hlt t').1
  rw [hV, ← hW, dist_self] at h1
  have h2 := dist_zero (Nat.le_zero.mp h1)
  rw [hW] at h2
  exact ⟨t, hr, hlt, (Nat.eq_of_mul_eq_mul_left hD h2).symm⟩
theorem G_right (z : Int) : Right (G z) (decide (z < 0)) (z.natAbs * 2 ^ 1062) 1 :=
  ofFrac_right (by decide) (by
    have e : (2 : Nat) ^ 1074 = 2 ^ 1062 * 4096 := by decide +kernel
    rw [e, Nat.mul_one, Nat.mul_assoc]) (by decide)
theorem G_of_right {r : UInt64} {z : Int} {W D : Nat} (h : Right r (decide (z < 0)) W D) (hD : 0 < D) (hz : z.natAbs ≤ 2 ^ 53) (hW : W = D * (z.natAbs * 2 ^ 1062)) : r = G z := by
  obtain ⟨t, hr, _, hV⟩ := right_exact h hD (k := 1062) (by decide) hz hW
  obtain ⟨t', hr', _, hV'⟩ := right_exact (G_right z) (by decide) (k := 1062) (by decide) hz (by rw [Nat.one_mul])
  rw [hr, hr', V_inj (hV.trans hV'.symm)]
theorem sgn_cast (z : Int) : sgn (decide (z < 0)) z.natAbs = z := by
  unfold sgn
  by_cases h : z < 0
  · rw [if_pos (by simpa using h)]; omega
  · rw [if_neg (by simpa using h)]; omega
theorem G_dec {z : Int} (hz : z.natAbs ≤ 2 ^ 53) : ∃ m e, decode (G z) = .fin (decide (z < 0)) m e ∧ val (G z) = z * 2 ^ 1062 := by
  obtain ⟨t, hr, hlt, hV⟩ := right_exact (G_right z) (by decide) (k := 1062) (by decide) hz (by rw [Nat.one_mul])
  obtain ⟨m, e, hd, _⟩ := decode_pack (decide (z < 0)) hlt
  rw [← hr] at hd
  refine ⟨m, e, hd, ?_⟩
  rw [hr, val_pack _ hlt, hV, sgn_mul, sgn_cast]
  simp
theorem G_val {z : Int} (hz : z.natAbs ≤ 2 ^ 53) : Val (G z) (z * 2 ^ 1062) := by
  obtain ⟨m, e, hd, hv⟩ := G_dec hz
  exact ⟨_, m, e, hd, hv⟩
theorem G_zero : G 0 = zero false := by decide +kernel
theorem pow_pos_int (k : Nat) : (0 : Int) < 2 ^ k := Int.pow_pos (by decide)
theorem neg_scale {z K : Int} (hK : 0 < K) : decide (z * K < 0) = decide (z < 0) := by
  apply decide_eq_decide.mpr
  constructor
  · intro h
    by_cases h2 : z < 0
    · exact h2
    · have := Int.mul_nonneg (show 0 ≤ z by omega) (Int.le_of_lt hK); omega
  · intro h
    exact Int.mul_neg_of_neg_of_pos h hK
theorem natAbs_scale (z : Int) (k : Nat) : (z * 2 ^ k).natAbs = z.natAbs * 2 ^ k := by
  rw [Int.natAbs_mul, Int.natAbs_pow]; rfl
theorem add_G {a b : Int} (ha : a.natAbs ≤ 2 ^ 53) (hb : b.natAbs ≤ 2 ^ 53) (hab : (a + b).natAbs ≤ 2 ^ 53) : add (G a) (G b) = G (a + b) := by
  obtain ⟨m, e, hd, hv⟩ := G_dec ha
  obtain ⟨k, f, hd', hv'⟩ := G_dec hb
  have h := add_right hd hd'
  rw [hv, hv', ← Int.add_mul] at h
  by_cases h0 : a + b = 0
  · rw [h.1 (by rw [h0, Int.zero_mul]), h0, G_zero]
    congr 1
    simp only [Bool.and_eq_false_imp, decide_eq_true_eq, decide_eq_false_iff_not]
    omega
  · have hne : (a + b) * 2 ^ 1062 ≠ 0 := fun e => by
      rcases Int.mul_eq_zero.mp e with e | e
      · exact h0 e
      · have := pow_pos_int 1062; omega
    have h2 := h.2 hne
    rw [neg_scale (pow_pos_int _), natAbs_scale] at h2
    exact G_of_right h2 (by decide) hab (by rw [Nat.one_mul])
theorem sub_G {a b : Int} (ha : a.natAbs ≤ 2 ^ 53) (hb : b.natAbs ≤ 2 ^ 53) (hab : (a - b).natAbs ≤ 2 ^ 53) : Float64.sub (G a) (G b) = G (a - b) := by
  obtain ⟨m, e, hd, hv⟩ := G_dec ha
  obtain ⟨k, f, hd', hv'⟩ := G_dec hb
  have h := sub_right hd hd'
  rw [hv, hv', ← Int.sub_mul] at h
  by_cases h0 : a - b = 0
  · rw [h.1 (by rw [h0, Int.zero_mul]), h0, G_zero]
    congr 1
    have : a = b := by omega
    subst this
    cases decide (a < 0) <;> rfl
  · have hne : (a - b) * 2 ^ 1062 ≠ 0 := fun e => by
      rcases Int.mul_eq_zero.mp e with e | e
      · exact h0 e
      · have := pow_pos_int 1062; omega
    have h2 := h.2 hne
    rw [neg_scale (pow_pos_int _), natAbs_scale] at h2
    exact G_of_right h2 (by decide) hab (by rw [Nat.one_mul])
theorem mul_G {a n : Int} (ha : a.natAbs ≤ 2 ^ 53) (hb : (4096 * n).natAbs ≤ 2 ^ 53) (hab : (a * n).natAbs ≤ 2 ^ 53) (hs : (decide (a < 0) != decide (4096 * n < 0)) = decide (a * n < 0)) : mul (G a) (G (4096 * n)) = G (a * n) := by
  obtain ⟨m, e, hd, hv⟩ := G_dec ha
  obtain ⟨k, f, hd', hv'⟩ := G_dec hb
  have h := mul_right hd hd'
  rw [hs, hv, hv', natAbs_scale, natAbs_scale] at h
  refine G_of_right h (Nat.two_pow_pos _) hab ?_
  rw [Int.natAbs_mul, Int.natAbs_mul]
  have e : (2 : Nat) ^ 1074 = 4096 * 2 ^ 1062 := by decide +kernel
  rw [e]
  generalize (2 : Nat) ^ 1062 = K
  show a.natAbs * K * (4096 * n.natAbs * K) = 4096 * K * (a.natAbs * n.natAbs * K)
  ac_rfl
theorem ofInt_G {n : Int} (hn : (4096 * n).natAbs ≤ 2 ^ 53) : ofInt n = G (4096 * n) := by
  have h := ofInt_right n
  have hs : decide (n < 0) = decide (4096 * n < 0) := decide_eq_decide.mpr (by omega)
  rw [hs] at h
  refine G_of_right h (by decide) hn ?_
  have e : (2 : Nat) ^ 1074 = 4096 * 2 ^ 1062 := by decide +kernel
  rw [e, Nat.one_mul, show (4096 * n).natAbs = 4096 * n.natAbs by omega]
  ac_rfl
/-- floor and value -/
theorem floorOf_val {x : UInt64} {s : Bool} {m : Nat} {e : Int} (h : decode x = .fin s m e) : floorOf s m e = val x / 2 ^ 1074 := by
  have he := decode_ge h
  have hv : val x = sgn s m * 2 ^ (e + 1074).toNat := by rw [val_eq h, sgn_mul]; simp
  unfold floorOf
  split
  · rename_i h0
    have e1 : (e + 1074).toNat = e.toNat + 1074 := by omega
    rw [hv, e1, Int.pow_add, ← Int.mul_assoc, Int.mul_ediv_cancel _ (Int.ne_of_gt (pow_pos_int _))]
  · rename_i h0
    have e1 : 1074 = (-e).toNat + (e + 1074).toNat := by omega
    rw [Int.fdiv_eq_ediv_of_nonneg _ (Int.le_of_lt (pow_pos_int _)), hv, congrArg (fun n : Nat => (2 : Int) ^ n) e1, Int.pow_add, Int.mul_ediv_mul_of_pos_left _ _ (pow_pos_int _)]
theorem truncOf_val {x : UInt64} {s : Bool} {m : Nat} {e : Int} (h : decode x = .fin s m e) (hp : 0 ≤ val x) : truncOf s m e = val x / 2 ^ 1074 := by
  unfold truncOf
  cases s with
  | false => exact floorOf_val h
  | true =>
    have he := decode_ge h
    have hv := val_eq h
    have hm : m = 0 := by
      have h1 : val x = -((m * 2 ^ (e + 1074).toNat : Nat) : Int) := by rw [hv]; unfold sgn; rfl
      have h2 : m * 2 ^ (e + 1074).toNat = 0 := by omega
      rcases Nat.mul_eq_zero.mp h2 with h3 | h3
      · exact h3
      · have := Nat.two_pow_pos (e + 1074).toNat; omega
    subst hm
    have hv0 : val x = 0 := by rw [hv]; unfold sgn; simp
    rw [hv0]
    unfold ceilOf floorOf sgn
    simp
/-- the float's floor is i; its trunc is i -/
def FloorIs (x : UInt64) (i : Int) : Prop := ∃ s m e, decode x = .fin s m e ∧ floorOf s m e = i
def TruncIs (x : UInt64) (i : Int) : Prop := ∃ s m e, decode x = .fin s m e ∧ truncOf s m e = i
theorem K_split : (2 : Int) ^ 1074 = 4096 * 2 ^ 1062 := by decide +kernel
theorem floor_G {z : Int} (hz : z.natAbs ≤ 2 ^ 53) : FloorIs (G z) (z / 4096) := by
  obtain ⟨m, e, hd, hv⟩ := G_dec hz
  refine ⟨_, m, e, hd, ?_⟩
  rw [floorOf_val hd, hv, K_split, Int.mul_ediv_mul_of_pos_left _ _ (pow_pos_int _)]
theorem trunc_G {z : Int} (hz : z.natAbs ≤ 2 ^ 53) (h0 : 0 ≤ z) : TruncIs (G z) (z / 4096) := by
  obtain ⟨m, e, hd, hv⟩ := G_dec hz
  refine ⟨_, m, e, hd, ?_⟩
  rw [truncOf_val hd (by rw [hv]; exact Int.mul_nonneg h0 (Int.le_of_lt (pow_pos_int _))), hv, K_split, Int.mul_ediv_mul_of_pos_left _ _ (pow_pos_int _)]
theorem compare_scale {a b K : Int} (hK : 0 < K) : compare (a * K) (b * K) = compare a b := by
  rcases Int.lt_trichotomy a b with h | h | h
  · rw [Int.compare_eq_lt.mpr h, Int.compare_eq_lt.mpr (Int.mul_lt_mul_of_pos_right h hK)]
  · subst h; simp
  · rw [Int.compare_eq_gt.mpr h, Int.compare_eq_gt.mpr (Int.mul_lt_mul_of_pos_right h hK)]
theorem cmp_G {a b : Int} (ha : a.natAbs ≤ 2 ^ 53) (hb : b.natAbs ≤ 2 ^ 53) : cmp (G a) (G b) = some (compare a b) := by
  obtain ⟨m, e, hd, hv⟩ := G_dec ha
  obtain ⟨k, f, hd', hv'⟩ := G_dec hb
  rw [cmp_right hd hd', hv, hv', compare_scale (pow_pos_int _)]
theorem cmpInt_G {a n : Int} (ha : a.natAbs ≤ 2 ^ 53) : cmpInt (G a) n = some (compare a (4096 * n)) := by
  obtain ⟨m, e, hd, hv⟩ := G_dec ha
  rw [cmpInt_right hd, hv, K_split, ← Int.mul_assoc, Int.mul_comm n 4096, compare_scale (pow_pos_int _)]

end Mine
-- FL2
namespace Mine
open PySem PySem.Float64
/-- a correctly rounded value lies between grid numbers that the exact one lies between; magnitudes -/
theorem near_hi {r : UInt64} {neg : Bool} {W D n k : Nat} (h : Right r neg W D) (hD : 0 < D) (hk : k ≤ 1900) (hn : n ≤ 2 ^ 53) (hW : W ≤ D * (n * 2 ^ k)) :
    ∃ t, r = pack neg t ∧ t < infMag ∧ V t ≤ n * 2 ^ k := by
  obtain ⟨t, hr, hle, hov, hnear⟩ := h
  have hlt : t < infMag := by
    refine Nat.lt_of_le_of_ne hle fun e => ?_
    exact not_over hn hk hD hW (hov.mp e)
  refine ⟨t, hr, hlt, ?_⟩
  obtain ⟨t', _, hV⟩ := rep k (by omega) n hn
  have h1 := (hnear hlt t').1
  rw [hV] at h1
  refine Nat.le_of_not_lt fun hc => ?_
  have h2 : D * (n * 2 ^ k) < D * V t := Nat.mul_lt_mul_of_pos_left hc hD
  unfold dist at h1
  omega
theorem near_lo {r : UInt64} {neg : Bool} {W D n k t : Nat} (h : Right r neg W D) (hD : 0 < D) (hk : k ≤ 1900) (hn : n ≤ 2 ^ 53) (hW : D * (n * 2 ^ k) ≤ W) (hr : r = pack neg t) (hlt : t < infMag) : n * 2 ^ k ≤ V t := by
  obtain ⟨t0, hr0, hle, hov, hnear⟩ := h
  have ht : t0 = t := by
    have h1 : (pack neg t0).toNat = (pack neg t).toNat := by rw [← hr0, ← hr]
    rw [pack_toNat neg (by unfold infMag at hle; omega), pack_toNat neg (by unfold infMag at hlt; omega)] at h1
    omega
  subst ht
  obtain ⟨t', _, hV⟩ := rep k (by omega) n hn
  have h1 := (hnear hlt t').1
  rw [hV] at h1
  refine Nat.le_of_not_lt fun hc => ?_
  have h2 : D * V t0 < D * (n * 2 ^ k) := Nat.mul_lt_mul_of_pos_left hc hD
  unfold dist at h1
  omega
theorem sgn_true (n : Nat) : sgn true n = -(n : Int) := rfl
theorem sgn_false (n : Nat) : sgn false n = (n : Int) := rfl
theorem cast_shift (n k : Nat) : ((n * 2 ^ k : Nat) : Int) = (n : Int) * 2 ^ k := by simp
/-- the same with signs: S the exact value times D, in units 2^-1074 -/
theorem between {r : UInt64} {neg : Bool} {W D k : Nat} {lo hi : Int} (h : Right r neg W D) (hD : 0 < D) (hk : k ≤ 1900) (hl : lo.natAbs ≤ 2 ^ 53) (hh : hi.natAbs ≤ 2 ^ 53)
    (h1 : lo * 2 ^ k * D ≤ sgn neg W) (h2 : sgn neg W ≤ hi * 2 ^ k * D) : ∃ a, Val r a ∧ lo * 2 ^ k ≤ a ∧ a ≤ hi * 2 ^ k := by
  have hK := pow_pos_int k
  have hDi : (0 : Int) < (D : Int) := by omega
  cases neg with
  | false =>
    rw [sgn_false] at h1 h2
    have hi0 : 0 ≤ hi := by
      by_cases c : 0 ≤ hi
      · exact c
      · exfalso
        have := Int.mul_neg_of_neg_of_pos (Int.mul_neg_of_neg_of_pos (show hi < 0 by omega) hK) hDi
        omega
    obtain ⟨n, rfl⟩ := Int.eq_ofNat_of_zero_le hi0
    have hW : W ≤ D * (n * 2 ^ k) := by
      have e : ((D * (n * 2 ^ k) : Nat) : Int) = (n : Int) * 2 ^ k * D := by rw [Int.natCast_mul, cast_shift, Int.mul_comm]
      omega
    obtain ⟨t, hr, hlt, hV⟩ := near_hi h hD hk (n := n) (by omega) hW
    obtain ⟨m, e, hd, _⟩ := decode_pack false hlt
    have hv := val_pack false hlt
    refine ⟨V t, ⟨false, m, e, by rw [hr]; exact hd, by rw [hr, hv, sgn_false]⟩, ?_, ?_⟩
    · by_cases c : 0 ≤ lo
      · obtain ⟨n', rfl⟩ := Int.eq_ofNat_of_zero_le c
        have hW' : D * (n' * 2 ^ k) ≤ W := by
          have e : ((D * (n' * 2 ^ k) : Nat) : Int) = (n' : Int) * 2 ^ k * D := by rw [Int.natCast_mul, cast_shift, Int.mul_comm]
          omega
        have := near_lo h hD hk (n := n') (by omega) hW' hr hlt
        rw [← cast_shift]; omega
      · have := Int.mul_neg_of_neg_of_pos (show lo < 0 by omega) hK
        omega
    · rw [← cast_shift]; omega
  | true =>
    rw [sgn_true] at h1 h2
    have lo0 : lo ≤ 0 := by
      by_cases c : lo ≤ 0
      · exact c
      · exfalso
        have := Int.mul_pos (Int.mul_pos (show 0 < lo by omega) hK) hDi
        omega
    obtain ⟨n, hn⟩ := Int.eq_ofNat_of_zero_le (show 0 ≤ -lo by omega)
    have hlo : lo = -(n : Int) := by omega
    subst hlo
    rw [Int.neg_mul, Int.neg_mul] at h1
    have hW : W ≤ D * (n * 2 ^ k) := by
      have e : ((D * (n * 2 ^ k) : Nat) : Int) = (n : Int) * 2 ^ k * D := by rw [Int.natCast_mul, cast_shift, Int.mul_comm]
      omega
    obtain ⟨t, hr, hlt, hV⟩ := near_hi h hD hk (n := n) (by omega) hW
    obtain ⟨m, e, hd, _⟩ := decode_pack true hlt
    have hv := val_pack true hlt
    refine ⟨-(V t : Int), ⟨true, m, e, by rw [hr]; exact hd, by rw [hr, hv, sgn_true]⟩, ?_, ?_⟩
    · rw [Int.neg_mul, ← cast_shift]; omega
    · by_cases c : hi ≤ 0
      · obtain ⟨n', hn'⟩ := Int.eq_ofNat_of_zero_le (show 0 ≤ -hi by omega)
        have hhi : hi = -(n' : Int) := by omega
        subst hhi
        rw [Int.neg_mul, Int.neg_mul] at h2
        have hW' : D * (n' * 2 ^ k) ≤ W := by
          have e : ((D * (n' * 2 ^ k) : Nat) : Int) = (n' : Int) * 2 ^ k * D := by rw [Int.natCast_mul, cast_shift, Int.mul_comm]
          omega
        have := near_lo h hD hk (n := n') (by omega) hW' hr hlt
        rw [Int.neg_mul, ← cast_shift]; omega
      · have := Int.mul_pos (show 0 < hi by omega) hK
        omega
/-- a value between q and q + 1 - 2^-j has floor q -/
theorem floor_between {r : UInt64} {a q : Int} {j : Nat} (h : Val r a) (hj : j ≤ 1074) (h1 : q * 2 ^ j * 2 ^ (1074 - j) ≤ a) (h2 : a ≤ ((q + 1) * 2 ^ j - 1) * 2 ^ (1074 - j)) : FloorIs r q := by
  obtain ⟨s, m, e, hd, hv⟩ := h
  refine ⟨s, m, e, hd, ?_⟩
  rw [floorOf_val hd, hv]
  have e1 : (2 : Int) ^ 1074 = 2 ^ j * 2 ^ (1074 - j) := by rw [← Int.pow_add]; congr 1; omega
  have hK := pow_pos_int (1074 - j)
  have e2 : (q + 1) * 2 ^ j * 2 ^ (1074 - j) = q * (2 ^ j * 2 ^ (1074 - j)) + 2 ^ j * 2 ^ (1074 - j) := by rw [Int.mul_assoc, Int.add_mul, Int.one_mul]
  rw [Int.sub_mul, e2] at h2
  rw [Int.mul_assoc] at h1
  rw [e1]
  refine (Int.ediv_eq_iff_of_pos (Int.mul_pos (pow_pos_int _) hK)).mpr ⟨h1, ?_⟩
  generalize q * (2 ^ j * 2 ^ (1074 - j)) = P at *
  generalize (2 : Int) ^ j * 2 ^ (1074 - j) = P' at *
  omega
theorem sgn_val {x : UInt64} {s : Bool} {m : Nat} {e : Int} (h : decode x = .fin s m e) : sgn s (val x).natAbs = val x := by rw [val_natAbs h, val_eq h]
theorem div_between {x : UInt64} {a lo hi b q : Int} {j : Nat} (hx : Val x a) (h1 : lo * 2 ^ 1062 ≤ a) (h2 : a ≤ hi * 2 ^ 1062) (hb : 0 < b) (hb2 : b ≤ 2 ^ 53) (hj : j ≤ 1062) (hbj : b ≤ 2 ^ j)
    (hq : q * b ≤ lo) (hq2 : hi + 1 ≤ (q + 1) * b) (hql : (q * 2 ^ j).natAbs ≤ 2 ^ 53) (hqh : ((q + 1) * 2 ^ j - 1).natAbs ≤ 2 ^ 53) : FloorIs (div x (G b)) q := by
  obtain ⟨s, m, e, hd, hv⟩ := hx
  obtain ⟨k, f, hd', hv'⟩ := G_dec (z := b) (by omega)
  have hC := pow_pos_int 1062
  have hP := pow_pos_int j
  have hR := pow_pos_int (1074 - j)
  have hPR : (2 : Int) ^ 1074 = 2 ^ j * 2 ^ (1074 - j) := by rw [← Int.pow_add]; congr 1; omega
  have hk0 : k ≠ 0 := by
    intro c
    subst c
    have h3 := val_eq hd'
    rw [hv'] at h3
    have : (0 : Int) < b * 2 ^ 1062 := Int.mul_pos hb hC
    have h4 : sgn (decide (b < 0)) (0 * 2 ^ (f + 1074).toNat) = 0 := by rw [Nat.zero_mul]; unfold sgn; split <;> rfl
    omega
  have h := div_right hd hd' hk0
  have hs : (s != decide (b < 0)) = s := by rw [decide_eq_false (by omega)]; cases s <;> rfl
  rw [hs, hv, hv'] at h
  have hbC : 0 < b * 2 ^ 1062 := Int.mul_pos hb hC
  have hS : sgn s (a.natAbs * 2 ^ 1074) = a * 2 ^ 1074 := by
    rw [sgn_mul]
    have := sgn_val hd
    rw [hv] at this
    rw [this]
    simp
  have hD : (((b * 2 ^ 1062).natAbs : Nat) : Int) = b * 2 ^ 1062 := Int.natAbs_of_nonneg (Int.le_of_lt hbC)
  obtain ⟨v, hv2, hl, hh⟩ := between (k := 1074 - j) (lo := q * 2 ^ j) (hi := (q + 1) * 2 ^ j - 1) h (by omega) (by omega) hql hqh
    (by
      rw [hS, hD, hPR]
      generalize (2 : Int) ^ 1062 = C at *
      generalize (2 : Int) ^ j = P at *
      generalize (2 : Int) ^ (1074 - j) = R at *
      have e1 : q * P * R * (b * C) = q * b * C * (P * R) := by ac_rfl
      rw [e1]
      refine Int.mul_le_mul_of_nonneg_right ?_ (Int.le_of_lt (Int.mul_pos hP hR))
      exact Int.le_trans (Int.mul_le_mul_of_nonneg_right hq (Int.le_of_lt hC)) h1)
    (by
      rw [hS, hD, hPR]
      generalize (2 : Int) ^ 1062 = C at *
      generalize (2 : Int) ^ j = P at *
      generalize (2 : Int) ^ (1074 - j) = R at *
      have e1 : ((q + 1) * P - 1) * R * (b * C) = (((q + 1) * P - 1) * b) * C * R := by ac_rfl
      have e2 : a * (P * R) = a * P * R := by ac_rfl
      rw [e1, e2]
      refine Int.mul_le_mul_of_nonneg_right ?_ (Int.le_of_lt hR)
      have e3 : hi * P ≤ ((q + 1) * P - 1) * b := by
        have e4 : ((q + 1) * P - 1) * b = (q + 1) * b * P - b := by rw [Int.sub_mul, Int.one_mul]; congr 1; ac_rfl
        rw [e4]
        have e5 : (hi + 1) * P ≤ (q + 1) * b * P := Int.mul_le_mul_of_nonneg_right hq2 (Int.le_of_lt hP)
        rw [Int.add_mul, Int.one_mul] at e5
        omega
      refine Int.le_trans (Int.mul_le_mul_of_nonneg_right h2 (Int.le_of_lt hP)) ?_
      have e6 : hi * C * P = hi * P * C := by ac_rfl
      rw [e6]
      exact Int.mul_le_mul_of_nonneg_right e3 (Int.le_of_lt hC))
  exact floor_between hv2 (by omega) hl hh
theorem div_G {a b q : Int} (j : Nat) (ha : a.natAbs ≤ 2 ^ 53) (hb : 0 < b) (hb2 : b ≤ 2 ^ 53) (hj : j ≤ 1062) (hbj : b ≤ 2 ^ j)
    (hq : q * b ≤ a) (hq2 : a + 1 ≤ (q + 1) * b) (hql : (q * 2 ^ j).natAbs ≤ 2 ^ 53) (hqh : ((q + 1) * 2 ^ j - 1).natAbs ≤ 2 ^ 53) : FloorIs (div (G a) (G b)) q :=
  div_between (G_val ha) (Int.le_refl _) (Int.le_refl _) hb hb2 hj hbj hq hq2 hql hqh
theorem quot_floor {a b q : Int} (j : Nat) (hb : 0 < b) (hj : j ≤ 1062) (hbj : b ≤ 2 ^ j)
    (hq : q * b ≤ a) (hq2 : a + 1 ≤ (q + 1) * b) (hql : (q * 2 ^ j).natAbs ≤ 2 ^ 53) (hqh : ((q + 1) * 2 ^ j - 1).natAbs ≤ 2 ^ 53) :
    FloorIs (ofFrac (decide (a < 0) != decide (b < 0)) a.natAbs b.natAbs) q := by
  have hP := pow_pos_int j
  have hR := pow_pos_int (1074 - j)
  have hPR : (2 : Int) ^ 1074 = 2 ^ j * 2 ^ (1074 - j) := by rw [← Int.pow_add]; congr 1; omega
  have h : Right (ofFrac (decide (a < 0) != decide (b < 0)) a.natAbs b.natAbs) (decide (a < 0)) (a.natAbs * 2 ^ 1074) b.natAbs := by
    have hs : (decide (a < 0) != decide (b < 0)) = decide (a < 0) := by rw [decide_eq_false (p := b < 0) (by omega)]; cases decide (a < 0) <;> rfl
    rw [hs]
    exact ofFrac_right (by omega) rfl (by omega)
  have hS : sgn (decide (a < 0)) (a.natAbs * 2 ^ 1074) = a * 2 ^ 1074 := by
    rw [sgn_mul, sgn_cast]
    simp
  have hD : ((b.natAbs : Nat) : Int) = b := Int.natAbs_of_nonneg (Int.le_of_lt hb)
  obtain ⟨v, hv2, hl, hh⟩ := between (k := 1074 - j) (lo := q * 2 ^ j) (hi := (q + 1) * 2 ^ j - 1) h (by omega) (by omega) hql hqh
    (by
      rw [hS, hD, hPR]
      generalize (2 : Int) ^ j = P at *
      generalize (2 : Int) ^ (1074 - j) = R at *
      have e1 : q * P * R * b = q * b * (P * R) := by ac_rfl
      rw [e1]
      exact Int.mul_le_mul_of_nonneg_right hq (Int.le_of_lt (Int.mul_pos hP hR)))
    (by
      rw [hS, hD, hPR]
      generalize (2 : Int) ^ j = P at *
      generalize (2 : Int) ^ (1074 - j) = R at *
      have e1 : ((q + 1) * P - 1) * R * b = (((q + 1) * P - 1) * b) * R := by ac_rfl
      have e2 : a * (P * R) = a * P * R := by ac_rfl
      rw [e1, e2]
      refine Int.mul_le_mul_of_nonneg_right ?_ (Int.le_of_lt hR)
      have e4 : ((q + 1) * P - 1) * b = (q + 1) * b * P - b := by rw [Int.sub_mul, Int.one_mul]; congr 1; ac_rfl
      rw [e4]
      have e5 : (a + 1) * P ≤ (q + 1) * b * P := Int.mul_le_mul_of_nonneg_right hq2 (Int.le_of_lt hP)
      rw [Int.add_mul, Int.one_mul] at e5
      omega)
  exact floor_between hv2 (by omega) hl hh

end Mine
-- FL3
namespace Mine
open PySem PySem.Float64
theorem lit_half : (0x3fe0000000000000 : UInt64) = G 2048 := by decide +kernel
theorem lit_epoch : (0x413a445180000000 : UInt64) = G 7050958848 := by decide +kernel
theorem lit_year : (0x4076d40000000000 : UInt64) = G 1496064 := by decide +kernel
theorem lit_1524 : (0x4097d20000000000 : UInt64) = G 6244352 := by decide +kernel
theorem val_1221 : decode 0x405e866666666666 = .fin false 8592023664092774 (-46) := by kernel_rfl
theorem ofBin_right (neg : Bool) (m : Nat) (g : Int) (hg : -1074 ≤ g) : Right (ofBin neg m g) neg (m * 2 ^ (g + 1074).toNat) 1 := by
  unfold ofBin
  refine ofFrac_right (shift_pos _ _ _ (by decide)) ?_ (by decide)
  have := shift_one m g 1074 (by omega)
  rw [Nat.mul_one]
  exact this
theorem fmod_G {a b : Int} (ha : a.natAbs ≤ 2 ^ 53) (hb : 0 < b) (hb2 : b ≤ 2 ^ 53) : ∃ t, fmod (G a) (G b) = pack (decide (a < 0)) t ∧ t < infMag ∧ V t = (a.natAbs % b.natAbs) * 2 ^ 1062 := by
  obtain ⟨m, e, hd, hv⟩ := G_dec ha
  obtain ⟨k, f, hd', hv'⟩ := G_dec (z := b) (by omega)
  have hC := pow_pos_int 1062
  have hbC : 0 < b * 2 ^ 1062 := Int.mul_pos hb hC
  have hk0 : k ≠ 0 := by
    intro c
    subst c
    have h3 := val_eq hd'
    rw [hv'] at h3
    have h4 : sgn (decide (b < 0)) (0 * 2 ^ (f + 1074).toNat) = 0 := by rw [Nat.zero_mul]; unfold sgn; split <;> rfl
    omega
  have he := decode_ge hd
  have hf := decode_ge hd'
  have h : fmod (G a) (G b) = ofBin (decide (a < 0)) ((m * 2 ^ (e - min e f).toNat) % (k * 2 ^ (f - min e f).toNat)) (min e f) := by
    unfold fmod
    rw [hd, hd']
    simp only
    rw [if_neg (by simpa using hk0)]
    rfl
  have hr := ofBin_right (decide (a < 0)) ((m * 2 ^ (e - min e f).toNat) % (k * 2 ^ (f - min e f).toNat)) (min e f) (by omega)
  rw [← h] at hr
  have e1 : m * 2 ^ (e - min e f).toNat * 2 ^ (min e f + 1074).toNat = a.natAbs * 2 ^ 1062 := by
    rw [← natAbs_scale, ← hv, val_natAbs hd, Nat.mul_assoc, ← Nat.pow_add]
    congr 2
    omega
  have e2 : k * 2 ^ (f - min e f).toNat * 2 ^ (min e f + 1074).toNat = b.natAbs * 2 ^ 1062 := by
    rw [← natAbs_scale, ← hv', val_natAbs hd', Nat.mul_assoc, ← Nat.pow_add]
    congr 2
    omega
  have hW : (m * 2 ^ (e - min e f).toNat) % (k * 2 ^ (f - min e f).toNat) * 2 ^ (min e f + 1074).toNat = (a.natAbs % b.natAbs) * 2 ^ 1062 := by
    rw [← Nat.mul_mod_mul_right, e1, e2, Nat.mul_mod_mul_right]
  rw [hW] at hr
  have hle : a.natAbs % b.natAbs ≤ 2 ^ 53 := by
    have := Nat.mod_lt a.natAbs (show 0 < b.natAbs by omega)
    omega
  exact right_exact hr (by decide) (k := 1062) (by decide) hle (by rw [Nat.one_mul])
theorem isZero_pack (neg : Bool) {t : Nat} (h : t < infMag) : isZero (pack neg t) = decide (V t = 0) := by
  obtain ⟨m, e, hd, hv⟩ := decode_pack neg h
  unfold isZero
  rw [hd, ← hv]
  have hp := Nat.two_pow_pos (e + 1074).toNat
  cases m with
  | zero => simp
  | succ k =>
    have : (k + 1) * 2 ^ (e + 1074).toNat ≠ 0 := Nat.mul_ne_zero (by omega) (by omega)
    simp [this]
theorem sign_G {b : Int} (hb : 0 < b) (hb2 : b ≤ 2 ^ 53) : signBit (G b) = false := by
  obtain ⟨t, hr, hlt, hV⟩ := right_exact (G_right b) (by decide) (k := 1062) (by decide) (n := b.natAbs) (by omega) (by rw [Nat.one_mul])
  rw [hr, decide_eq_false (by omega)]
  unfold signBit
  rw [pack_toNat false (by unfold infMag at hlt; omega)]
  unfold infMag at hlt
  have : ((if false = true then 2 ^ 63 else 0) + t) / 2 ^ 63 = 0 := by simp; omega
  rw [this]
  rfl
theorem pack_G {z : Int} {t : Nat} (hz : z.natAbs ≤ 2 ^ 53) (hV : V t = z.natAbs * 2 ^ 1062) : pack (decide (z < 0)) t = G z := by
  obtain ⟨t', hr', _, hV'⟩ := right_exact (G_right z) (by decide) (k := 1062) (by decide) hz (by rw [Nat.one_mul])
  rw [hr', V_inj (hV.trans hV'.symm)]
theorem lt_G {a b : Int} (ha : a.natAbs ≤ 2 ^ 53) (hb : b.natAbs ≤ 2 ^ 53) : lt (G a) (G b) = decide (a < b) := by
  unfold lt
  rw [cmp_G ha hb]
  by_cases h : a < b
  · rw [Int.compare_eq_lt.mpr h, decide_eq_true h]; rfl
  · rw [decide_eq_false h]
    have : compare a b ≠ .lt := fun c => h (Int.compare_eq_lt.mp c)
    cases hc : compare a b <;> first | exact absurd hc this | rfl
theorem mod_G {a b : Int} (ha : a.natAbs ≤ 2 ^ 53) (hb : 0 < b) (hb2 : b ≤ 2 ^ 53) : (divmod (G a) (G b)).2 = G (a % b) := by
  obtain ⟨t, hm, hlt, hV⟩ := fmod_G ha hb hb2
  have hC : 0 < (2 : Nat) ^ 1062 := Nat.two_pow_pos _
  have hmod := Nat.mod_lt a.natAbs (show 0 < b.natAbs by omega)
  have hemod : a % b = if a < 0 then (if a.natAbs % b.natAbs = 0 then 0 else b - (a.natAbs % b.natAbs : Nat)) else (a.natAbs % b.natAbs : Nat) := by
    obtain ⟨n, hn⟩ := Int.eq_ofNat_of_zero_le (Int.le_of_lt hb)
    subst hn
    have e0 : ((n : Int)).natAbs = n := rfl
    rw [e0]
    split
    · rename_i h
      obtain ⟨c, hc⟩ := Int.eq_ofNat_of_zero_le (show 0 ≤ -a by omega)
      have : a = -(c : Int) := by omega
      subst this
      have e1 : (-(c : Int)).natAbs = c := by omega
      rw [e1]
      split
      · rename_i h0
        exact Int.emod_eq_zero_of_dvd (Int.dvd_neg.mpr (Int.ofNat_dvd.mpr (Nat.dvd_of_mod_eq_zero h0)))
      · rename_i h0
        have h3 := Nat.div_add_mod c n
        have h5 : (-(c : Int)) = ((n : Int) - ((c % n : Nat) : Int)) + n * (-((c / n : Nat) : Int) - 1) := by
          have : ((n * (c / n) + c % n : Nat) : Int) = c := by rw [h3]
          rw [Int.natCast_add, Int.natCast_mul] at this
          rw [Int.mul_sub, Int.mul_neg, Int.mul_one]
          omega
        rw [h5, Int.add_mul_emod_self_left]
        have h6 := Nat.mod_lt c (show 0 < n by omega)
        exact Int.emod_eq_of_lt (by omega) (by omega)
    · rename_i h
      obtain ⟨c, hc⟩ := Int.eq_ofNat_of_zero_le (show 0 ≤ a by omega)
      subst hc
      rfl
  unfold divmod
  simp only [hm]
  rw [isZero_pack _ hlt, hV]
  by_cases h0 : a.natAbs % b.natAbs = 0
  · rw [h0, Nat.zero_mul, decide_eq_true rfl]
    simp only [if_true]
    have e : a % b = 0 := by rw [hemod, h0]; simp
    rw [e, G_zero]
    unfold copysign
    rw [sign_G hb hb2]
    decide +kernel
  · have hne : a.natAbs % b.natAbs * 2 ^ 1062 ≠ 0 := Nat.mul_ne_zero h0 (by omega)
    rw [decide_eq_false hne]
    simp only [Bool.false_eq_true, if_false]
    rw [← G_zero, lt_G (by omega) (by decide), decide_eq_false (by omega)]
    by_cases hn : a < 0
    · have hp : pack (decide (a < 0)) t = G (-((a.natAbs % b.natAbs : Nat) : Int)) := by
        have hz : decide (a < 0) = decide (-((a.natAbs % b.natAbs : Nat) : Int) < 0) := by rw [decide_eq_true hn, decide_eq_true (by omega)]
        rw [hz]
        exact pack_G (by omega) (by rw [hV]; congr 1; omega)
      rw [hp, lt_G (by omega) (by decide), decide_eq_true (by omega)]
      simp only [bne_iff_ne, ne_eq, Bool.false_eq_true, not_false_eq_true, if_true]
      rw [add_G (by omega) (by omega) (by omega), hemod, if_pos hn, if_neg h0]
      congr 1
      omega
    · have hp : pack (decide (a < 0)) t = G ((a.natAbs % b.natAbs : Nat) : Int) := by
        have hz : decide (a < 0) = decide (((a.natAbs % b.natAbs : Nat) : Int) < 0) := by rw [decide_eq_false hn, decide_eq_false (by omega)]
        rw [hz]
        exact pack_G (by omega) (by rw [hV]; congr 1)
      rw [hp, lt_G (by omega) (by decide), decide_eq_false (by omega)]
      simp only [bne_self_eq_false, Bool.false_eq_true, if_false]
      rw [hemod, if_neg hn]
/-- b - 122.1, rounded -/
theorem sub_1221 {b : Int} (hb : (4096 * b).natAbs ≤ 2 ^ 52) : ∃ a, Val (Float64.sub (G (4096 * b)) 0x405e866666666666) a ∧ (4096 * b - 500122) * 2 ^ 1062 ≤ a ∧ a ≤ (4096 * b - 500121) * 2 ^ 1062 := by
  obtain ⟨m, e, hd, hv⟩ := G_dec (z := 4096 * b) (by omega)
  have hl : val 0x405e866666666666 = 8592023664092774 * 2 ^ 1028 := by rw [val_eq val_1221]; decide +kernel
  have h := sub_right hd val_1221
  rw [hv, hl] at h
  have e1 : (2 : Int) ^ 1062 = 17179869184 * 2 ^ 1028 := by decide +kernel
  have hC := pow_pos_int 1028
  have h3 : 4096 * b * 2 ^ 1062 - 8592023664092774 * 2 ^ 1028 = (70368744177664 * b - 8592023664092774) * 2 ^ 1028 := by
    rw [e1, Int.sub_mul]
    congr 1
    generalize (2 : Int) ^ 1028 = C
    rw [← Int.mul_assoc]
    congr 1
    omega
  rw [h3] at h
  have hne : (70368744177664 * b - 8592023664092774) * 2 ^ 1028 ≠ 0 := by
    intro c
    rcases Int.mul_eq_zero.mp c with c | c
    · omega
    · omega
  have hr := h.2 hne
  refine between hr (by decide) (by decide) (by omega) (by omega) ?_ ?_
  · rw [sgn_cast, e1, Int.natCast_one, Int.mul_one, ← Int.mul_assoc]
    exact Int.mul_le_mul_of_nonneg_right (by omega) (Int.le_of_lt hC)
  · rw [sgn_cast, e1, Int.natCast_one, Int.mul_one, ← Int.mul_assoc]
    exact Int.mul_le_mul_of_nonneg_right (by omega) (Int.le_of_lt hC)
theorem quot_at {a b : Int} (j : Nat) (hb : 0 < b) (hj : j ≤ 1062) (hbj : b ≤ 2 ^ j) (hql : (a / b * 2 ^ j).natAbs ≤ 2 ^ 53) (hqh : ((a / b + 1) * 2 ^ j - 1).natAbs ≤ 2 ^ 53) :
    FloorIs (ofFrac (decide (a < 0) != decide (b < 0)) a.natAbs b.natAbs) (a / b) :=
  quot_floor j hb hj hbj (Int.ediv_mul_le a (by omega)) (Int.add_one_le_of_lt (Int.lt_ediv_add_one_mul_self a hb)) hql hqh
theorem div_at {a b : Int} (j : Nat) (ha : a.natAbs ≤ 2 ^ 53) (hb : 0 < b) (hb2 : b ≤ 2 ^ 53) (hj : j ≤ 1062) (hbj : b ≤ 2 ^ j) (hql : (a / b * 2 ^ j).natAbs ≤ 2 ^ 53) (hqh : ((a / b + 1) * 2 ^ j - 1).natAbs ≤ 2 ^ 53) :
    FloorIs (div (G a) (G b)) (a / b) :=
  div_G j ha hb hb2 hj hbj (Int.ediv_mul_le a (by omega)) (Int.add_one_le_of_lt (Int.lt_ediv_add_one_mul_self a hb)) hql hqh

end Mine
-- WR
namespace Mine
open PySem PySem.W PyProof.Rows PySem.Calls PySem.Flt
noncomputable abbrev LS : List Str := looseW hd.view_39
    [Str.ofString "legal_date_gregorian", Str.ofString "to_jd_gregorian", Str.ofString "from_jd_gregorian",
      Str.ofString "legal_date_julian", Str.ofString "from_jd_julian", Str.ofString "to_jd_julian"]
abbrev Led := List (Addr × Obj)
abbrev tupObj (v1 v2 v3 : Value) (c : Nat) : Obj := { cls := .type "tuple", data := .seq #[v1, v2, v3] c }
/-- a def's contract: lv frames deep; it hands back one value -/
def ClV (lv : Nat) (w : World) (mean : ExcName → Option Value) (mg mb : Str → Option Value) (f : Addr) (news : Led) (pre : Prop) (vs : List Value) (R : Tok → Value) : Prop :=
  ∀ (dp un : Nat) (gd : Option (List Code)) (cn : Str) (cs : Scope) (a : Addr) (ccd : Value) (cl : List (Str × Addr)) (outer : List Env) (A₀ : Around) (base h₀ : Heap) (L : Addr) (m : Str → Option Value) (s : Shared) (Q E : Value → Shared → Prop),
    Below A₀ base outer h₀ → Fr h₀ L s.heap m → (hd.heap_39 w.params).In h₀ → News h₀ L s.heap news → Top hd.view_39 LS mean mg mb h₀ → cs.kind = .function → pre → dp + lv < recursionLimit → un + 8 * lv < cLine →
    (∀ (t : Tok) (h' : Heap) (tk' : Nat), Fr h₀ L h' m → News h₀ L h' news → Q (R t) { s with heap := h', toks := tk' }) →
      wpAny (model Challenge.rw_ad5023_01.row.prog w) (ktrTop dp un gd cn cs L a ccd cl outer) (call (.ref f) vs) Q E s
/-- .. a tuple of three ints, new on the ledger -/
def ClT (lv : Nat) (w : World) (mean : ExcName → Option Value) (mg mb : Str → Option Value) (f : Addr) (news : Led) (pre : Prop) (vs : List Value) (x y z : Int) : Prop :=
  ∀ (dp un : Nat) (gd : Option (List Code)) (cn : Str) (cs : Scope) (a : Addr) (ccd : Value) (cl : List (Str × Addr)) (outer : List Env) (A₀ : Around) (base h₀ : Heap) (L : Addr) (m : Str → Option Value) (s : Shared) (Q E : Value → Shared → Prop),
    Below A₀ base outer h₀ → Fr h₀ L s.heap m → (hd.heap_39 w.params).In h₀ → News h₀ L s.heap news → Top hd.view_39 LS mean mg mb h₀ → cs.kind = .function → pre → dp + lv < recursionLimit → un + 8 * lv < cLine →
    (∀ (D : Addr) (t1 t2 t3 : Tok) (c : Nat) (h' : Heap) (tk' : Nat), Fr h₀ L h' m → News h₀ L h' ((D, tupObj (.int x t1) (.int y t2) (.int z t3) c) :: news) → AllLt D news → Q (.ref D) { s with heap := h', toks := tk' }) →
      wpAny (model Challenge.rw_ad5023_01.row.prog w) (ktrTop dp un gd cn cs L a ccd cl outer) (call (.ref f) vs) Q E s
section
variable {lv : Nat} {w : World} {mean : ExcName → Option Value} {mg mb : Str → Option Value} {f : Addr} {news : Led} {pre : Prop} {vs : List Value} {R : Tok → Value} {x y z : Int}
  {dp un : Nat} {gd : Option (List Code)} {cn : Str} {cs : Scope} {a : Addr} {ccd : Value} {cl : List (Str × Addr)} {outer : List Env} {A₀ : Around} {base h₀ : Heap} {L : Addr} {m : Str → Option Value} {s : Shared} {Q E : Value → Shared → Prop}
theorem useV (C : ClV lv w mean mg mb f news pre vs R) (B : Below A₀ base outer h₀) (F : Fr h₀ L s.heap m) (X : (hd.heap_39 w.params).In h₀) (N : News h₀ L s.heap news) (T : Top hd.view_39 LS mean mg mb h₀) (hk : cs.kind = .function) (hp : pre)
    (hd : dp + lv < recursionLimit) (hu : un + 8 * lv < cLine) (ret : ∀ (t : Tok) (h' : Heap) (tk' : Nat), Fr h₀ L h' m → News h₀ L h' news → Q (R t) { s with heap := h', toks := tk' }) :
    wpAny (model Challenge.rw_ad5023_01.row.prog w) (ktrTop dp un gd cn cs L a ccd cl outer) (call (.ref f) vs) Q E s := C _ _ _ _ _ _ _ _ _ _ _ _ _ _ _ _ _ B F X N T hk hp hd hu ret
theorem useT (C : ClT lv w mean mg mb f news pre vs x y z) (B : Below A₀ base outer h₀) (F : Fr h₀ L s.heap m) (X : (hd.heap_39 w.params).In h₀) (N : News h₀ L s.heap news) (T : Top hd.view_39 LS mean mg mb h₀) (hk : cs.kind = .function) (hp : pre)
    (hd : dp + lv < recursionLimit) (hu : un + 8 * lv < cLine) (ret : ∀ (D : Addr) (t1 t2 t3 : Tok) (c : Nat) (h' : Heap) (tk' : Nat), Fr h₀ L h' m → News h₀ L h' ((D, tupObj (.int x t1) (.int y t2) (.int z t3) c) :: news) → AllLt D news → Q (.ref D) { s with heap := h', toks := tk' }) :
    wpAny (model Challenge.rw_ad5023_01.row.prog w) (ktrTop dp un gd cn cs L a ccd cl outer) (call (.ref f) vs) Q E s := C _ _ _ _ _ _ _ _ _ _ _ _ _ _ _ _ _ B F X N T hk hp hd hu ret
theorem ret_f {h' : Heap} {x y : Int} {t : Tok} {tk' : Nat} (hret : ∀ (t : Tok) (h' : Heap) (tk' : Nat), Fr h₀ L h' m → News h₀ L h' news → Q (.float (G x) t) { s with heap := h', toks := tk' }) (e : y = x) (F : Fr h₀ L h' m) (N : News h₀ L h' news) : Q (.float (G y) t) { s with heap := h', toks := tk' } := by
  subst e
  exact hret t h' tk' F N
end

section
variable {prog : Program} {w : World} {A : Around} {E : Value → Shared → Prop} {s : Shared} {x y : UInt64} {a b n i : Int} {t u : Tok} {Q : Value → Shared → Prop}
abbrev Sm (a : Int) : Prop := a.natAbs ≤ 2 ^ 53
theorem g_add (hx : x = G a) (hy : y = G b) (ha : Sm a) (hb : Sm b) (hab : Sm (a + b)) (h : Q (.float (G (a + b)) s.toks) { s with toks := s.toks + 1 }) : wpAny (model prog w) A (binaryOp .Add (.float x t) (.float y u)) Q E s := by
  subst hx; subst hy
  refine add_float ?_
  rw [add_G ha hb hab]
  exact h
theorem g_sub (hx : x = G a) (hy : y = G b) (ha : Sm a) (hb : Sm b) (hab : Sm (a - b)) (h : Q (.float (G (a - b)) s.toks) { s with toks := s.toks + 1 }) : wpAny (model prog w) A (binaryOp .Sub (.float x t) (.float y u)) Q E s := by
  subst hx; subst hy
  refine sub_float ?_
  rw [sub_G ha hb hab]
  exact h
theorem fits_of (hn : Sm (4096 * n)) : n.natAbs < 2 ^ 1023 := by
  have : n.natAbs < 2 ^ 54 := by omega
  exact Nat.lt_trans this (Nat.pow_lt_pow_right (by decide) (by decide))
theorem g_addfi (hx : x = G a) (ha : Sm a) (hb : Sm (4096 * n)) (hab : Sm (a + 4096 * n)) (h : Q (.float (G (a + 4096 * n)) s.toks) { s with toks := s.toks + 1 }) : wpAny (model prog w) A (binaryOp .Add (.float x t) (.int n u)) Q E s := by
  subst hx
  refine add_fi_fits (fits_of hb) ?_
  rw [ofInt_G hb, add_G ha hb hab]
  exact h
theorem g_iaddfi (hx : x = G a) (ha : Sm a) (hb : Sm (4096 * n)) (hab : Sm (a + 4096 * n)) (h : Q (.float (G (a + 4096 * n)) s.toks) { s with toks := s.toks + 1 }) (hA : A.handled = none) : wpAny (model prog w) A (inplaceOp .Add (.float x t) (.int n u)) Q E s := by
  subst hx
  refine iadd_fi hA (fun c => absurd (Flt.inf_of_over c) (Float64.ofInt_fits (fits_of hb))) fun _ => ?_
  rw [ofInt_G hb, add_G ha hb hab]
  exact h
theorem g_iaddif (hx : x = G a) (ha : Sm a) (hb : Sm (4096 * n)) (hab : Sm (4096 * n + a)) (h : Q (.float (G (4096 * n + a)) s.toks) { s with toks := s.toks + 1 }) (hA : A.handled = none) : wpAny (model prog w) A (inplaceOp .Add (.int n u) (.float x t)) Q E s := by
  subst hx
  refine iadd_if hA (fun c => absurd (Flt.inf_of_over c) (Float64.ofInt_fits (fits_of hb))) fun _ => ?_
  rw [ofInt_G hb, add_G hb ha hab]
  exact h
theorem g_iadd (hx : x = G a) (hy : y = G b) (ha : Sm a) (hb : Sm b) (hab : Sm (a + b)) (h : Q (.float (G (a + b)) s.toks) { s with toks := s.toks + 1 }) : wpAny (model prog w) A (inplaceOp .Add (.float x t) (.float y u)) Q E s := by
  subst hx; subst hy
  refine iadd_float ?_
  rw [add_G ha hb hab]
  exact h
theorem g_addif (hx : x = G a) (ha : Sm a) (hb : Sm (4096 * n)) (hab : Sm (4096 * n + a)) (h : Q (.float (G (4096 * n + a)) s.toks) { s with toks := s.toks + 1 }) : wpAny (model prog w) A (binaryOp .Add (.int n u) (.float x t)) Q E s := by
  subst hx
  refine add_if_fits (fits_of hb) ?_
  rw [ofInt_G hb, add_G hb ha hab]
  exact h
theorem g_subfi (hx : x = G a) (ha : Sm a) (hb : Sm (4096 * n)) (hab : Sm (a - 4096 * n)) (h : Q (.float (G (a - 4096 * n)) s.toks) { s with toks := s.toks + 1 }) : wpAny (model prog w) A (binaryOp .Sub (.float x t) (.int n u)) Q E s := by
  subst hx
  refine sub_fi_fits (fits_of hb) ?_
  rw [ofInt_G hb, sub_G ha hb hab]
  exact h
theorem g_subif (hx : x = G a) (ha : Sm a) (hb : Sm (4096 * n)) (hab : Sm (4096 * n - a)) (h : Q (.float (G (4096 * n - a)) s.toks) { s with toks := s.toks + 1 }) : wpAny (model prog w) A (binaryOp .Sub (.int n u) (.float x t)) Q E s := by
  subst hx
  refine sub_if_fits (fits_of hb) ?_
  rw [ofInt_G hb, sub_G hb ha hab]
  exact h
/-- a float times an int, one of the two written and above nought: c is the product -/
theorem g_mulfi (hx : x = G a) {c : Int} (hc : a * n = c) (ha : Sm a) (hb : Sm (4096 * n)) (hab : Sm c) (hs : 0 < n ∨ 0 < a) (h : Q (.float (G c) s.toks) { s with toks := s.toks + 1 }) : wpAny (model prog w) A (binaryOp .Mult (.float x t) (.int n u)) Q E s := by
  subst hx; subst hc
  refine mul_fi_fits (fits_of hb) ?_
  rw [ofInt_G hb, mul_G ha hb hab ?_]
  · exact h
  · rcases hs with hs | hs
    · rw [decide_eq_false (p := 4096 * n < 0) (by omega), neg_scale hs]
      cases decide (a < 0) <;> rfl
    · rw [decide_eq_false (p := a < 0) (by omega), Int.mul_comm a n, neg_scale hs]
      have : decide (4096 * n < 0) = decide (n < 0) := decide_eq_decide.mpr (by omega)
      rw [this]
      cases decide (n < 0) <;> rfl
theorem g_divfi (hx : x = G a) (hb : 0 < n) (hb2 : Sm (4096 * n)) (h : Q (.float (Float64.div (G a) (G (4096 * n))) s.toks) { s with toks := s.toks + 1 }) (hA : A.handled = none) : wpAny (model prog w) A (binaryOp .Div (.float x t) (.int n u)) Q E s := by
  subst hx
  refine truediv_fi hA (fun c => absurd (Flt.inf_of_over c) (Float64.ofInt_fits (fits_of hb2))) (fun c => by omega) fun _ _ => ?_
  rw [ofInt_G hb2]
  exact h
theorem g_divii (hb : 0 < b) (ha : Sm a) (h : Q (.float (Float64.ofFrac (decide (a < 0) != decide (b < 0)) a.natAbs b.natAbs) s.toks) { s with toks := s.toks + 1 }) (hA : A.handled = none) : wpAny (model prog w) A (binaryOp .Div (.int a t) (.int b u)) Q E s := by
  refine div_ii_fits hA (fits_of (n := a / 4096) (by omega) |> fun _ => ?_) (fun c => by omega) fun _ _ => h
  have : a.natAbs < 2 ^ 54 := by omega
  exact Nat.lt_trans this (Nat.pow_lt_pow_right (by decide) (by decide))
theorem g_modfi (hx : x = G a) (ha : Sm a) (hb : 0 < n) (hb2 : Sm (4096 * n)) (h : Q (.float (G (a % (4096 * n))) s.toks) { s with toks := s.toks + 1 }) (hA : A.handled = none) : wpAny (model prog w) A (binaryOp .Mod (.float x t) (.int n u)) Q E s := by
  subst hx
  refine mod_fi hA (fun c => absurd (Flt.inf_of_over c) (Float64.ofInt_fits (fits_of hb2))) (fun c => by omega) fun _ _ => ?_
  rw [ofInt_G hb2, mod_G ha (by omega) (by omega)]
  exact h
theorem g_floor (hx : FloorIs x i) (h : Q (.int i s.toks) { s with toks := s.toks + 1 }) (hA : A.handled = none) : wpAny (model prog w) A (call (.builtin "math.floor") [.float x t]) Q E s := by
  obtain ⟨sg, m, e, hd, hi⟩ := hx
  refine call_floor_float hA (fun c => ?_) (fun c => ?_) fun _ => ?_
  · unfold Float64.isNaN at c; rw [hd] at c; cases c
  · unfold Float64.isInf at c; rw [hd] at c; cases c
  · rw [toInt_fin hd, hi]; exact h
theorem g_trunc (hx : TruncIs x i) (h : Q (.int i s.toks) { s with toks := s.toks + 1 }) (hA : A.handled = none) : wpAny (model prog w) A (call (.builtin "math.trunc") [.float x t]) Q E s := by
  obtain ⟨sg, m, e, hd, hi⟩ := hx
  refine call_trunc_float hA (fun c => ?_) (fun c => ?_) fun _ => ?_
  · unfold Float64.isNaN at c; rw [hd] at c; cases c
  · unfold Float64.isInf at c; rw [hd] at c; cases c
  · rw [toInt_fin hd, hi]; exact h
theorem g_int (hx : TruncIs x i) (h : Q (.int i s.toks) { s with toks := s.toks + 1 }) (hA : A.handled = none) : wpAny (model prog w) A (call (.type "int") [.float x t]) Q E s := by
  obtain ⟨sg, m, e, hd, hi⟩ := hx
  refine call_int_float3 hA (fun c => ?_) (fun c => ?_) fun _ => ?_
  · unfold Float64.isNaN at c; rw [hd] at c; cases c
  · unfold Float64.isInf at c; rw [hd] at c; cases c
  · rw [toInt_fin hd, hi]; exact h
theorem g_ltfi (hx : x = G a) (ha : Sm a) (h : Q (.bool (decide (a < 4096 * n))) s) : wpAny (model prog w) A (compareOp .Lt (.float x t) (.int n u)) Q E s := by
  subst hx
  refine lt_fi ?_
  rw [cmpInt_G ha]
  by_cases c : a < 4096 * n
  · rw [Int.compare_eq_lt.mpr c]; rw [decide_eq_true c] at h; exact h
  · rw [decide_eq_false c] at h
    have : (some (compare a (4096 * n)) == some Ordering.lt) = false := by
      cases hc : compare a (4096 * n) <;> first | rfl | exact absurd (Int.compare_eq_lt.mp hc) c
    rw [this]; exact h
theorem cmp_eq_G (ha : Sm a) (hb : Sm b) : (Float64.cmp (G a) (G b) == some .eq) = decide (a = b) := by
  rw [cmp_G ha hb]
  by_cases c : a = b
  · subst c; simp
  · rw [decide_eq_false c]
    cases hc : compare a b <;> first | rfl | exact absurd (Int.compare_eq_eq.mp hc) c
theorem g_eq (hx : x = G a) (hy : y = G b) (ha : Sm a) (hb : Sm b) (h : Q (.bool (decide (a = b))) s) : wpAny (model prog w) A (compareOp .Eq (.float x t) (.float y u)) Q E s := by
  subst hx; subst hy
  refine AutoFloatOps.eq_0 ?_
  rw [cmp_eq_G ha hb]
  exact h
theorem g_ne (hx : x = G a) (hy : y = G b) (ha : Sm a) (hb : Sm b) (h : Q (.bool (!decide (a = b))) s) : wpAny (model prog w) A (compareOp .NotEq (.float x t) (.float y u)) Q E s := by
  subst hx; subst hy
  refine AutoFloatOps.ne_0 ?_
  have : (Float64.cmp (G a) (G b) != some .eq) = !decide (a = b) := by rw [bne, cmp_eq_G ha hb]
  rw [this]
  exact h
end

end Mine
-- I1
namespace Mine
abbrev Lp (y : Int) : Prop := y % 4 = 0 ∧ (y % 100 ≠ 0 ∨ y % 400 = 0)
abbrev OkG (y m d : Int) : Prop := 1 ≤ m ∧ m ≤ 12 ∧ 1 ≤ d ∧ d ≤ 31 ∧ (m = 2 → d ≤ 28 ∨ (d = 29 ∧ y % 4 = 0 ∧ (y % 100 ≠ 0 ∨ y % 400 = 0))) ∧ (m = 4 ∨ m = 6 ∨ m = 9 ∨ m = 11 → d ≤ 30)
/-- the day's number: to_jd less a half -/
def gjd (y m d : Int) : Int := 1721424 + 365 * (y - 1) + (y - 1) / 4 - (y - 1) / 100 + (y - 1) / 400 + ((367 * m - 362) / 12 + (if m ≤ 2 then 0 else if Lp y then -1 else -2) + d)
abbrev base (y : Int) : Int := 365 * (y - 1) + (y - 1) / 4 - (y - 1) / 100 + (y - 1) / 400
theorem gjd_one (y : Int) : gjd y 1 1 = 1721425 + base y := by
  unfold gjd
  dsimp only [base]
  simp only [show (1 : Int) ≤ 2 by decide, if_true]
  omega
def gY (D : Int) : Int := if D % 146097 / 36524 = 4 ∨ D % 146097 % 36524 % 1461 / 365 = 4
  then D / 146097 * 400 + D % 146097 / 36524 * 100 + D % 146097 % 36524 / 1461 * 4 + D % 146097 % 36524 % 1461 / 365
  else D / 146097 * 400 + D % 146097 / 36524 * 100 + D % 146097 % 36524 / 1461 * 4 + D % 146097 % 36524 % 1461 / 365 + 1
theorem year_lemma {D q r1 c r2 d r3 y : Int} (h1 : q = D / 146097) (h2 : r1 = D % 146097) (h3 : c = r1 / 36524) (h4 : r2 = r1 % 36524) (h5 : d = r2 / 1461) (h6 : r3 = r2 % 1461) (h7 : y = r3 / 365) :
    (c = 4 ∨ y = 4 → D - base (q * 400 + c * 100 + d * 4 + y) = 365 ∧ Lp (q * 400 + c * 100 + d * 4 + y)) ∧
    (c ≠ 4 → y ≠ 4 → 0 ≤ D - base (q * 400 + c * 100 + d * 4 + y + 1) ∧ D - base (q * 400 + c * 100 + d * 4 + y + 1) ≤ 364 + (if Lp (q * 400 + c * 100 + d * 4 + y + 1) then 1 else 0)) := by
  have e1 : D = 146097 * q + r1 := by omega
  have b1 : 0 ≤ r1 ∧ r1 < 146097 := by omega
  have e2 : r1 = 36524 * c + r2 := by omega
  have b2 : 0 ≤ r2 ∧ r2 < 36524 := by omega
  have e3 : r2 = 1461 * d + r3 := by omega
  have b3 : 0 ≤ r3 ∧ r3 < 1461 := by omega
  have b4 : 365 * y ≤ r3 ∧ r3 < 365 * y + 365 := by omega
  clear h1 h2 h3 h4 h5 h6 h7
  have b5 : 0 ≤ c ∧ c ≤ 4 ∧ 0 ≤ d ∧ d ≤ 24 ∧ 0 ≤ y ∧ y ≤ 4 := by omega
  refine ⟨fun h => ?_, fun hc hy => ?_⟩
  · have f1 : (q * 400 + c * 100 + d * 4 + y - 1) / 400 = q := by omega
    have f2 : (q * 400 + c * 100 + d * 4 + y - 1) / 100 = 4 * q + (if c = 4 then 3 else c) := by split <;> omega
    have f3 : (q * 400 + c * 100 + d * 4 + y - 1) / 4 = 100 * q + (if c = 4 then 99 else 25 * c + d) := by split <;> omega
    refine ⟨?_, ?_⟩
    · dsimp only [base]
      rw [f1, f2, f3]
      split <;> omega
    · dsimp only [Lp]
      omega
  · have f1 : (q * 400 + c * 100 + d * 4 + y + 1 - 1) / 400 = q := by omega
    have f2 : (q * 400 + c * 100 + d * 4 + y + 1 - 1) / 100 = 4 * q + c := by omega
    have f3 : (q * 400 + c * 100 + d * 4 + y + 1 - 1) / 4 = 100 * q + 25 * c + d := by omega
    refine ⟨?_, ?_⟩
    · dsimp only [base]
      rw [f1, f2, f3]
      omega
    · dsimp only [base]
      rw [f1, f2, f3]
      split
      · omega
      · rename_i hl
        dsimp only [Lp] at hl
        omega
/-- what is known of the year of day D -/
structure YF (D Y : Int) : Prop where
  eq : Y = gY D
  lo : 0 ≤ D + 1721425 - gjd Y 1 1
  hi : D + 1721425 - gjd Y 1 1 ≤ 365
  last : D + 1721425 - gjd Y 1 1 = 365 → Y % 4 = 0 ∧ (Y % 100 ≠ 0 ∨ Y % 400 = 0)
  ylo : -1000000000 ≤ Y
  yhi : Y ≤ 1000000000
theorem YF.ex {D e : Int} (h : YF D e) : ∃ Y, e = Y ∧ YF D Y := ⟨e, rfl, h⟩
theorem yearA {D q r1 c r2 d r3 y : Int} (h1 : q = D / 146097) (h2 : r1 = D % 146097) (h3 : c = r1 / 36524) (h4 : r2 = r1 % 36524) (h5 : d = r2 / 1461) (h6 : r3 = r2 % 1461) (h7 : y = r3 / 365)
    (hb1 : -300000000000 ≤ D) (hb2 : D ≤ 300000000000) (hc : c = 4 ∨ y = 4) : YF D (q * 400 + c * 100 + d * 4 + y) := by
  have h := (year_lemma h1 h2 h3 h4 h5 h6 h7).1 hc
  have hl := h.2
  have e := gjd_one (q * 400 + c * 100 + d * 4 + y)
  have e' := h.1
  refine ⟨?_, by omega, by omega, fun _ => hl, by omega, by omega⟩
  unfold gY
  subst h1 h2 h3 h4 h5 h6 h7
  rw [if_pos hc]
theorem yearB {D q r1 c r2 d r3 y : Int} (h1 : q = D / 146097) (h2 : r1 = D % 146097) (h3 : c = r1 / 36524) (h4 : r2 = r1 % 36524) (h5 : d = r2 / 1461) (h6 : r3 = r2 % 1461) (h7 : y = r3 / 365)
    (hb1 : -300000000000 ≤ D) (hb2 : D ≤ 300000000000) (hc : c ≠ 4) (hy : y ≠ 4) : YF D (q * 400 + c * 100 + d * 4 + y + 1) := by
  have h := (year_lemma h1 h2 h3 h4 h5 h6 h7).2 hc hy
  have e := gjd_one (q * 400 + c * 100 + d * 4 + y + 1)
  have e' := h.1
  have e'' := h.2
  refine ⟨?_, by omega, ?_, fun h365 => ?_, by omega, by omega⟩
  · unfold gY
    subst h1 h2 h3 h4 h5 h6 h7
    rw [if_neg (by omega)]
  · split at e'' <;> omega
  · split at e''
    · rename_i hl; exact hl
    · omega
theorem year_of (D : Int) (hb1 : -300000000000 ≤ D) (hb2 : D ≤ 300000000000) : YF D (gY D) := by
  by_cases hc : D % 146097 / 36524 = 4 ∨ D % 146097 % 36524 % 1461 / 365 = 4
  · have h := yearA (D := D) rfl rfl rfl rfl rfl rfl rfl hb1 hb2 hc
    have e := h.eq
    rw [e] at h
    exact h
  · have h := yearB (D := D) rfl rfl rfl rfl rfl rfl rfl hb1 hb2 (by omega) (by omega)
    have e := h.eq
    rw [e] at h
    exact h
def gYd (D : Int) : Int := D + 1721425 - gjd (gY D) 1 1
def gLa (D : Int) : Int := if gYd D < 58 + (if Lp (gY D) then 1 else 0) then 0 else if Lp (gY D) then 1 else 2
def gM (D : Int) : Int := ((gYd D + gLa D) * 12 + 373) / 367
def gD (D : Int) : Int := D + 1721425 - gjd (gY D) (gM D) 1 + 1
theorem gjd_month (Y i d : Int) : gjd Y i d = gjd Y 1 1 + ((367 * i - 362) / 12 + (if i ≤ 2 then 0 else if Lp Y then -1 else -2)) + (d - 1) := by
  rw [gjd_one]
  unfold gjd
  dsimp only [base]
  omega
/-- what is known of the month of day D -/
structure MF (D Y i : Int) : Prop where
  eq : i = gM D
  ok : OkG Y i (D + 1721425 - gjd Y i 1 + 1)
  ok1 : OkG Y i 1
  lo : 0 ≤ D + 1721425 - gjd Y i 1
  hi : D + 1721425 - gjd Y i 1 ≤ 30
  gd : gD D = D + 1721425 - gjd Y i 1 + 1
theorem month_lemma {D Y yd la i k n : Int} (hY : YF D Y) (hk : (4096 * yd + 4096 * la) * 12 + 4096 * 373 = 4096 * k) (hi : i = k / 367) (hyd : 4096 * yd = 4096 * n + 2048 - (4096 * gjd Y 1 1 + 2048)) (hn : 4096 * D = 4096 * n + 2048 - 7050958848)
    (hc : (la = 0 ∧ (yd ≤ 57 ∨ (yd = 58 ∧ Lp Y))) ∨ (la = 1 ∧ Lp Y ∧ 59 ≤ yd) ∨ (la = 2 ∧ ¬ Lp Y ∧ 58 ≤ yd)) : MF D Y i := by
  obtain ⟨hYe, hlo, hhi, hlast, _, _⟩ := hY
  have e1 : yd = D + 1721425 - gjd Y 1 1 := by omega
  have e2 : k = (yd + la) * 12 + 373 := by omega
  subst e2
  have hla : la = gLa D := by
    unfold gLa gYd
    rw [← hYe, ← e1]
    rcases hc with ⟨h, h'⟩ | ⟨h, h', h''⟩ | ⟨h, h', h''⟩
    · rw [if_pos]
      · exact h
      · rcases h' with h' | ⟨h', hl⟩
        · split <;> omega
        · rw [if_pos hl]; omega
    · rw [if_pos h', if_neg (by omega), if_pos h']; exact h
    · rw [if_neg h', if_neg (by omega), if_neg h']; exact h
  have hM : i = gM D := by
    unfold gM
    rw [← hla]
    unfold gYd
    rw [← hYe, ← e1]
    exact hi
  have hg : gD D = D + 1721425 - gjd Y i 1 + 1 := by
    unfold gD
    rw [← hM, ← hYe]
  have hj := gjd_month Y i 1
  have hr1 : 0 ≤ yd := by omega
  have hr2 : yd ≤ 365 := by omega
  have hr3 : yd = 365 → Lp Y := fun h => hlast (by omega)
  have key : 1 ≤ i ∧ i ≤ 12 ∧ 0 ≤ yd - ((367 * i - 362) / 12 + (if i ≤ 2 then 0 else if Lp Y then -1 else -2)) ∧ OkG Y i (yd - ((367 * i - 362) / 12 + (if i ≤ 2 then 0 else if Lp Y then -1 else -2)) + 1) := by
    clear hla hM hg hj hlo hhi hlast hn hyd hk e1 hYe
    dsimp only [OkG, Lp] at *
    have hi1 : 1 ≤ i := by omega
    have hi2 : i ≤ 12 := by omega
    have hm : i = 1 ∨ i = 2 ∨ i = 3 ∨ i = 4 ∨ i = 5 ∨ i = 6 ∨ i = 7 ∨ i = 8 ∨ i = 9 ∨ i = 10 ∨ i = 11 ∨ i = 12 := by omega
    refine ⟨hi1, hi2, ?_⟩
    rcases hm with h | h | h | h | h | h | h | h | h | h | h | h <;> subst h
    all_goals (simp only [show ¬ (3 : Int) ≤ 2 by decide, show ¬ (4 : Int) ≤ 2 by decide, show ¬ (5 : Int) ≤ 2 by decide, show ¬ (6 : Int) ≤ 2 by decide, show ¬ (7 : Int) ≤ 2 by decide, show ¬ (8 : Int) ≤ 2 by decide, show ¬ (9 : Int) ≤ 2 by decide, show ¬ (10 : Int) ≤ 2 by decide, show ¬ (11 : Int) ≤ 2 by decide, show ¬ (12 : Int) ≤ 2 by decide, show (1 : Int) ≤ 2 by decide, show (2 : Int) ≤ 2 by decide, if_true, if_false])
    all_goals (by_cases hL : Y % 4 = 0 ∧ (Y % 100 ≠ 0 ∨ Y % 400 = 0))
    all_goals (try (first | rw [if_pos hL] | rw [if_neg hL]))
    all_goals (refine ⟨by omega, by first | trivial | omega, by first | trivial | omega, by omega, by omega, fun _ => by omega, fun _ => by omega⟩)
  have e3 : D + 1721425 - gjd Y i 1 = yd - ((367 * i - 362) / 12 + (if i ≤ 2 then 0 else if Lp Y then -1 else -2)) := by omega
  rw [← e3] at key
  refine ⟨hM, key.2.2.2, ?_, key.2.2.1, ?_, hg⟩
  · have h1 := key.1
    have h2 := key.2.1
    dsimp only [OkG]
    omega
  · have h3 := key.2.2.2
    dsimp only [OkG] at h3
    omega
theorem month_of (D : Int) (hb1 : -300000000000 ≤ D) (hb2 : D ≤ 300000000000) : MF D (gY D) (gM D) := by
  have hY := year_of D hb1 hb2
  refine month_lemma (yd := gYd D) (la := gLa D) (k := (gYd D + gLa D) * 12 + 373) (n := D + 1721425) hY (by omega) rfl (by unfold gYd; omega) (by omega) ?_
  by_cases hl : Lp (gY D)
  · have e : gLa D = if gYd D < 59 then 0 else 1 := by
      unfold gLa
      rw [if_pos hl, if_pos hl]
      rfl
    rw [e]
    by_cases h : gYd D < 59
    · rw [if_pos h]
      by_cases hc : gYd D ≤ 57
      · exact .inl ⟨rfl, .inl hc⟩
      · exact .inl ⟨rfl, .inr ⟨by omega, hl⟩⟩
    · rw [if_neg h]
      exact .inr (.inl ⟨rfl, hl, by omega⟩)
  · have e : gLa D = if gYd D < 58 then 0 else 2 := by
      unfold gLa
      rw [if_neg hl, if_neg hl]
      rfl
    rw [e]
    by_cases h : gYd D < 58
    · rw [if_pos h]
      exact .inl ⟨rfl, .inl (by omega)⟩
    · rw [if_neg h]
      exact .inr (.inr ⟨rfl, hl, by omega⟩)
theorem gjd_back (D : Int) : gjd (gY D) (gM D) (gD D) = D + 1721425 := by
  have h1 := gjd_month (gY D) (gM D) (gD D)
  have h2 := gjd_month (gY D) (gM D) 1
  have h3 : gD D = D + 1721425 - gjd (gY D) (gM D) 1 + 1 := rfl
  omega

end Mine
-- J0
namespace Mine
open PySem PySem.Float64
abbrev OkJ (y m d : Int) : Prop := 1 ≤ m ∧ m ≤ 12 ∧ 1 ≤ d ∧ d ≤ 31 ∧ (m = 2 → d ≤ 28 ∨ (d = 29 ∧ y % 4 = 0)) ∧ (m = 4 ∨ m = 6 ∨ m = 9 ∨ m = 11 → d ≤ 30)
theorem floorIs_of {x : UInt64} {i : Int} (h : isFinite x = true) (e : PySem.Flt.toInt floorOf x = i) : FloorIs x i := by
  unfold isFinite at h
  unfold PySem.Flt.toInt at e
  cases hd : decode x with
  | nan => rw [hd] at h; cases h
  | inf a => rw [hd] at h; cases h
  | fin s m e' =>
    rw [hd] at e
    exact ⟨s, m, e', hd, e⟩
def monF (k : Int) : UInt64 := mul 0x403e99a027525461 (ofInt k)
theorem mon_all : ∀ j : Fin 12, (isFinite (monF ((j.val : Int) + 4)) && (PySem.Flt.toInt floorOf (monF ((j.val : Int) + 4)) == 306001 * ((j.val : Int) + 4) / 10000)) = true := by decide +kernel
theorem mon_floor {k : Int} (h1 : 4 ≤ k) (h2 : k ≤ 15) : FloorIs (mul 0x403e99a027525461 (ofInt k)) (306001 * k / 10000) := by
  have h := mon_all ⟨(k - 4).toNat, by omega⟩
  have e1 : (((k - 4).toNat : Nat) : Int) + 4 = k := by omega
  simp only [e1] at h
  rw [Bool.and_eq_true, beq_iff_eq] at h
  exact floorIs_of h.1 h.2
def dayF (k : Int) : UInt64 := div (ofInt k) 0x403e99a027525461
theorem day_all : ∀ j : Fin 366, (isFinite (dayF ((j.val : Int) + 123)) && (PySem.Flt.toInt floorOf (dayF ((j.val : Int) + 123)) == 10000 * ((j.val : Int) + 123) / 306001)) = true := by decide +kernel
theorem day_floor {k : Int} (h1 : 123 ≤ k) (h2 : k ≤ 488) : FloorIs (div (ofInt k) 0x403e99a027525461) (10000 * k / 306001) := by
  have h := day_all ⟨(k - 123).toNat, by omega⟩
  have e1 : (((k - 123).toNat : Nat) : Int) + 123 = k := by omega
  simp only [e1] at h
  rw [Bool.and_eq_true, beq_iff_eq] at h
  exact floorIs_of h.1 h.2
theorem year_floor {b : Int} (hb : b.natAbs ≤ 500000000000) : FloorIs (div (Float64.sub (ofInt b) 0x405e866666666666) 0x4076d40000000000) ((20 * b - 2442) / 7305) := by
  rw [ofInt_G (by omega), lit_year]
  obtain ⟨a, hv, h1, h2⟩ := sub_1221 (b := b) (by omega)
  exact div_between (j := 22) hv h1 h2 (by decide) (by decide) (by decide) (by decide) (by omega) (by omega) (by omega) (by omega)
def jjd (y m d : Int) : Int := if m ≤ 2 then 1461 * (y - 1 + 4716) / 4 + 306001 * (m + 12 + 1) / 10000 + d - 1525 else 1461 * (y + 4716) / 4 + 306001 * (m + 1) / 10000 + d - 1525
def jC (n : Int) : Int := (20 * (n + 1525) - 2442) / 7305
def jE (n : Int) : Int := 10000 * (n + 1525 - 1461 * jC n / 4) / 306001
def jM (n : Int) : Int := if jE n < 14 then jE n - 1 else jE n - 13
def jY (n : Int) : Int := if jM n > 2 then jC n - 4716 else jC n - 4715
def jD (n : Int) : Int := n + 1525 - 1461 * jC n / 4 - 306001 * jE n / 10000
structure JF (n : Int) : Prop where
  ok : OkJ (jY n) (jM n) (jD n)
  back : jjd (jY n) (jM n) (jD n) = n
  ylo : -1000000000 ≤ jY n
  yhi : jY n ≤ 1000000000
theorem julian_core {n c e m y d : Int} (hc : c = (20 * (n + 1525) - 2442) / 7305) (he : e = 10000 * (n + 1525 - 1461 * c / 4) / 306001) (hd : d = n + 1525 - 1461 * c / 4 - 306001 * e / 10000)
    (hm : (e < 14 ∧ m = e - 1) ∨ (14 ≤ e ∧ m = e - 13)) (hy : (m > 2 ∧ y = c - 4716) ∨ (m ≤ 2 ∧ y = c - 4715)) (h1 : -300000000000 ≤ n) (h2 : n ≤ 300000000000) :
    OkJ y m d ∧ jjd y m d = n ∧ -1000000000 ≤ y ∧ y ≤ 1000000000 := by
  have hx1 : 123 ≤ n + 1525 - 1461 * c / 4 := by omega
  have hr : 4 * (1461 * c / 4) = 1461 * c - c % 4 := by omega
  have hx2 : n + 1525 - 1461 * c / 4 ≤ 487 ∨ (n + 1525 - 1461 * c / 4 = 488 ∧ c % 4 = 3) := by omega
  have hcb : -900000000 ≤ c ∧ c ≤ 900000000 := by omega
  obtain ⟨x, hX⟩ : ∃ x, x = n + 1525 - 1461 * c / 4 := ⟨_, rfl⟩
  rw [← hX] at hx1 hx2 he hd
  clear hc
  have he1 : 4 ≤ e ∧ e ≤ 15 := by omega
  have hok : OkJ y m d := by
    have hee : e = 4 ∨ e = 5 ∨ e = 6 ∨ e = 7 ∨ e = 8 ∨ e = 9 ∨ e = 10 ∨ e = 11 ∨ e = 12 ∨ e = 13 ∨ e = 14 ∨ e = 15 := by omega
    clear hX
    dsimp only [OkJ]
    rcases hee with h | h | h | h | h | h | h | h | h | h | h | h
    all_goals (subst h; refine ⟨by omega, by omega, by omega, by omega, fun _ => by omega, fun _ => by omega⟩)
  refine ⟨hok, ?_, by omega, by omega⟩
  unfold jjd
  rcases hy with ⟨ha, hb⟩ | ⟨ha, hb⟩
  · rw [if_neg (by omega)]
    have e1 : m + 1 = e := by omega
    have e2 : y + 4716 = c := by omega
    rw [e1, e2]
    omega
  · rw [if_pos ha]
    have e1 : m + 12 + 1 = e := by omega
    have e2 : y - 1 + 4716 = c := by omega
    rw [e1, e2]
    omega
theorem julian_of (n : Int) (h1 : -300000000000 ≤ n) (h2 : n ≤ 300000000000) : JF n := by
  have hm : (jE n < 14 ∧ jM n = jE n - 1) ∨ (14 ≤ jE n ∧ jM n = jE n - 13) := by
    unfold jM
    split
    · exact .inl ⟨by omega, rfl⟩
    · exact .inr ⟨by omega, rfl⟩
  have hy : (jM n > 2 ∧ jY n = jC n - 4716) ∨ (jM n ≤ 2 ∧ jY n = jC n - 4715) := by
    unfold jY
    split
    · exact .inl ⟨by omega, rfl⟩
    · exact .inr ⟨by omega, rfl⟩
  have h := julian_core (n := n) rfl rfl rfl hm hy h1 h2
  exact ⟨h.1, h.2.1, h.2.2.1, h.2.2.2⟩

end Mine
namespace Mine
-- WM
open PySem PySem.W PyProof.Rows PySem.Calls PySem.Flt
local macro_rules | `(tactic| walk_at "MINE lit") => `(tactic| first | with_reducible exact rfl | exact lit_half | exact lit_epoch | exact lit_year | exact lit_1524)
local macro_rules | `(tactic| walk_at "MINE small") => `(tactic| ((try dsimp only [Sm]); omega))
local macro_rules | `(tactic| walk_at "binaryOp Add float float") => `(tactic| (refine' g_add ?hx ?hy ?ha ?hb ?hab ?_; (case hx => walk_at "MINE lit"); (case hy => walk_at "MINE lit"); (case ha => walk_at "MINE small"); (case hb => walk_at "MINE small"); (case hab => walk_at "MINE small"); (try dsimp only)))
local macro_rules | `(tactic| walk_at "binaryOp Sub float float") => `(tactic| (refine' g_sub ?hx ?hy ?ha ?hb ?hab ?_; (case hx => walk_at "MINE lit"); (case hy => walk_at "MINE lit"); (case ha => walk_at "MINE small"); (case hb => walk_at "MINE small"); (case hab => walk_at "MINE small"); (try dsimp only)))
local macro_rules | `(tactic| walk_at "inplaceOp Add float float") => `(tactic| (refine' g_iadd ?hx ?hy ?ha ?hb ?hab ?_; (case hx => walk_at "MINE lit"); (case hy => walk_at "MINE lit"); (case ha => walk_at "MINE small"); (case hb => walk_at "MINE small"); (case hab => walk_at "MINE small"); (try dsimp only)))
local macro_rules | `(tactic| walk_at "binaryOp Add float int") => `(tactic| (refine' g_addfi ?hx ?ha ?hb ?hab ?_; (case hx => walk_at "MINE lit"); (case ha => walk_at "MINE small"); (case hb => walk_at "MINE small"); (case hab => walk_at "MINE small"); (try dsimp only)))
local macro_rules | `(tactic| walk_at "inplaceOp Add float int") => `(tactic| (refine' g_iaddfi ?hx ?ha ?hb ?hab ?_ rfl; (case hx => walk_at "MINE lit"); (case ha => walk_at "MINE small"); (case hb => walk_at "MINE small"); (case hab => walk_at "MINE small"); (try dsimp only)))
local macro_rules | `(tactic| walk_at "inplaceOp Add int float") => `(tactic| (refine' g_iaddif ?hx ?ha ?hb ?hab ?_ rfl; (case hx => walk_at "MINE lit"); (case ha => walk_at "MINE small"); (case hb => walk_at "MINE small"); (case hab => walk_at "MINE small"); (try dsimp only)))
local macro_rules | `(tactic| walk_at "binaryOp Add int float") => `(tactic| (refine' g_addif ?hx ?ha ?hb ?hab ?_; (case hx => walk_at "MINE lit"); (case ha => walk_at "MINE small"); (case hb => walk_at "MINE small"); (case hab => walk_at "MINE small"); (try dsimp only)))
local macro_rules | `(tactic| walk_at "binaryOp Sub float int") => `(tactic| (refine' g_subfi ?hx ?ha ?hb ?hab ?_; (case hx => walk_at "MINE lit"); (case ha => walk_at "MINE small"); (case hb => walk_at "MINE small"); (case hab => walk_at "MINE small"); (try dsimp only)))
local macro_rules | `(tactic| walk_at "binaryOp Sub int float") => `(tactic| (refine' g_subif ?hx ?ha ?hb ?hab ?_; (case hx => walk_at "MINE lit"); (case ha => walk_at "MINE small"); (case hb => walk_at "MINE small"); (case hab => walk_at "MINE small"); (try dsimp only)))
local macro_rules | `(tactic| walk_at "binaryOp Mult float int") => `(tactic| (refine' g_mulfi ?hx rfl ?ha ?hb ?hab ?hs ?_; (case hx => walk_at "MINE lit"); (case ha => walk_at "MINE small"); (case hb => walk_at "MINE small"); (case hab => walk_at "MINE small"); (case hs => omega); (try dsimp only)))
local macro_rules | `(tactic| walk_at "binaryOp Div float int") => `(tactic| (refine' g_divfi ?hx ?hb ?hb2 ?_ rfl; (case hx => walk_at "MINE lit"); (case hb => omega); (case hb2 => walk_at "MINE small"); (try dsimp only)))
local macro_rules | `(tactic| walk_at "binaryOp Div int int") => `(tactic| (refine' g_divii ?hb ?ha ?_ rfl; (case hb => omega); (case ha => walk_at "MINE small"); (try dsimp only)))
local macro_rules | `(tactic| walk_at "binaryOp Mod float int") => `(tactic| (refine' g_modfi ?hx ?ha ?hb ?hb2 ?_ rfl; (case hx => walk_at "MINE lit"); (case ha => walk_at "MINE small"); (case hb => omega); (case hb2 => walk_at "MINE small"); (try dsimp only)))
local macro_rules | `(tactic| walk_at "compareOp Lt float int") => `(tactic| (refine' g_ltfi ?hx ?ha ?_; (case hx => walk_at "MINE lit"); (case ha => walk_at "MINE small"); (try dsimp only)))
local macro_rules | `(tactic| walk_at "compareOp Eq float float") => `(tactic| (refine' g_eq ?hx ?hy ?ha ?hb ?_; (case hx => walk_at "MINE lit"); (case hy => walk_at "MINE lit"); (case ha => walk_at "MINE small"); (case hb => walk_at "MINE small"); (try dsimp only)))
local macro_rules | `(tactic| walk_at "compareOp NotEq float float") => `(tactic| (refine' g_ne ?hx ?hy ?ha ?hb ?_; (case hx => walk_at "MINE lit"); (case hy => walk_at "MINE lit"); (case ha => walk_at "MINE small"); (case hb => walk_at "MINE small"); (try dsimp only)))
-- floors: of a grid float; of a float's quotient; of an int's quotient
local macro_rules | `(tactic| walk_at "MINE floor") => `(tactic| first
  | ((with_reducible refine' floor_G ?hz); (case hz => walk_at "MINE small"))
  | ((with_reducible refine' div_at 30 ?ha ?hb ?hb2 ?hj ?hbj ?hql ?hqh); (case ha => walk_at "MINE small"); (case hb => omega); (case hb2 => omega); (case hj => decide); (case hbj => omega); (case hql => omega); (case hqh => omega)))
local macro_rules | `(tactic| walk_at "call builtin:math.floor") => `(tactic| ((with_reducible show wpAny _ _ (call _ [Value.float _ _]) _ _ _); (refine' g_floor ?hx ?_ rfl; (case hx => walk_at "MINE floor"); (try dsimp only))))
-- uses of contracts
local macro_rules | `(tactic| walk_at "MINE use") => `(tactic| (
  (case k1 => k_asm); (case k2 => k_asm); (case k3 => k_asm); (case k4 => k_asm); (case k5 => k_asm); (case kK => first | exact rfl | assumption); (case kd => ktr_room); (case ku => ktr_units)))

-- C1
open PySem PySem.W PyProof.Rows PySem.Calls
local macro_rules | `(tactic| walk_at "eval Call") => `(tactic| (k_here; refine Call_ ?_ rfl))
local macro_rules | `(tactic| walk_at "MINE start") => `(tactic| (refine wpAny_call ?_; k_dflt cell_enter))
local macro_rules | `(tactic| walk_at "MINE led") => `(tactic| first | k_asm | (refine' cb_drop ?cbN ?cbS; (case cbN => assumption); (case cbS => kcj_all)))
local macro_rules | `(tactic| walk_at "MINE bool") => `(tactic| (refine Bool.eq_iff_iff.mpr ?_; (try simp only [decide_eq_true_eq, bne_iff_ne, beq_iff_eq, ne_eq, Int.fmod_eq_emod_of_nonneg _ (show (0:Int) ≤ 4 by decide), Int.fmod_eq_emod_of_nonneg _ (show (0:Int) ≤ 100 by decide), Int.fmod_eq_emod_of_nonneg _ (show (0:Int) ≤ 400 by decide)] at *); first | done | omega))
theorem c_isleap (w mean mg mb) (y : Int) (t : Tok) (news) : ClV 1 w mean mg mb 113 news True [.int y t] (fun _ => .bool (decide (Lp y))) := by
  unfold ClV
  k_fill
  intros
  rename_i kpre kd ku hret
  walk_at "MINE start"
  k_steps
  all_goals (refine' cb_retB hret ?e ?F ?N; (case F => k_asm); (case N => walk_at "MINE led"); (case e => walk_at "MINE bool"))
local macro_rules | `(tactic| walk_at "call ref") => `(tactic| (k_here; (with_reducible show wpAny _ _ (call (Value.ref 113) _) _ _ _); k_dflt (refine' useV (c_isleap _ _ _ _ _ _ _) ?k1 ?k2 ?k3 ?k4 ?k5 ?kK ?kp ?kd ?ku ?_); walk_at "MINE use"; (case kp => trivial); (intro _ _ _ _ _; (try dsimp only))))
theorem in_four {prog : Program} {w : World} {A : Around} {E : Value → Shared → Prop} {s : Shared} {K : Frag} {h₀ : Heap} {L a : Addr} {m : Str → Option Value} {dd : Option Addr} {n : Nat} {sl : Array (Option Value)} {x : Int} {u t1 t2 t3 t4 : Tok} {Q : Value → Shared → Prop}
    (F : Fr h₀ L s.heap m) (X : K.In h₀) (hl : K.lookup a = some ⟨.type "tuple", dd, .seq [Value.int 4 t1, .int 6 t2, .int 9 t3, .int 11 t4].toArray n, sl⟩)
    (h : Q (.bool (decide (x = 4 ∨ x = 6 ∨ x = 9 ∨ x = 11))) s) : wpAny (model prog w) A (compareOp .In (.int x u) (.ref a)) Q E s := by
  refine in_tuple_ints (tupK (X.keeps F.keep) hl) (ns := [4, 6, 9, 11]) (.cons _ _ (.cons _ _ (.cons _ _ (.cons _ _ .nil)))) ?_
  have e : ([4, 6, 9, 11].any (· == x)) = decide (x = 4 ∨ x = 6 ∨ x = 9 ∨ x = 11) := by
    refine Bool.eq_iff_iff.mpr ?_
    simp only [List.any_cons, List.any_nil, Bool.or_false, Bool.or_eq_true, beq_iff_eq, decide_eq_true_eq]
    omega
  rw [e]
  exact h
local macro_rules | `(tactic| walk_at "compareOp In int ref") => `(tactic| (k_here; k_dflt (refine' in_four ?k1 ?k2 ?k3 ?_; (case k1 => k_asm); (case k2 => k_asm); (case k3 => k_is)); (try dsimp only)))
theorem c_legal_g (w mean mg mb) (y m d : Int) (t1 t2 t3 : Tok) (news) : ClV 2 w mean mg mb 120 news (OkG y m d) [.int y t1, .int m t2, .int d t3] (fun _ => .bool true) := by
  unfold ClV
  k_fill
  intros
  rename_i kpre kd ku hret
  dsimp only [OkG] at kpre
  walk_at "MINE start"
  k_steps
  all_goals (refine' cb_retB hret ?e ?F ?N; (case F => k_asm); (case N => walk_at "MINE led"); (case e => rfl))

-- C2
open PySem PySem.W PyProof.Rows PySem.Calls PySem.Float64
def monthF (m adj d : Int) : UInt64 := add (add (ofFrac (decide (367 * m - 362 < 0) != decide ((12 : Int) < 0)) (367 * m - 362).natAbs (12 : Int).natAbs) (ofInt adj)) (ofInt d)
def monthOk (m adj d : Int) : Bool := isFinite (monthF m adj d) && (PySem.Flt.toInt floorOf (monthF m adj d) == (367 * m - 362) / 12 + adj + d)
theorem month_all : ∀ m : Fin 12, ∀ j : Fin 3, ∀ d : Fin 31, monthOk ((m.val : Int) + 1) (-(j.val : Int)) ((d.val : Int) + 1) = true := by decide +kernel
theorem month_floor {m adj d : Int} (h1 : 1 ≤ m) (h2 : m ≤ 12) (h3 : -2 ≤ adj) (h4 : adj ≤ 0) (h5 : 1 ≤ d) (h6 : d ≤ 31) :
    FloorIs (add (add (ofFrac (decide (367 * m - 362 < 0) != decide ((12 : Int) < 0)) (367 * m - 362).natAbs (12 : Int).natAbs) (ofInt adj)) (ofInt d)) ((367 * m - 362) / 12 + adj + d) := by
  have h := month_all ⟨(m - 1).toNat, by omega⟩ ⟨(-adj).toNat, by omega⟩ ⟨(d - 1).toNat, by omega⟩
  have e1 : (((m - 1).toNat : Nat) : Int) + 1 = m := by omega
  have e2 : -(((-adj).toNat : Nat) : Int) = adj := by omega
  have e3 : (((d - 1).toNat : Nat) : Int) + 1 = d := by omega
  simp only [e1, e2, e3] at h
  unfold monthOk at h
  rw [Bool.and_eq_true, beq_iff_eq] at h
  exact floorIs_of h.1 h.2
local macro_rules | `(tactic| walk_at "MINE floor") => `(tactic| first
  | ((with_reducible refine' quot_at 20 ?hb ?hj ?hbj ?hql ?hqh); (case hb => omega); (case hj => decide); (case hbj => omega); (case hql => omega); (case hqh => omega))
  | ((with_reducible refine' month_floor ?h1 ?h2 ?h3 ?h4 ?h5 ?h6); (case h1 => omega); (case h2 => omega); (case h3 => omega); (case h4 => omega); (case h5 => omega); (case h6 => omega)))
local macro_rules | `(tactic| walk_at "call ref") => `(tactic| (k_here; (with_reducible show wpAny _ _ (call (Value.ref 120) _) _ _ _); k_dflt (refine' useV (c_legal_g _ _ _ _ _ _ _ _ _ _ _) ?k1 ?k2 ?k3 ?k4 ?k5 ?kK ?kp ?kd ?ku ?_); walk_at "MINE use"; (case kp => ((try dsimp only [OkG]); omega)); (intro _ _ _ _ _; (try dsimp only))))
theorem c_to_g (w mean mg mb) (y m d : Int) (t1 t2 t3 : Tok) (news) : ClV 3 w mean mg mb 127 news (-1000000000 ≤ y ∧ y ≤ 1000000000 ∧ OkG y m d) [.int y t1, .int m t2, .int d t3] (fun t => .float (G (4096 * gjd y m d + 2048)) t) := by
  unfold ClV
  k_fill
  intros
  rename_i kpre kd ku hret
  dsimp only [OkG] at kpre
  walk_at "MINE start"
  k_steps
  all_goals (refine' ret_f hret ?e ?F ?N; (case F => k_asm); (case N => walk_at "MINE led"); (case e => (unfold gjd; (try dsimp only [Lp]); (repeat' split) <;> omega)))

-- C3
open PySem PySem.W PyProof.Rows PySem.Calls PySem.Float64 PySem.Flt
section
variable {prog : Program} {w : World} {A : Around} {E : Value → Shared → Prop} {s : Shared} {x y : UInt64} {a b n i k : Int} {t u : Tok} {Q : Value → Shared → Prop}
/-- a difference that is a whole number of days -/
theorem g_subD (hx : x = G a) (hy : y = G b) (ha : Sm a) (hb : Sm b) (hab : Sm (a - b)) (hd : (a - b) % 4096 = 0) (h : ∀ D : Int, 4096 * D = a - b → Q (.float (G (4096 * D)) s.toks) { s with toks := s.toks + 1 }) : wpAny (model prog w) A (binaryOp .Sub (.float x t) (.float y u)) Q E s := by
  refine g_sub hx hy ha hb hab ?_
  have e : a - b = 4096 * ((a - b) / 4096) := by omega
  have := h ((a - b) / 4096) e.symm
  rw [e]
  exact this
theorem g_modD (hx : x = G (4096 * k)) (ha : Sm (4096 * k)) (hb : 0 < n) (hb2 : Sm (4096 * n)) (hA : A.handled = none) (h : ∀ r : Int, r = k % n → Q (.float (G (4096 * r)) s.toks) { s with toks := s.toks + 1 }) : wpAny (model prog w) A (binaryOp .Mod (.float x t) (.int n u)) Q E s := by
  refine g_modfi hx ha hb hb2 ?_ hA
  rw [Int.mul_emod_mul_of_pos _ _ (by decide : (0:Int) < 4096)]
  exact h _ rfl
theorem g_floorD (hx : x = Float64.div (G (4096 * k)) (G (4096 * n))) (ha : Sm (4096 * k)) (hn : 0 < n) (hn2 : 4096 * n ≤ 2 ^ 30) (hql : (k / n * 2 ^ 30).natAbs ≤ 2 ^ 53) (hqh : ((k / n + 1) * 2 ^ 30 - 1).natAbs ≤ 2 ^ 53)
    (hA : A.handled = none) (h : ∀ i : Int, i = k / n → Q (.int i s.toks) { s with toks := s.toks + 1 }) : wpAny (model prog w) A (call (.builtin "math.floor") [.float x t]) Q E s := by
  subst hx
  have e : 4096 * k / (4096 * n) = k / n := Int.mul_ediv_mul_of_pos _ _ (by decide)
  refine g_floor (i := k / n) ?_ (h _ rfl) hA
  rw [← e]
  exact div_at 30 ha (by omega) (by omega) (by decide) (by omega) (by rw [e]; exact hql) (by rw [e]; exact hqh)
/-- a quotient that is no written day: any grid number by whole days -/
theorem g_floorE (hx : x = Float64.div (G a) (G (4096 * n))) (hk : a = 4096 * k) (ha : Sm a) (hn : 0 < n) (hn2 : 4096 * n ≤ 2 ^ 30) (hql : (k / n * 2 ^ 30).natAbs ≤ 2 ^ 53) (hqh : ((k / n + 1) * 2 ^ 30 - 1).natAbs ≤ 2 ^ 53)
    (hA : A.handled = none) (h : ∀ i : Int, i = k / n → Q (.int i s.toks) { s with toks := s.toks + 1 }) : wpAny (model prog w) A (call (.builtin "math.floor") [.float x t]) Q E s := by
  subst hk
  exact g_floorD hx ha hn hn2 hql hqh hA h
theorem g_floorZ (hx : x = G a) (ha : Sm a) (hA : A.handled = none) (h : ∀ i : Int, i = a / 4096 → Q (.int i s.toks) { s with toks := s.toks + 1 }) : wpAny (model prog w) A (call (.builtin "math.floor") [.float x t]) Q E s := by
  subst hx
  exact g_floor (floor_G ha) (h _ rfl) hA
theorem g_intD (hx : x = G (4096 * k)) (ha : Sm (4096 * k)) (h0 : 0 ≤ k) (hA : A.handled = none) (h : Q (.int k s.toks) { s with toks := s.toks + 1 }) : wpAny (model prog w) A (call (.type "int") [.float x t]) Q E s := by
  subst hx
  have := trunc_G ha (by omega)
  have e : 4096 * k / 4096 = k := by omega
  rw [e] at this
  exact g_int this h hA
/-- the day's month: a float that is 12 times so many and 373, by 367 -/
theorem g_floorM (hx : x = Float64.div (G a) (G (4096 * n))) (hd : a % 4096 = 0) (ha : Sm a) (hn : 0 < n) (hn2 : 4096 * n ≤ 2 ^ 30) (hql : (a / 4096 / n * 2 ^ 30).natAbs ≤ 2 ^ 53) (hqh : ((a / 4096 / n + 1) * 2 ^ 30 - 1).natAbs ≤ 2 ^ 53)
    (hA : A.handled = none) (h : ∀ k i : Int, a = 4096 * k → i = k / n → Q (.int i s.toks) { s with toks := s.toks + 1 }) : wpAny (model prog w) A (call (.builtin "math.floor") [.float x t]) Q E s :=
  g_floorE hx (show a = 4096 * (a / 4096) by omega) ha hn hn2 hql hqh hA (h _ · (by omega))
end
local macro_rules | `(tactic| walk_at "binaryOp Sub float float") => `(tactic| (refine' g_subD ?hx ?hy ?ha ?hb ?hab ?hd ?_; (case hx => walk_at "MINE lit"); (case hy => walk_at "MINE lit"); (case hd => omega); (case ha => walk_at "MINE small"); (case hb => walk_at "MINE small"); (case hab => walk_at "MINE small"); (intro _ _); (try dsimp only)))
local macro_rules | `(tactic| walk_at "binaryOp Mod float int") => `(tactic| (refine' g_modD ?hx ?ha ?hb ?hb2 rfl ?_; (case hx => with_reducible exact rfl); (case ha => walk_at "MINE small"); (case hb => omega); (case hb2 => walk_at "MINE small"); (intro _ _); (try dsimp only)))
local macro_rules | `(tactic| walk_at "call builtin:math.floor") => `(tactic| ((with_reducible show wpAny _ _ (call _ [Value.float _ _]) _ _ _); first
  | (refine' g_floorD ?hx ?ha ?hn ?hn2 ?hql ?hqh rfl ?_; (case hx => with_reducible exact rfl); (case ha => walk_at "MINE small"); (case hn => omega); (case hn2 => omega); (case hql => omega); (case hqh => omega); (intro _ _); (try dsimp only))
  | (refine' g_floorM ?hx ?hd ?ha ?hn ?hn2 ?hql ?hqh rfl ?_; (case hx => with_reducible exact rfl); (case hd => omega); (case ha => walk_at "MINE small"); (case hn => omega); (case hn2 => omega); (case hql => omega); (case hqh => omega); (intro _ _ _ _); (try dsimp only))
  | (refine' g_floorZ ?hx ?ha rfl ?_; (case hx => with_reducible exact rfl); (case ha => walk_at "MINE small"); (intro _ _); (try dsimp only))))
local macro_rules | `(tactic| walk_at "call type:int") => `(tactic| (refine' g_intD ?hx ?ha ?h0 rfl ?_; (case hx => with_reducible exact rfl); (case ha => walk_at "MINE small"); (case h0 => omega); (try dsimp only)))
local macro_rules | `(tactic| walk_at "MINE year") => `(tactic| (
  (rename (_ : Int) = _ / 146097 => h1); (rename (_ : Int) = _ % 146097 => h2); (rename (_ : Int) = _ / 36524 => h3); (rename (_ : Int) = _ % 36524 => h4); (rename (_ : Int) = _ / 1461 => h5); (rename (_ : Int) = _ % 1461 => h6); (rename (_ : Int) = _ / 365 => h7)
  (first | (have hY := yearA h1 h2 h3 h4 h5 h6 h7 (by omega) (by omega) (by omega)) | (have hY := yearB h1 h2 h3 h4 h5 h6 h7 (by omega) (by omega) (by omega) (by omega)))
  (clear h1 h2 h3 h4 h5 h6 h7)
  (obtain ⟨Y, hYe, hY⟩ := YF.ex hY)
  (rename Fr _ _ _ _ => F'); (simp only [hYe] at F' ⊢); clear hYe
  (have hY2 := hY); (obtain ⟨_, hlo, hhi, hlast, hylo, hyhi⟩ := hY2)))
local macro_rules | `(tactic| walk_at "MINE month") => `(tactic| (
  (rename YF _ _ => hY); (rename (_ * 12 + 4096 * 373 = _) => hk); (rename (_ : Int) = _ / 367 => hi); (rename (4096 * _ = _ - (4096 * gjd _ _ _ + 2048)) => hyd); (rename (4096 * _ = _ - 7050958848) => hn)
  (have hM := month_lemma hY hk hi hyd hn (by first | ((rename (4096 * _ < 4096 * (58 + _)) => hcmp); (simp only [decide_eq_true_eq] at hcmp); (split at hcmp <;> (dsimp only [Lp] at *) <;> omega)) | ((rename (¬ (4096 * _ < 4096 * (58 + _))) => hcmp); (simp only [decide_eq_true_eq] at hcmp); (split at hcmp <;> (dsimp only [Lp] at *) <;> omega))))
  (have hM2 := hM); (obtain ⟨_, hok, hok1, hlo, hhi, _⟩ := hM2); (dsimp only [OkG] at hok hok1)))
local macro_rules | `(tactic| walk_at "call ref") => `(tactic| (k_here; (with_reducible show wpAny _ _ (call (Value.ref 127) _) _ _ _); (first | walk_at "MINE month" | walk_at "MINE year"); k_dflt (refine' useV (c_to_g _ _ _ _ _ _ _ _ _ _ _) ?k1 ?k2 ?k3 ?k4 ?k5 ?kK ?kp ?kd ?ku ?_); walk_at "MINE use"; (case kp => ((try dsimp only [OkG]); omega)); (intro _ _ _ _ _; (try dsimp only))))
theorem day_eq {D i : Int} (h : 4096 * D = 4096 * i + 2048 - 7050958848) : D = i - 1721425 := by omega
theorem ret_t {h₀ h' : Heap} {L D : Addr} {m : Str → Option Value} {news : Led} {s : Shared} {Q : Value → Shared → Prop} {x y z x' y' z' : Int} {t1 t2 t3 : Tok} {c tk' : Nat}
    (hret : ∀ (D : Addr) (t1 t2 t3 : Tok) (c : Nat) (h' : Heap) (tk' : Nat), Fr h₀ L h' m → News h₀ L h' ((D, tupObj (.int x t1) (.int y t2) (.int z t3) c) :: news) → AllLt D news → Q (.ref D) { s with heap := h', toks := tk' })
    (F : Fr h₀ L h' m) (N : News h₀ L h' ((D, tupObj (.int x' t1) (.int y' t2) (.int z' t3) c) :: news)) (hl : ∀ p ∈ news, p.1 < D) (ex : x' = x) (ey : y' = y) (ez : z' = z) : Q (.ref D) { s with heap := h', toks := tk' } := by
  subst ex ey ez
  exact hret D t1 t2 t3 c h' tk' F N (allLt_of hl)
theorem c_from_g (w mean mg mb) (z : Int) (t : Tok) (news) : ClT 4 w mean mg mb 134 news (-1125899906842624 ≤ z ∧ z ≤ 1125899906842624) [.float (G z) t] (gY ((z - 2048) / 4096 - 1721425)) (gM ((z - 2048) / 4096 - 1721425)) (gD ((z - 2048) / 4096 - 1721425)) := by
  unfold ClT
  k_fill
  intros
  rename_i kpre kd ku hret
  walk_at "MINE start"
  k_steps
  all_goals (
    (rename YF _ _ => hY); (rename MF _ _ _ => hM)
    have hz := kpre
    (rename (4096 * _ = _ - 7050958848) => hn); (rename (_ : Int) = (z - 2048) / 4096 => hz1)
    have hDz := day_eq hn
    rw [hz1] at hDz
    (refine' ret_t hret ?F ?N ?hl ?ex ?ey ?ez; (case F => k_asm); (case N => k_asm); (case hl => assumption); (case ex => (rw [← hDz]; exact hY.eq)); (case ey => (rw [← hDz]; exact hM.eq)); (case ez => (rw [← hDz, hM.gd]; omega))))

-- J1
open PySem PySem.W PyProof.Rows PySem.Calls PySem.Float64 PySem.Flt
theorem c_leap (w mean mg mb) (y : Int) (t : Tok) (news) : ClV 1 w mean mg mb 142 news True [.int y t] (fun _ => .bool (decide (y % 4 = 0))) := by
  unfold ClV
  k_fill
  intros
  rename_i kpre kd ku hret
  walk_at "MINE start"
  k_steps
  all_goals (refine' cb_retB hret ?e ?F ?N; (case F => k_asm); (case N => walk_at "MINE led"); (case e => walk_at "MINE bool"))
local macro_rules | `(tactic| walk_at "call ref") => `(tactic| (k_here; (with_reducible show wpAny _ _ (call (Value.ref 142) _) _ _ _); k_dflt (refine' useV (c_leap _ _ _ _ _ _ _) ?k1 ?k2 ?k3 ?k4 ?k5 ?kK ?kp ?kd ?ku ?_); walk_at "MINE use"; (case kp => trivial); (intro _ _ _ _ _; (try dsimp only))))
def mlJ (y m : Int) : Int := if m = 2 then (if y % 4 = 0 then 29 else 28) else if m = 4 ∨ m = 6 ∨ m = 9 ∨ m = 11 then 30 else 31
theorem c_mlen (w mean mg mb) (y m : Int) (t1 t2 : Tok) (news) : ClV 2 w mean mg mb 149 news True [.int y t1, .int m t2] (fun t => .int (mlJ y m) t) := by
  unfold ClV
  k_fill
  intros
  rename_i kpre kd ku hret
  walk_at "MINE start"
  k_steps
  all_goals (refine' cb_retI hret ?e ?F ?N; (case F => k_asm); (case N => walk_at "MINE led"); (case e => (unfold mlJ; (repeat' split) <;> first | rfl | omega)))
local macro_rules | `(tactic| walk_at "call ref") => `(tactic| (k_here; (with_reducible show wpAny _ _ (call (Value.ref 149) _) _ _ _); k_dflt (refine' useV (c_mlen _ _ _ _ _ _ _ _ _) ?k1 ?k2 ?k3 ?k4 ?k5 ?kK ?kp ?kd ?ku ?_); walk_at "MINE use"; (case kp => trivial); (intro _ _ _ _ _; (try dsimp only))))
theorem c_legal_j (w mean mg mb) (y m d : Int) (t1 t2 t3 : Tok) (news) : ClV 3 w mean mg mb 156 news (OkJ y m d) [.int y t1, .int m t2, .int d t3] (fun _ => .bool true) := by
  unfold ClV
  k_fill
  intros
  rename_i kpre kd ku hret
  have hml : d ≤ mlJ y m := by
    dsimp only [OkJ] at kpre
    unfold mlJ
    (repeat' split) <;> omega
  have hd1 : 1 ≤ d := kpre.2.2.1
  clear kpre
  walk_at "MINE start"
  k_steps
  all_goals (refine' cb_retB hret ?e ?F ?N; (case F => k_asm); (case N => walk_at "MINE led"); (case e => rfl))
section
variable {prog : Program} {w : World} {A : Around} {E : Value → Shared → Prop} {s : Shared} {x y : UInt64} {a b n i k : Int} {t u : Tok} {Q : Value → Shared → Prop}
theorem r_mul (hb : Sm (4096 * n)) (h : Q (.float (Float64.mul x (ofInt n)) s.toks) { s with toks := s.toks + 1 }) : wpAny (model prog w) A (binaryOp .Mult (.float x t) (.int n u)) Q E s :=
  mul_fi_fits (fits_of hb) h
theorem r_subif (hb : Sm (4096 * n)) (h : Q (.float (Float64.sub (ofInt n) x) s.toks) { s with toks := s.toks + 1 }) : wpAny (model prog w) A (binaryOp .Sub (.int n u) (.float x t)) Q E s :=
  sub_if_fits (fits_of hb) h
theorem r_divif (hz : isZero x = false) (hb : Sm (4096 * n)) (hA : A.handled = none) (h : Q (.float (Float64.div (ofInt n) x) s.toks) { s with toks := s.toks + 1 }) : wpAny (model prog w) A (binaryOp .Div (.int n u) (.float x t)) Q E s :=
  truediv_if hA (fun c => absurd (Flt.inf_of_over c) (Float64.ofInt_fits (fits_of hb))) (fun _ c => by rw [hz] at c; cases c) fun _ _ => h
theorem r_divff (hz : isZero y = false) (hA : A.handled = none) (h : Q (.float (Float64.div x y) s.toks) { s with toks := s.toks + 1 }) : wpAny (model prog w) A (binaryOp .Div (.float x t) (.float y u)) Q E s :=
  truediv_float_or hA (fun c => by rw [hz] at c; cases c) fun _ => h
theorem r_floor (hx : FloorIs x k) (hA : A.handled = none) (h : ∀ i : Int, i = k → Q (.int i s.toks) { s with toks := s.toks + 1 }) : wpAny (model prog w) A (call (.builtin "math.floor") [.float x t]) Q E s := g_floor hx (h _ rfl) hA
theorem nz_mon : isZero 0x403e99a027525461 = false := by decide +kernel
theorem nz_year : isZero 0x4076d40000000000 = false := by decide +kernel
end
local macro_rules | `(tactic| walk_at "binaryOp Mult float int") => `(tactic| first
  | (refine' g_mulfi ?hx rfl ?ha ?hb ?hab ?hs ?_; (case hx => walk_at "MINE lit"); (case ha => walk_at "MINE small"); (case hb => walk_at "MINE small"); (case hab => walk_at "MINE small"); (case hs => omega); (try dsimp only))
  | (refine' r_mul ?hb ?_; (case hb => walk_at "MINE small"); (try dsimp only)))
local macro_rules | `(tactic| walk_at "binaryOp Sub int float") => `(tactic| first
  | (refine' g_subif ?hx ?ha ?hb ?hab ?_; (case hx => walk_at "MINE lit"); (case ha => walk_at "MINE small"); (case hb => walk_at "MINE small"); (case hab => walk_at "MINE small"); (try dsimp only))
  | (refine' r_subif ?hb ?_; (case hb => walk_at "MINE small"); (try dsimp only)))
local macro_rules | `(tactic| walk_at "binaryOp Div int float") => `(tactic| (refine' r_divif ?hz ?hb rfl ?_; (case hz => first | exact nz_mon | exact nz_year); (case hb => walk_at "MINE small"); (try dsimp only)))
local macro_rules | `(tactic| walk_at "binaryOp Div float float") => `(tactic| (refine' r_divff ?hz rfl ?_; (case hz => first | exact nz_mon | exact nz_year); (try dsimp only)))
local macro_rules | `(tactic| walk_at "call builtin:math.floor") => `(tactic| ((with_reducible show wpAny _ _ (call _ [Value.float _ _]) _ _ _); first
  | (refine' g_floorD ?hx ?ha ?hn ?hn2 ?hql ?hqh rfl ?_; (case hx => with_reducible exact rfl); (case ha => walk_at "MINE small"); (case hn => omega); (case hn2 => omega); (case hql => omega); (case hqh => omega); (intro _ _); (try dsimp only))
  | (refine' g_floorM ?hx ?hd ?ha ?hn ?hn2 ?hql ?hqh rfl ?_; (case hx => with_reducible exact rfl); (case hd => omega); (case ha => walk_at "MINE small"); (case hn => omega); (case hn2 => omega); (case hql => omega); (case hqh => omega); (intro _ _ _ _); (try dsimp only))
  | (refine' g_floorZ ?hx ?ha rfl ?_; (case hx => with_reducible exact rfl); (case ha => walk_at "MINE small"); (intro _ _); (try dsimp only))
  | (refine' r_floor ?hx rfl ?_; (case hx => first | exact mon_floor (by omega) (by omega) | exact day_floor (by omega) (by omega) | exact year_floor (by omega)); (intro _ _); (try dsimp only))))
local macro_rules | `(tactic| walk_at "call builtin:math.floor") => `(tactic| with_reducible refine call_floor_int ?_)
local macro_rules | `(tactic| walk_at "call ref") => `(tactic| (k_here; (with_reducible show wpAny _ _ (call (Value.ref 156) _) _ _ _); k_dflt (refine' useV (c_legal_j _ _ _ _ _ _ _ _ _ _ _) ?k1 ?k2 ?k3 ?k4 ?k5 ?kK ?kp ?kd ?ku ?_); walk_at "MINE use"; (case kp => ((try dsimp only [OkJ]); omega)); (intro _ _ _ _ _; (try dsimp only))))
theorem c_to_j (w mean mg mb) (y m d : Int) (t1 t2 t3 : Tok) (news) : ClV 4 w mean mg mb 170 news (-1000000000 ≤ y ∧ y ≤ 1000000000 ∧ OkJ y m d) [.int y t1, .int m t2, .int d t3] (fun t => .float (G (4096 * jjd y m d + 2048)) t) := by
  unfold ClV
  k_fill
  intros
  rename_i kpre kd ku hret
  dsimp only [OkJ] at kpre
  walk_at "MINE start"
  k_steps
  all_goals (refine' ret_f hret ?e ?F ?N; (case F => k_asm); (case N => walk_at "MINE led"); (case e => (unfold jjd; (repeat' split) <;> omega)))
theorem jul_of {z a c x e : Int} (ha : a = (z + 2048) / 4096) (hc : c = (20 * (a + 1524) - 2442) / 7305) (hx : x = 1496064 * c / 4096) (he : e = 10000 * (a + 1524 - x) / 306001) :
    c = jC ((z - 2048) / 4096) ∧ e = jE ((z - 2048) / 4096) ∧ a = (z - 2048) / 4096 + 1 ∧ x = 1461 * c / 4 := by
  have h1 : a = (z - 2048) / 4096 + 1 := by omega
  have h2 : c = jC ((z - 2048) / 4096) := by unfold jC; omega
  have h3 : x = 1461 * c / 4 := by omega
  refine ⟨h2, ?_, h1, h3⟩
  unfold jE
  rw [← h2]
  omega
local macro_rules | `(tactic| walk_at "MINE jul") => `(tactic| (
  (rename (_ : Int) = (_ + 2048) / 4096 => h1); (rename (_ : Int) = (20 * (_ + 1524) - 2442) / 7305 => h2); (rename (_ : Int) = 1496064 * _ / 4096 => h3); (rename (_ : Int) = 10000 * _ / 306001 => h4); (rename (_ : Int) = 306001 * _ / 10000 => h5)
  (obtain ⟨e1, e2, e3, e4⟩ := jul_of h1 h2 h3 h4)
  (try unfold jY); (try unfold jM); (try unfold jD); (rw [← e2]); (try rw [← e1]); (repeat' split) <;> omega))
theorem c_from_j (w mean mg mb) (z : Int) (t : Tok) (news) : ClT 1 w mean mg mb 163 news (-1125899906842624 ≤ z ∧ z ≤ 1125899906842624) [.float (G z) t] (jY ((z - 2048) / 4096)) (jM ((z - 2048) / 4096)) (jD ((z - 2048) / 4096)) := by
  unfold ClT
  k_fill
  intros
  rename_i kpre kd ku hret
  walk_at "MINE start"
  k_steps
  all_goals (refine' ret_t hret ?F ?N ?hl ?ex ?ey ?ez; (case F => k_asm); (case N => k_asm); (case hl => assumption); (case ex => walk_at "MINE jul"); (case ey => walk_at "MINE jul"); (case ez => walk_at "MINE jul"))

-- W1
open PySem PySem.W PyProof.Rows PySem.Calls PySem.Float64 PySem.Flt
def lw (n most : Int) : Int := if n % (2 * most + 1) ≤ most then n % (2 * most + 1) else n % (2 * most + 1) - 2 * most - 1
theorem c_within (w mean mg mb) (n most : Int) (t1 t2 : Tok) (news) : ClV 1 w mean mg mb 240 news (most = 100000000000 ∨ most = 1000000) [.int n t1, .int most t2] (fun t => .int (lw n most) t) := by
  unfold ClV
  k_fill
  intros
  rename_i kpre kd ku hret
  rcases kpre with kpre | kpre
  all_goals (
    subst kpre
    walk_at "MINE start"
    k_steps)
  all_goals (refine' cb_retI hret ?e ?F ?N; (case F => k_asm); (case N => walk_at "MINE led"); (case e => (unfold lw; (first | (rename (Int.fmod _ _ ≤ _) => hle) | (rename (¬ (Int.fmod _ _ ≤ _)) => hle)); (rw [Int.fmod_eq_emod_of_nonneg _ (by decide)] at hle ⊢); (first | (rw [if_pos hle]) | (rw [if_neg hle])))))
theorem lw_far (n : Int) : -100000000000 ≤ lw n 100000000000 ∧ lw n 100000000000 ≤ 100000000000 := by unfold lw; split <;> omega
theorem lw_week (n : Int) : -1000000 ≤ lw n 1000000 ∧ lw n 1000000 ≤ 1000000 := by unfold lw; split <;> omega
section
variable {prog : Program} {w : World} {A : Around} {E : Value → Shared → Prop} {s : Shared} {x y : UInt64} {a b n i k : Int} {t u : Tok} {Q : Value → Shared → Prop}
theorem g_truncD (hx : x = G a) (ha : Sm a) (h0 : 0 ≤ a) (hA : A.handled = none) (h : ∀ i : Int, i = a / 4096 → Q (.int i s.toks) { s with toks := s.toks + 1 }) : wpAny (model prog w) A (call (.builtin "math.trunc") [.float x t]) Q E s := by
  subst hx
  exact g_trunc (trunc_G ha h0) (h _ rfl) hA
theorem g_neq (hx : x = G a) (hy : y = G b) (ha : Sm a) (hab : a = b) (h : Q (.bool false) s) : wpAny (model prog w) A (compareOp .NotEq (.float x t) (.float y u)) Q E s := by
  subst hab
  refine g_ne hx hy ha ha ?_
  simpa using h
theorem g_eqq (hx : x = G a) (hy : y = G b) (ha : Sm a) (hab : a = b) (h : Q (.bool true) s) : wpAny (model prog w) A (compareOp .Eq (.float x t) (.float y u)) Q E s := by
  subst hab
  refine g_eq hx hy ha ha ?_
  simpa using h
end
local macro_rules | `(tactic| walk_at "call builtin:math.trunc") => `(tactic| (refine' g_truncD ?hx ?ha ?h0 rfl ?_; (case hx => with_reducible exact rfl); (case ha => walk_at "MINE small"); (case h0 => omega); (intro _ _); (try dsimp only)))
/-- the search from z, c days on, for the weekday w -/
def sw (z w c : Int) : Int := z + 4096 * c - 4096 * (((z + 2048) / 4096 + c - w) % 7)
theorem c_jwday (w mean mg mb) (z : Int) (t : Tok) (news) : ClV 1 w mean mg mb 49 news (0 ≤ z ∧ z ≤ 1125899906842624) [.float (G z) t] (fun t => .int ((z + 2048) / 4096 % 7) t) := by
  unfold ClV
  k_fill
  intros
  rename_i kpre kd ku hret
  walk_at "MINE start"
  k_steps
  all_goals (refine' cb_retI hret ?e ?F ?N; (case F => k_asm); (case N => walk_at "MINE led"); (case e => (first | omega | (rw [Int.fmod_eq_emod_of_nonneg _ (by decide)]; omega))))
local macro_rules | `(tactic| walk_at "call ref") => `(tactic| (k_here; (with_reducible show wpAny _ _ (call (Value.ref 49) _) _ _ _); k_dflt (refine' useV (c_jwday _ _ _ _ _ _ _) ?k1 ?k2 ?k3 ?k4 ?k5 ?kK ?kp ?kd ?ku ?_); walk_at "MINE use"; (case kp => omega); (intro _ _ _ _ _; (try dsimp only))))
theorem c_before (w mean mg mb) (z v : Int) (t t2 : Tok) (news) : ClV 2 w mean mg mb 56 news (0 ≤ v ∧ v ≤ 6 ∧ 1000000 ≤ z ∧ z ≤ 1125899906842624) [.int v t2, .float (G z) t] (fun t => .float (G (z - 4096 * (((z + 2048) / 4096 - v) % 7))) t) := by
  unfold ClV
  k_fill
  intros
  rename_i kpre kd ku hret
  walk_at "MINE start"
  k_steps
  all_goals (refine' ret_f hret ?e ?F ?N; (case F => k_asm); (case N => walk_at "MINE led"); (case e => omega))
local macro_rules | `(tactic| walk_at "call ref") => `(tactic| (k_here; (with_reducible show wpAny _ _ (call (Value.ref 56) _) _ _ _); k_dflt (refine' useV (c_before _ _ _ _ _ _ _ _ _) ?k1 ?k2 ?k3 ?k4 ?k5 ?kK ?kp ?kd ?ku ?_); walk_at "MINE use"; (case kp => omega); (intro _ _ _ _ _; (try dsimp only))))
theorem c_search (w mean mg mb) (z v p o : Int) (t t2 t3 t4 : Tok) (news) : ClV 3 w mean mg mb 63 news (0 ≤ v ∧ v ≤ 6 ∧ 2000000 ≤ z ∧ z ≤ 1125899906000000 ∧ (p = 1 ∨ p = -1) ∧ 0 ≤ o ∧ o ≤ 7) [.int v t2, .float (G z) t, .int p t3, .int o t4] (fun t => .float (G (sw z v (p * o))) t) := by
  unfold ClV
  k_fill
  intros
  rename_i kpre kd ku hret
  obtain ⟨hv1, hv2, hz1, hz2, hp, ho1, ho2⟩ := kpre
  rcases hp with hp | hp
  all_goals (
    subst hp
    walk_at "MINE start"
    k_steps)
  all_goals (refine' ret_f hret ?e ?F ?N; (case F => k_asm); (case N => walk_at "MINE led"); (case e => (unfold sw; omega)))
local macro_rules | `(tactic| walk_at "call ref") => `(tactic| (k_here; (with_reducible show wpAny _ _ (call (Value.ref 63) _) _ _ _); k_dflt (refine' useV (c_search _ _ _ _ _ _ _ _ _ _ _ _ _) ?k1 ?k2 ?k3 ?k4 ?k5 ?kK ?kp ?kd ?ku ?_); walk_at "MINE use"; (case kp => omega); (intro _ _ _ _ _; (try dsimp only))))
theorem c_near (w mean mg mb) (z v : Int) (t t2 : Tok) (news) : ClV 4 w mean mg mb 70 news (0 ≤ v ∧ v ≤ 6 ∧ 2000000 ≤ z ∧ z ≤ 1125899906000000) [.int v t2, .float (G z) t] (fun t => .float (G (sw z v (3))) t) := by
  unfold ClV
  k_fill
  intros
  rename_i kpre kd ku hret
  walk_at "MINE start"
  k_steps
  all_goals (refine' ret_f hret ?e ?F ?N; (case F => k_asm); (case N => walk_at "MINE led"); (case e => rfl))
local macro_rules | `(tactic| walk_at "call ref") => `(tactic| (k_here; (with_reducible show wpAny _ _ (call (Value.ref 70) _) _ _ _); k_dflt (refine' useV (c_near _ _ _ _ _ _ _ _ _) ?k1 ?k2 ?k3 ?k4 ?k5 ?kK ?kp ?kd ?ku ?_); walk_at "MINE use"; (case kp => omega); (intro _ _ _ _ _; (try dsimp only))))
theorem c_next (w mean mg mb) (z v : Int) (t t2 : Tok) (news) : ClV 4 w mean mg mb 77 news (0 ≤ v ∧ v ≤ 6 ∧ 2000000 ≤ z ∧ z ≤ 1125899906000000) [.int v t2, .float (G z) t] (fun t => .float (G (sw z v (7))) t) := by
  unfold ClV
  k_fill
  intros
  rename_i kpre kd ku hret
  walk_at "MINE start"
  k_steps
  all_goals (refine' ret_f hret ?e ?F ?N; (case F => k_asm); (case N => walk_at "MINE led"); (case e => rfl))
local macro_rules | `(tactic| walk_at "call ref") => `(tactic| (k_here; (with_reducible show wpAny _ _ (call (Value.ref 77) _) _ _ _); k_dflt (refine' useV (c_next _ _ _ _ _ _ _ _ _) ?k1 ?k2 ?k3 ?k4 ?k5 ?kK ?kp ?kd ?ku ?_); walk_at "MINE use"; (case kp => omega); (intro _ _ _ _ _; (try dsimp only))))
theorem c_nextc (w mean mg mb) (z v : Int) (t t2 : Tok) (news) : ClV 4 w mean mg mb 84 news (0 ≤ v ∧ v ≤ 6 ∧ 2000000 ≤ z ∧ z ≤ 1125899906000000) [.int v t2, .float (G z) t] (fun t => .float (G (sw z v (6))) t) := by
  unfold ClV
  k_fill
  intros
  rename_i kpre kd ku hret
  walk_at "MINE start"
  k_steps
  all_goals (refine' ret_f hret ?e ?F ?N; (case F => k_asm); (case N => walk_at "MINE led"); (case e => rfl))
local macro_rules | `(tactic| walk_at "call ref") => `(tactic| (k_here; (with_reducible show wpAny _ _ (call (Value.ref 84) _) _ _ _); k_dflt (refine' useV (c_nextc _ _ _ _ _ _ _ _ _) ?k1 ?k2 ?k3 ?k4 ?k5 ?kK ?kp ?kd ?ku ?_); walk_at "MINE use"; (case kp => omega); (intro _ _ _ _ _; (try dsimp only))))
theorem c_prev (w mean mg mb) (z v : Int) (t t2 : Tok) (news) : ClV 4 w mean mg mb 91 news (0 ≤ v ∧ v ≤ 6 ∧ 2000000 ≤ z ∧ z ≤ 1125899906000000) [.int v t2, .float (G z) t] (fun t => .float (G (sw z v (-1))) t) := by
  unfold ClV
  k_fill
  intros
  rename_i kpre kd ku hret
  walk_at "MINE start"
  k_steps
  all_goals (refine' ret_f hret ?e ?F ?N; (case F => k_asm); (case N => walk_at "MINE led"); (case e => rfl))
local macro_rules | `(tactic| walk_at "call ref") => `(tactic| (k_here; (with_reducible show wpAny _ _ (call (Value.ref 91) _) _ _ _); k_dflt (refine' useV (c_prev _ _ _ _ _ _ _ _ _) ?k1 ?k2 ?k3 ?k4 ?k5 ?kK ?kp ?kd ?ku ?_); walk_at "MINE use"; (case kp => omega); (intro _ _ _ _ _; (try dsimp only))))
theorem c_prevc (w mean mg mb) (z v : Int) (t t2 : Tok) (news) : ClV 4 w mean mg mb 98 news (0 ≤ v ∧ v ≤ 6 ∧ 2000000 ≤ z ∧ z ≤ 1125899906000000) [.int v t2, .float (G z) t] (fun t => .float (G (sw z v (0))) t) := by
  unfold ClV
  k_fill
  intros
  rename_i kpre kd ku hret
  walk_at "MINE start"
  k_steps
  all_goals (refine' ret_f hret ?e ?F ?N; (case F => k_asm); (case N => walk_at "MINE led"); (case e => rfl))
local macro_rules | `(tactic| walk_at "call ref") => `(tactic| (k_here; (with_reducible show wpAny _ _ (call (Value.ref 98) _) _ _ _); k_dflt (refine' useV (c_prevc _ _ _ _ _ _ _ _ _) ?k1 ?k2 ?k3 ?k4 ?k5 ?kK ?kp ?kd ?ku ?_); walk_at "MINE use"; (case kp => omega); (intro _ _ _ _ _; (try dsimp only))))
theorem sw_facts (z v c : Int) (h1 : 0 ≤ z) (h2 : z ≤ 1125899906000000) (h3 : -10 ≤ c) (h4 : c ≤ 10) : -100000 ≤ sw z v c ∧ sw z v c ≤ 1125899907000000 := by unfold sw; omega
theorem c_nweeks (w mean mg mb) (z v n : Int) (t t2 t3 : Tok) (news) : ClV 5 w mean mg mb 105 news (0 ≤ v ∧ v ≤ 6 ∧ 2000000 ≤ z ∧ z ≤ 1125899906000000 ∧ -1000000 ≤ n ∧ n ≤ 1000000) [.int v t2, .float (G z) t, .int n t3] (fun t => .float (G (4096 * (7 * n) + sw z v (if n > 0 then -1 else 7))) t) := by
  unfold ClV
  k_fill
  intros
  rename_i kpre kd ku hret
  have hs1 := sw_facts z v (-1) (by omega) (by omega) (by decide) (by decide)
  have hs2 := sw_facts z v 7 (by omega) (by omega) (by decide) (by decide)
  walk_at "MINE start"
  k_steps
  all_goals (refine' ret_f hret ?e ?F ?N; (case F => k_asm); (case N => walk_at "MINE led"); (case e => (split <;> first | rfl | omega)))

-- TC
open PySem PySem.W PySem.Spec PyProof.Rows PySem.Calls PyProof.Rows.LCg
abbrev tobj (its : Array Value) (k : Nat) : Obj := { cls := .type "tuple", data := .seq its k }
/-- a comprehension's source: a tuple of the call's own -/
def CompT (prog : Program) (w : World) (A : Around) (h₀ : Heap) (L : Addr) (m : Str → Option Value) (env : Env) (elt : Expr) (x : Str) (scope : Scope) (cl : List (Str × Addr)) (Fin : Shared → List Value → List (Addr × Obj) → Prop) (xv : Value) (s₁ : Shared) : Prop :=
  ∃ ax its k news, xv = .ref ax ∧ A.handled = none ∧ Fr h₀ L s₁.heap m ∧ News h₀ L s₁.heap news ∧ (ax, tobj its k) ∈ news ∧ its.size ≤ sizeLine ∧
    ∀ s₂ : Shared, (∃ h, s₂ = { s₁ with heap := h }) → CompRest prog w A h₀ L m env elt x scope cl s₂ (fun nw => (ax, tobj its k) ∈ nw) (fun i v => its[i]? = some v) (Fin s₂) its.size 0 [] news
section
variable {prog : Program} {w : World} {A : Around} {E : Value → Shared → Prop} {s : Shared} {h₀ : Heap} {L : Addr} {m : Str → Option Value} {env : Env}
theorem CompT.ledger {elt : Expr} {x : Str} {scope : Scope} {cl : List (Str × Addr)} {Fin : Shared → List Value → List (Addr × Obj) → Prop} {ax : Addr} {its : Array Value} {k : Nat} {news : List (Addr × Obj)} {s₁ : Shared}
    (hh : A.handled = none) (F : Fr h₀ L s₁.heap m) (N : News h₀ L s₁.heap news) (hm : (ax, tobj its k) ∈ news) (hsz : its.size ≤ sizeLine)
    (h : ∀ g, CompRest prog w A h₀ L m env elt x scope cl { s₁ with heap := g } (fun nw => (ax, tobj its k) ∈ nw) (fun i v => its[i]? = some v) (Fin { s₁ with heap := g }) its.size 0 [] news) :
    CompT prog w A h₀ L m env elt x scope cl Fin (.ref ax) s₁ := ⟨ax, its, k, news, rfl, hh, F, N, hm, hsz, fun _ ⟨g, e⟩ => e ▸ h g⟩
theorem tup_of {h : Heap} {ax : Addr} {its : Array Value} {k : Nat} (e : h.get? ax = some (tobj its k)) : h.IsTuple ax its := ⟨_, e, rfl, k, rfl⟩
theorem tup_st {ax I : Addr} {its : Array Value} {k : Nat} : ∀ i (h h' : Heap) (o : Obj) (nw : List (Addr × Obj)), (h.IsTupleIter I ax i ∧ h.IsTuple ax its) → h.get? I = some o → h'.get? I = some o → (∀ b o, h₀.get? b = some o → h'.get? b = some o) → News h₀ L h' nw → (ax, tobj its k) ∈ nw → (h'.IsTupleIter I ax i ∧ h'.IsTuple ax its) :=
  fun i h h' o nw st e e' _ N S => ⟨by obtain ⟨o', q, r⟩ := st.1; rw [e] at q; cases q; exact ⟨o, e', r⟩, tup_of (N _ S).1⟩
theorem Assign_ListComp_T {elt iter : Expr} {x y : Str} {px py : Pos} {scope : Scope} {cl : List (Str × Addr)} {pos spos : Pos} {Q : Flow → Shared → Prop} (_F₀ : Fr h₀ L s.heap m) (hLe : env.locals = L)
    (hsw : swapsWith (.ListComp elt [⟨.Name x px, iter, [], 0⟩] scope pos) (some (.Name y py)) spos.line env = pure true)
    (hclos : closureFor scope env = pure cl) (hcell : ∀ z ∈ scope.names, z.2 ≠ .cell) (hkind : scope.kind = .function)
    (hnames : ∀ z ∈ scope.names, z.2 = .local → scope.names.lookup z.1 = some .local) (hx : scope.names.lookup x = some .local)
    (hy : env.kindOf y = some .local) (hp : (env.scope.kind == .class || (env.scope.kind == .module && env.locals != env.globals)) = false)
    (h : wpAny (model prog w) A (eval iter env) (CompT prog w A h₀ L m env elt x scope cl (fun s₂ => FinA h₀ L m s₂ y Q)) E s)
    (hs : ∀ x, foldedSetIterable iter env x = pure x := by intro _; rfl) :
    wpAny (model prog w) A (exec (.Assign [.Name y py] (.ListComp elt [⟨.Name x px, iter, [], 0⟩] scope pos) spos) env) Q E s := by
  subst hLe
  rw [exec_Assign_Name_used _ _ _ _ hsw]
  refine wpAny_bind (wpAny_standAt (wpAny_bind ?_))
  show wpAny _ A (do let _ ← comprehension (.ListComp elt [⟨.Name x px, iter, [], 0⟩] scope pos) scope env _ (newList []) false (eval iter env) (some (assign (.Name y py) env))) _ _ s
  refine wpAny_bind (wpAny_mono (wpAny_comprehension_free (use := some (assign (.Name y py) env)) (Q := fun _ s' => Q .next s') rfl hs hclos hkind hnames
    (wpAny_mono h (fun xv s₁ h₁ => ?_) fun _ _ e => e)) (fun _ s' hq => wpAny_pure (wpAny_pure hq)) fun _ _ e => e)
  obtain ⟨ax, its, k, news, rfl, hh, F, N, S, hsz, R⟩ := h₁
  have hl := tup_of (N _ S).1
  have hlt : ax < s₁.heap.objs.size := Heap.lt_size (N _ S).1
  refine wpAny_pyIter_tuple hl ?_
  refine block_U (Walks.tuple hh s₁.heap.objs.size ax (Nat.ne_of_lt hlt) its) hsz (fun i h st => by obtain ⟨o, e, _⟩ := st.1; exact ⟨o, e⟩) tup_st hcell hkind hx ⟨⟨_, Heap.get?_push_size _ rfl, rfl, rfl⟩, hl.push _⟩ (fun b hb => ?_)
    (F.keeps fun b o e => Heap.get?_push_of_some _ e) (N.grown fun b o e => Heap.get?_push_of_some _ e) (Nat.ne_of_lt F.ns.lt) (next_is_new F) (fun p hp => Nat.ne_of_lt (Heap.lt_size (N p hp).1)) S (R _ ⟨_, rfl⟩) ?_
  · show b < (s₁.heap.push _).objs.size
    rw [Heap.size_push]
    rcases List.mem_cons.mp hb with rfl | hb
    · exact Nat.lt_succ_self _
    · rw [List.mem_singleton.mp hb]; exact Nat.lt_succ_of_lt hlt
  · intro D C h' tk m' ys news' F' N' o1 hn hC₀ hD₀ hCL hDL hCD offC fin
    show wpAny _ A (assign (.Name y py) env (.ref D)) _ _ _
    refine wpAny_assign_Name (wpAny_storeName_local hy F'.ns (fun h₂ hn₂ hs₂ => ?_) hp)
    have hL₀ : h₀.get? env.locals = none := Heap.get?_none_of_le F'.above
    have F₂ : Fr h₀ env.locals h₂ (fun z => if z = y then some (.ref D) else m z) := ⟨hn₂, fun b o e => hs₂.extBut b o (fun q => by rw [q, hL₀] at e; cases e) (F'.keep b o e), F'.above⟩
    refine ⟨m', hn.sameBut hs₂ hCL, fun h'' hs'' => fin D h'' _ (F₂.change hs'' hCL hC₀) (fun p hp => ?_) o1⟩
    have z : h₂.get? p.1 = some p.2 := hs₂.extBut _ _ (N' p hp).2.1 (N' p hp).1
    refine ⟨hs''.extBut _ _ ?_ z, (N' p hp).2⟩
    rcases List.mem_cons.mp hp with rfl | hp
    · exact Ne.symm hCD
    · exact offC p hp
end

-- L0
open PySem PySem.W PyProof.Rows PySem.Calls PySem.Float64 PySem.Flt
theorem ints8 {ws : List Value} {ns : List Int} (h : IntsAre ws ns) (hl : ns.length = 8) :
    ∃ (n0 n1 n2 n3 n4 n5 n6 n7 : Int) (t0 t1 t2 t3 t4 t5 t6 t7 : Tok), ws = [.int n0 t0, .int n1 t1, .int n2 t2, .int n3 t3, .int n4 t4, .int n5 t5, .int n6 t6, .int n7 t7] := by
  cases h with
  | nil => cases hl
  | cons n0 t0 h => cases h with
  | nil => simp at hl
  | cons n1 t1 h => cases h with
  | nil => simp at hl
  | cons n2 t2 h => cases h with
  | nil => simp at hl
  | cons n3 t3 h => cases h with
  | nil => simp at hl
  | cons n4 t4 h => cases h with
  | nil => simp at hl
  | cons n5 t5 h => cases h with
  | nil => simp at hl
  | cons n6 t6 h => cases h with
  | nil => simp at hl
  | cons n7 t7 h => cases h with
  | nil => exact ⟨n0, n1, n2, n3, n4, n5, n6, n7, t0, t1, t2, t3, t4, t5, t6, t7, rfl⟩
  | cons n8 t8 h => simp at hl
theorem take8 (ns : List Int) : (List.take 8 (List.take 8 ns ++ (List.replicate 8 [(0 : Int)]).flatten)).length = 8 := by
  have e : ((List.replicate 8 [(0 : Int)]).flatten).length = 8 := rfl
  rw [List.length_take, List.length_append, e]
  omega
theorem lw_bounds {n most : Int} (h : most = 100000000000 ∨ most = 1000000) : -most ≤ lw n most ∧ lw n most ≤ most := by
  rcases h with h | h <;> subst h
  · exact lw_far n
  · exact lw_week n
section
variable {w : World} {mean : ExcName → Option Value} {mg mb : Str → Option Value} {news : Led} {n most : Int} {t1 t2 : Tok}
  {dp un : Nat} {gd : Option (List Code)} {cn : Str} {cs : Scope} {a : Addr} {ccd : Value} {cl : List (Str × Addr)} {outer : List Env} {A₀ : Around} {base h₀ : Heap} {L : Addr} {m : Str → Option Value} {s : Shared} {Q E : Value → Shared → Prop}
theorem useWithin (B : Below A₀ base outer h₀) (F : Fr h₀ L s.heap m) (X : (hd.heap_39 w.params).In h₀) (N : News h₀ L s.heap news) (T : Top hd.view_39 LS mean mg mb h₀) (hk : cs.kind = .function) (hp : most = 100000000000 ∨ most = 1000000)
    (hd : dp + 1 < recursionLimit) (hu : un + 8 * 1 < cLine) (ret : ∀ v : Int, -most ≤ v → v ≤ most → ∀ (t : Tok) (h' : Heap) (tk' : Nat), Fr h₀ L h' m → News h₀ L h' news → Q (.int v t) { s with heap := h', toks := tk' }) :
    wpAny (model Challenge.rw_ad5023_01.row.prog w) (ktrTop dp un gd cn cs L a ccd cl outer) (call (.ref 240) [.int n t1, .int most t2]) Q E s :=
  useV (c_within w mean mg mb n most t1 t2 news) B F X N T hk hp hd hu fun t h' tk' F' N' => ret _ (lw_bounds hp).1 (lw_bounds hp).2 t h' tk' F' N'
end
section
variable {prog : Program} {w : World} {A : Around} {E : Value → Shared → Prop} {s : Shared} {a b : Int} {t u : Tok} {Q : Value → Shared → Prop}
theorem g_modii (hb : 0 < b) (h : ∀ r : Int, r = a % b → Q (.int r s.toks) { s with toks := s.toks + 1 }) : wpAny (model prog w) A (binaryOp .Mod (.int a t) (.int b u)) Q E s := by
  refine mod_int' (by omega) ?_
  rw [Int.fmod_eq_emod_of_nonneg _ (by omega)]
  exact h _ rfl
theorem g_div4096 (hA : A.handled = none) (ha : Sm a) (h : Q (.float (G a) s.toks) { s with toks := s.toks + 1 }) : wpAny (model prog w) A (binaryOp .Div (.int a t) (.int 4096 u)) Q E s := by
  refine g_divii (by decide) ha ?_ hA
  have e : (decide (a < 0) != decide ((4096 : Int) < 0)) = decide (a < 0) := by
    rw [show decide ((4096 : Int) < 0) = false from rfl]
    cases decide (a < 0) <;> rfl
  rw [e]
  exact h
end
theorem CompEnd_same {h₀ : Heap} {L I C D : Addr} {m : Str → Option Value} {s₁ : Shared} {oI oC oD : Obj} {S : List (Addr × Obj) → Prop} {rest : Value → List (Addr × Obj) → Prop} {y : Value} {h' : Heap} {tk : Nat} {news' : List (Addr × Obj)}
    (F : Fr h₀ L h' m) (N : News h₀ L h' ((I, oI) :: (C, oC) :: (D, oD) :: news')) (off : LCg.Off3 I C D news') (hS : S news') (r : rest y news') :
    LCg.CompEnd h₀ L m s₁ I oI C oC D oD S rest y { s₁ with heap := h', toks := tk } := LCg.CompEnd.intro F N news' (fun _ h => h) off hS r
section
variable {prog : Program} {w : World} {A : Around} {E : Value → Shared → Prop} {s : Shared} {a b : Int} {t u : Tok} {Q : Value → Shared → Prop}
theorem i_neq (hab : a = b) (h : Q (.bool false) s) : wpAny (model prog w) A (compareOp .NotEq (.int a t) (.int b u)) Q E s := by
  subst hab
  refine ne_int ?_
  simpa using h
theorem item_3 {value slice : Expr} {h₀ : Heap} {L D : Addr} {news : Led} {v0 v1 v2 v : Value} {c : Nat} {k : Int} (N : News h₀ L s.heap news) (hm : (D, tupObj v0 v1 v2 c) ∈ news) (h0 : 0 ≤ k) (h3 : k < 3) (hv : [v0, v1, v2][k.toNat]? = some v) (h : Q v s)
    (hs : subscripted slice false (.ref D) (.int k u) = operate [.ref D, .int k u] (getItem (.ref D) (.int k u)) := by with_unfolding_all rfl) :
    wpAny (model prog w) A (subscriptTail value slice (.ref D) (.int k u)) Q E s :=
  item_tupleT (l := [v0, v1, v2]) (j := k.toNat) (tup_of (N _ hm).1) (by omega) (by omega) (by
    have hk : k = 0 ∨ k = 1 ∨ k = 2 := by omega
    rcases hk with rfl | rfl | rfl <;> rfl) hv h hs
end
/-- a moment: f days and p 4096ths from 1 January 2000 -/
structure Mom (f p : Int) : Prop where
  flo : -100000000000 ≤ f
  fhi : f ≤ 100000000000
  plo : 0 ≤ p
  phi : p < 4096
/-- what the searches from z find: a days on, b days back to the weekday w -/
structure SwF (z w a b : Int) : Prop where
  next0 : sw z w 6 = z + 4096 * a
  prev0 : sw z w 0 = z - 4096 * b
  next1 : sw z w 7 = z + 4096 * (if a = 0 then 7 else a)
  prev1 : sw z w (-1) = z - 4096 * (if b = 0 then 7 else b)
  near : sw z w 3 = z + 4096 * (if a < 4 then a else a - 7)
  weeks : ∀ n : Int, sw z w (if n > 0 then -1 else 7) = if n > 0 then z - 4096 * (if b = 0 then 7 else b) else z + 4096 * (if a = 0 then 7 else a)
  alo : 0 ≤ a
  ahi : a ≤ 6
  blo : 0 ≤ b
  bhi : b ≤ 6
  ab : (a = 0 ∧ b = 0) ∨ a + b = 7
theorem swF_of {z w a b t far p : Int} (ht : t = (far + 2451545) % 7) (ha : a = (w - t) % 7) (hb : b = (t - w) % 7) (hz : z = 10041526272 + 4096 * far + p) (hp1 : 0 ≤ p) (hp2 : p < 4096) : SwF z w a b := by
  have hT : (z + 2048) / 4096 = far + 2451545 := by omega
  obtain ⟨T, hTe⟩ : ∃ T, T = far + 2451545 := ⟨_, rfl⟩
  rw [← hTe] at ht hT
  clear hz hTe
  have h1 : sw z w 6 = z + 4096 * a := by unfold sw; rw [hT]; omega
  have h2 : sw z w 0 = z - 4096 * b := by unfold sw; rw [hT]; omega
  have h3 : sw z w 7 = z + 4096 * (if a = 0 then 7 else a) := by unfold sw; rw [hT]; split <;> omega
  have h4 : sw z w (-1) = z - 4096 * (if b = 0 then 7 else b) := by unfold sw; rw [hT]; split <;> omega
  have h5 : sw z w 3 = z + 4096 * (if a < 4 then a else a - 7) := by unfold sw; rw [hT]; split <;> omega
  refine ⟨h1, h2, h3, h4, h5, fun n => ?_, by omega, by omega, by omega, by omega, by omega⟩
  by_cases hn : n > 0
  · rw [if_pos hn, if_pos hn]; exact h4
  · rw [if_neg hn, if_neg hn]; exact h3
theorem SwF.bz {z w a b : Int} (h : SwF z w a b) (ha : a = 0) : b = 0 := by have h1 := h.ab; have h2 := h.bhi; have h3 := h.blo; omega
theorem SwF.bnz {z w a b : Int} (h : SwF z w a b) (ha : a ≠ 0) : b ≠ 0 := by have h1 := h.ab; have h2 := h.ahi; omega
section
variable {w : World} {mean : ExcName → Option Value} {mg mb : Str → Option Value} {news : Led} {z v a b t far p : Int} {t1 : Tok}
  {dp un : Nat} {gd : Option (List Code)} {cn : Str} {cs : Scope} {ad : Addr} {ccd : Value} {cl : List (Str × Addr)} {outer : List Env} {A₀ : Around} {base h₀ : Heap} {L : Addr} {m : Str → Option Value} {s : Shared} {Q E : Value → Shared → Prop}
theorem useJ {f : Int} (hm : Mom f p) (hv : far = ((f.natAbs : Nat) : Int)) (ht : t = (far + 2451545) % 7) (hb : b = (t - v) % 7) (ha : a = (v - t) % 7) (hz : z = 10041526272 + 4096 * far + p)
    (B : Below A₀ base outer h₀) (F : Fr h₀ L s.heap m) (X : (hd.heap_39 w.params).In h₀) (N : News h₀ L s.heap news) (T : Top hd.view_39 LS mean mg mb h₀) (hk : cs.kind = .function)
    (hd : dp + 1 < recursionLimit) (hu : un + 8 * 1 < cLine) (ret : SwF z v a b → ∀ (u : Tok) (h' : Heap) (tk' : Nat), Fr h₀ L h' m → News h₀ L h' news → Q (.int t u) { s with heap := h', toks := tk' }) :
    wpAny (model Challenge.rw_ad5023_01.row.prog w) (ktrTop dp un gd cn cs L ad ccd cl outer) (call (.ref 49) [.float (G z) t1]) Q E s := by
  obtain ⟨hf1, hf2, hp1, hp2⟩ := hm
  refine useV (c_jwday w mean mg mb z t1 news) B F X N T hk (by omega) hd hu fun u h' tk' F' N' => ?_
  have e : (z + 2048) / 4096 % 7 = t := by
    have : (z + 2048) / 4096 = far + 2451545 := by omega
    rw [this, ← ht]
  have h := ret (swF_of ht ha hb hz hp1 hp2) u h' tk' F' N'
  show Q (.int ((z + 2048) / 4096 % 7) u) _
  rw [e]
  exact h
end
section
variable {prog : Program} {w : World} {A : Around} {E : Value → Shared → Prop} {s : Shared} {a : Int} {t : Tok} {Q : Value → Shared → Prop}
theorem g_abs (h : ∀ v : Int, v = a.natAbs → ∀ u tk, Q (.int v u) { s with toks := tk }) : wpAny (model prog w) A (call (.builtin "abs") [.int a t]) Q E s := by
  refine call_abs_int fun u tk => ?_
  have e : (if a < 0 then -a else a) = ((a.natAbs : Nat) : Int) := by split <;> omega
  rw [e]
  exact h _ rfl u tk
end
theorem mom_of {h₀ h : Heap} {L Dp Df : Addr} {x : Addr × Obj} {rest : Led} {r0 r1 r2 v0 v1 v2 : Int} {u0 u1 u2 w0 w1 w2 : Tok}
    (_N : News h₀ L h ((Dp, LCg.lst [.float (G r0) u0, .float (G r1) u1, .float (G r2) u2]) :: x :: (Df, LCg.lst [.int v0 w0, .int v1 w1, .int v2 w2]) :: rest)) (h1 : -100000000000 ≤ v2) (h2 : v2 ≤ 100000000000) (h3 : 0 ≤ r2) (h4 : r2 < 4096) : Mom v2 r2 := ⟨h1, h2, h3, h4⟩
theorem post_true (args : List WData) : Challenge.rw_ad5023_01.row.claim.post args (.bool true) args = true :=
  postW_of (r := Challenge.rw_ad5023_01.row.toRowW) (X := true) rfl (by
    have hp : Challenge.rw_ad5023_01.row.toRowW.post = .eq .res (.lit (.bool true)) := rfl
    rw [hp]
    exact w_eq_bool (k := true) (l := true) (w_res rfl) w_lit) rfl
theorem none_raised (args : List WData) (cls) : Challenge.rw_ad5023_01.row.claim.raises args cls = false := rfl
theorem law_end {cl mean args s₁ s'} {h₀ : Heap} {L : Addr} {m} (F : Fr h₀ L s'.heap m) (hh : h₀ = s₁.heap) (hg : s'.gens = #[]) (hos : s'.os = s₁.os) :
    GoodW Challenge.rw_ad5023_01.row.claim cl mean args s₁ (.ok (.ret (.bool true))) s' := by
  subst hh
  exact goodW_bool F hg (none_raised args) (post_true args) hos
theorem gjd_2000 : gjd 2000 1 1 = 2451544 := by decide
theorem c_from_gm (w mean mg mb) {f p : Int} (hm : Mom f p) (z : Int) (t : Tok) (news) : ClT 4 w mean mg mb 134 news (z = 10041526272 + 4096 * f + p) [.float (G z) t] (gY (f + 730119)) (gM (f + 730119)) (gD (f + 730119)) := by
  obtain ⟨h1, h2, h3, h4⟩ := hm
  have hc := c_from_g w mean mg mb z t news
  unfold ClT at hc ⊢
  intro dp un gd cn cs a ccd cl outer A₀ base h₀ L m s Q E kB kF kX kN kT kk kpre kd ku hret
  subst kpre
  have e : (10041526272 + 4096 * f + p - 2048) / 4096 - 1721425 = f + 730119 := by omega
  rw [e] at hc
  exact hc dp un gd cn cs a ccd cl outer A₀ base h₀ L m s Q E kB kF kX kN kT kk (by omega) kd ku hret
theorem c_from_jm (w mean mg mb) {f p : Int} (hm : Mom f p) (z : Int) (t : Tok) (news) : ClT 1 w mean mg mb 163 news (z = 10041526272 + 4096 * f + p) [.float (G z) t] (jY (f + 2451544)) (jM (f + 2451544)) (jD (f + 2451544)) := by
  obtain ⟨h1, h2, h3, h4⟩ := hm
  have hc := c_from_j w mean mg mb z t news
  unfold ClT at hc ⊢
  intro dp un gd cn cs a ccd cl outer A₀ base h₀ L m s Q E kB kF kX kN kT kk kpre kd ku hret
  subst kpre
  have e : (10041526272 + 4096 * f + p - 2048) / 4096 = f + 2451544 := by omega
  rw [e] at hc
  exact hc dp un gd cn cs a ccd cl outer A₀ base h₀ L m s Q E kB kF kX kN kT kk (by omega) kd ku hret
theorem ok_g {f p : Int} (hm : Mom f p) : -1000000000 ≤ gY (f + 730119) ∧ gY (f + 730119) ≤ 1000000000 ∧ OkG (gY (f + 730119)) (gM (f + 730119)) (gD (f + 730119)) := by
  obtain ⟨h1, h2, h3, h4⟩ := hm
  have hY := year_of (f + 730119) (by omega) (by omega)
  have hM := month_of (f + 730119) (by omega) (by omega)
  refine ⟨hY.ylo, hY.yhi, ?_⟩
  rw [hM.gd]
  exact hM.ok
theorem back_g (f : Int) : gjd (gY (f + 730119)) (gM (f + 730119)) (gD (f + 730119)) = f + 2451544 := by rw [gjd_back]; omega
theorem ok_j {f p : Int} (hm : Mom f p) : -1000000000 ≤ jY (f + 2451544) ∧ jY (f + 2451544) ≤ 1000000000 ∧ OkJ (jY (f + 2451544)) (jM (f + 2451544)) (jD (f + 2451544)) := by
  obtain ⟨h1, h2, h3, h4⟩ := hm
  have h := julian_of (f + 2451544) (by omega) (by omega)
  exact ⟨h.ylo, h.yhi, h.ok⟩
theorem back_j {f p : Int} (hm : Mom f p) : jjd (jY (f + 2451544)) (jM (f + 2451544)) (jD (f + 2451544)) = f + 2451544 := by
  obtain ⟨h1, h2, h3, h4⟩ := hm
  exact (julian_of (f + 2451544) (by omega) (by omega)).back

-- L1
open PySem PySem.W PyProof.Rows PySem.Calls PySem.Float64 PySem.Flt
local macro_rules | `(tactic| walk_at "call ref") => `(tactic| (k_here; (with_reducible show wpAny _ _ (call (Value.ref 240) _) _ _ _); k_dflt (refine' useWithin ?k1 ?k2 ?k3 ?k4 ?k5 ?kK ?kp ?kd ?ku ?_); walk_at "MINE use"; (case kp => first | omega | (left; decide) | (right; decide)); (intro _ hlo9 hhi9 _ _ _ _ _; (try simp only [show (10 : Int) ^ (Int.toNat 11) = 100000000000 from rfl, show (10 : Int) ^ (Int.toNat 6) = 1000000 from rfl] at hlo9 hhi9); (try dsimp only))))
local macro_rules | `(tactic| lcg_src) => `(tactic| ((try dsimp only); k_mem))
local macro_rules | `(tactic| walk_at "MINE eight") => `(tactic| ((rename IntsAre _ (List.take 8 (List.take 8 _ ++ _)) => hI8); (obtain ⟨n0, n1, n2, n3, n4, n5, n6, n7, t0, t1, t2, t3, t4, t5, t6, t7, he8⟩ := ints8 hI8 (take8 _)); (subst he8); (clear hI8)))
local macro_rules | `(tactic| walk_at "exec Assign cons ListComp") => `(tactic| (k_here; (with_reducible show wpAny _ _ (exec (Stmt.Assign _ (Expr.ListComp _ [⟨_, Expr.Tuple _ _ _, _, _⟩] _ _) _) _) _ _ _); (try walk_at "MINE eight"); k_dflt (refine Assign_ListComp_T (by k_asm) (by rfl) (by with_unfolding_all rfl) (by with_unfolding_all rfl) (by decide) (by rfl) (by decide) (by rfl) (by rfl) (by rfl) ?_)))
local macro_rules | `(tactic| walk_at "CompT") => `(tactic| (k_here; k_dflt (refine CompT.ledger (by rfl) (by k_asm) (by k_asm) (by k_mem) (by first | size_fits | exact Nat.le_of_ble_eq_true rfl) ?_; intro g'; lcg_lit)))
local macro_rules | `(tactic| walk_at "binaryOp Mod int int") => `(tactic| (refine' g_modii ?hb ?_; (case hb => omega); (intro _ _); (try dsimp only)))
local macro_rules | `(tactic| walk_at "binaryOp Div int int") => `(tactic| (refine' g_div4096 rfl ?ha ?_; (case ha => walk_at "MINE small"); (try dsimp only)))
local macro_rules | `(tactic| walk_at "subscriptTail Name Constant ref int") => `(tactic| (k_here; (with_reducible show wpAny _ _ (subscriptTail _ _ (Value.ref _) (Value.int _ _)) _ _ _); (with_unfolding_all refine' item_litK ?k1 ?k2 ?k3 ?k4 ?_ ?k6; (case k1 => is_list); (case k2 => decide); (case k3 => decide); (case k4 => rfl); (case k6 => with_unfolding_all rfl); k_whole)))
local macro_rules | `(tactic| walk_at "CompEnd") => `(tactic| (k_here; k_dflt (refine CompEnd_same (by k_asm) (by k_asm) (by (simp only [LCg.Off3, and_true]; assumption)) (by lcg_src) ?_)))
local macro_rules | `(tactic| walk_at "call ref") => `(tactic| (k_here; (with_reducible show wpAny _ _ (call (Value.ref 127) _) _ _ _); k_dflt (refine' useV (c_to_g _ _ _ _ _ _ _ _ _ _ _) ?k1 ?k2 ?k3 ?k4 ?k5 ?kK ?kp ?kd ?ku ?_); walk_at "MINE use"; (case kp => first | exact ok_g (by assumption) | ((try dsimp only [OkG]); omega)); (intro _ _ _ _ _; (try simp only [gjd_2000, back_g]); (try dsimp only))))
local macro_rules | `(tactic| walk_at "call builtin:abs") => `(tactic| ((with_reducible refine g_abs ?_); intro _ _ _ _))
local macro_rules | `(tactic| walk_at "call ref") => `(tactic| (k_here; (with_reducible show wpAny _ _ (call (Value.ref 49) _) _ _ _); (rename (_ : Int) = (_ - _) % 7 => hb9); (rename (_ : Int) = (_ + 2451545) % 7 => ht9); (rename (_ : Int) = ((Int.natAbs _ : Nat) : Int) => hv9); (rename Mom _ _ => hm); k_dflt (refine' useJ hm hv9 ht9 hb9 ?ha ?hz ?k1 ?k2 ?k3 ?k4 ?k5 ?kK ?kd ?ku ?_); (case ha => assumption); walk_at "MINE use"; (case hz => omega); (intro hsw _ _ _ _ _); (have hsa := SwF.alo hsw); (have hsb := SwF.ahi hsw); (have hsc := SwF.blo hsw); (have hsd := SwF.bhi hsw); (try dsimp only)))
local macro_rules | `(tactic| walk_at "exec If") => `(tactic| (k_here; (fail_if_success (rename Mom _ _ => hm9)); (rename News _ _ _ _ => N9); (have hm := mom_of N9 (by omega) (by omega) (by omega) (by omega)); (rename Fr _ _ _ _ => F9); (revert F9 N9); (repeat (rename Fr _ _ _ _ => hz9; clear hz9)); (repeat (rename News _ _ _ _ => hz9; clear hz9)); (repeat (rename ((_ ≠ _ ∧ _) ∧ _) => hz9; clear hz9)); (repeat (rename (_ ≠ _ ∧ _) => hz9; clear hz9)); (repeat (rename (((_ : Addr) < _) ∧ _) => hz9; clear hz9)); (repeat (rename (getElem? _ _ = _) => hz9; clear hz9)); (repeat (rename LCg.NsObj _ _ => hz9; clear hz9)); (repeat (rename IntsAre _ _ => hz9; clear hz9)); (intro F9 N9); (have hm2 := hm); (obtain ⟨hm3, hm4, hm5, hm6⟩ := hm2)))
local macro_rules | `(tactic| walk_at "subscriptTail BinOp") => `(tactic| (k_here; k_dflt (refine kba_turn (value' := PySem.Expr.Name (PySem.Str.ofString "_") ⟨0, 0, 0, 0⟩) (fun _ => rfl) ?_)))
local macro_rules | `(tactic| walk_at "subscriptTail Name Constant ref int") => `(tactic| (k_here; k_dflt (refine' item_3 ?k1 ?k2 ?k3 ?k4 ?k5 ?_ ?k6; (case k1 => k_asm); (case k2 => k_mem); (case k3 => decide); (case k4 => decide); (case k5 => rfl); (case k6 => with_unfolding_all rfl); k_whole)))
local macro_rules | `(tactic| walk_at "compareOp NotEq int int") => `(tactic| (refine' i_neq ?hab ?_; (case hab => omega); (try dsimp only)))
local macro_rules | `(tactic| walk_at "MINE small") => `(tactic| ((try dsimp only [Sm]); omega))
local macro_rules | `(tactic| walk_at "compareOp NotEq float float") => `(tactic| (refine' g_neq ?hx ?hy ?ha ?hab ?_; (case hx => walk_at "MINE lit"); (case hy => walk_at "MINE lit"); (case ha => walk_at "MINE small"); (case hab => first | rfl | omega | (split <;> omega)); (try dsimp only)))
local macro_rules | `(tactic| walk_at "compareOp Eq float float") => `(tactic| (refine' g_eqq ?hx ?hy ?ha ?hab ?_; (case hx => walk_at "MINE lit"); (case hy => walk_at "MINE lit"); (case ha => walk_at "MINE small"); (case hab => first | rfl | omega | ((repeat' split) <;> omega)); (try dsimp only)))
local macro_rules | `(tactic| walk_at "call ref") => `(tactic| (k_here; (with_reducible show wpAny _ _ (call (Value.ref 70) _) _ _ _); k_dflt (refine' useV (c_near _ _ _ _ _ _ _ _ _) ?k1 ?k2 ?k3 ?k4 ?k5 ?kK ?kp ?kd ?ku ?_); walk_at "MINE use"; (case kp => omega); (intro _ _ _ _ _; (rename SwF _ _ _ _ => hs9); (simp only [SwF.near hs9]); (try dsimp only))))
local macro_rules | `(tactic| walk_at "call ref") => `(tactic| (k_here; (with_reducible show wpAny _ _ (call (Value.ref 77) _) _ _ _); k_dflt (refine' useV (c_next _ _ _ _ _ _ _ _ _) ?k1 ?k2 ?k3 ?k4 ?k5 ?kK ?kp ?kd ?ku ?_); walk_at "MINE use"; (case kp => omega); (intro _ _ _ _ _; (rename SwF _ _ _ _ => hs9); (simp only [SwF.next1 hs9]); (try dsimp only))))
local macro_rules | `(tactic| walk_at "call ref") => `(tactic| (k_here; (with_reducible show wpAny _ _ (call (Value.ref 84) _) _ _ _); k_dflt (refine' useV (c_nextc _ _ _ _ _ _ _ _ _) ?k1 ?k2 ?k3 ?k4 ?k5 ?kK ?kp ?kd ?ku ?_); walk_at "MINE use"; (case kp => omega); (intro _ _ _ _ _; (rename SwF _ _ _ _ => hs9); (simp only [SwF.next0 hs9]); (try dsimp only))))
local macro_rules | `(tactic| walk_at "call ref") => `(tactic| (k_here; (with_reducible show wpAny _ _ (call (Value.ref 91) _) _ _ _); k_dflt (refine' useV (c_prev _ _ _ _ _ _ _ _ _) ?k1 ?k2 ?k3 ?k4 ?k5 ?kK ?kp ?kd ?ku ?_); walk_at "MINE use"; (case kp => omega); (intro _ _ _ _ _; (rename SwF _ _ _ _ => hs9); (simp only [SwF.prev1 hs9]); (try (first | (have hb9 := SwF.bz hs9 (by omega)) | (have hb9 := SwF.bnz hs9 (by omega)))); (try dsimp only))))
local macro_rules | `(tactic| walk_at "call ref") => `(tactic| (k_here; (with_reducible show wpAny _ _ (call (Value.ref 98) _) _ _ _); k_dflt (refine' useV (c_prevc _ _ _ _ _ _ _ _ _) ?k1 ?k2 ?k3 ?k4 ?k5 ?kK ?kp ?kd ?ku ?_); walk_at "MINE use"; (case kp => omega); (intro _ _ _ _ _; (rename SwF _ _ _ _ => hs9); (simp only [SwF.prev0 hs9]); (try dsimp only))))
local macro_rules | `(tactic| walk_at "call ref") => `(tactic| (k_here; (with_reducible show wpAny _ _ (call (Value.ref 105) _) _ _ _); k_dflt (refine' useV (c_nweeks _ _ _ _ _ _ _ _ _ _ _) ?k1 ?k2 ?k3 ?k4 ?k5 ?kK ?kp ?kd ?ku ?_); walk_at "MINE use"; (case kp => omega); (intro _ _ _ _ _; (rename SwF _ _ _ _ => hs9); (simp only [SwF.weeks hs9]); (try dsimp only))))
local macro_rules | `(tactic| walk_at "binaryOp Sub float float") => `(tactic| (refine' g_sub ?hx ?hy ?ha ?hb ?hab ?_; (case hx => walk_at "MINE lit"); (case hy => walk_at "MINE lit"); (case ha => walk_at "MINE small"); (case hb => walk_at "MINE small"); (case hab => walk_at "MINE small"); (try dsimp only)))
local macro_rules | `(tactic| walk_at "call ref") => `(tactic| (k_here; (with_reducible show wpAny _ _ (call (Value.ref 134) _) _ _ _); (rename Mom _ _ => hm); k_dflt (refine' useT (c_from_gm _ _ _ _ hm _ _ _) ?k1 ?k2 ?k3 ?k4 ?k5 ?kK ?kp ?kd ?ku ?_); walk_at "MINE use"; (case kp => omega); (intro _ _ _ _ _ _ _ _ _ hlt; (try simp only [AllLt, and_true] at hlt); (try dsimp only))))
local macro_rules | `(tactic| walk_at "call ref") => `(tactic| (k_here; (with_reducible show wpAny _ _ (call (Value.ref 163) _) _ _ _); (rename Mom _ _ => hm); k_dflt (refine' useT (c_from_jm _ _ _ _ hm _ _ _) ?k1 ?k2 ?k3 ?k4 ?k5 ?kK ?kp ?kd ?ku ?_); walk_at "MINE use"; (case kp => omega); (intro _ _ _ _ _ _ _ _ _ hlt; (try simp only [AllLt, and_true] at hlt); (try dsimp only))))
local macro_rules | `(tactic| walk_at "call ref") => `(tactic| (k_here; (with_reducible show wpAny _ _ (call (Value.ref 170) _) _ _ _); (rename Mom _ _ => hm); k_dflt (refine' useV (c_to_j _ _ _ _ _ _ _ _ _ _ _) ?k1 ?k2 ?k3 ?k4 ?k5 ?kK ?kp ?kd ?ku ?_); walk_at "MINE use"; (case kp => exact ok_j hm); (intro _ _ _ _ _; (simp only [back_j hm]); (try dsimp only))))
local macro_rules | `(tactic| wrow_close) => `(tactic| (k_here; (try dsimp only); k_dflt (refine' law_end ?F ?hh ?hg ?hos; (case F => k_asm); (case hh => rfl); (case hg => assumption); (case hos => rfl)); walk_say "LAW END"))
local macro_rules | `(tactic| kc_close) => `(tactic| wrow_close)
theorem walked : PySem.Challenge.rw_ad5023_01.Holds := hd (by
  k_go0
  all_goals try k_fold
  k_steps)

end Mine

theorem PySem.Challenge.cw_ad5023_01_holds : PySem.Challenge.rw_ad5023_01.Holds :=
  Mine.walked
