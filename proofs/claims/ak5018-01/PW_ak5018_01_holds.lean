import PyProof.Rows.All
import Wide.All
import OpenK.AllK
import Wide.FinOn
import Flt.RightMore
import Flt.RightSqrt
import Flt.Round
import Flt.Calls3
import PySem.Challenge.RW_ak5018_01
set_option Elab.async false
set_option maxRecDepth 100000
section
set_option maxRecDepth 100000
set_option exponentiation.threshold 3000
namespace Mine
open PySem PySem.Float64

theorem e1074 : (2 : Nat) ^ 1074 = 2 ^ 1073 * 2 := Nat.pow_succ 2 1073

theorem rep {N k : Nat} (h : N < 2 ^ 53) (h1 : 52 ≤ k) (hk : k ≤ 2000) : ∃ t, t < infMag ∧ V t = N * 2 ^ k := by
  by_cases h0 : N = 0
  · exact ⟨0, by decide, by rw [V_zero, h0, Nat.zero_mul]⟩
  · have hl1 := Nat.log2_self_le h0
    have hl2 : N < 2 ^ (N.log2 + 1) := Nat.lt_log2_self
    have hl3 : N.log2 < 53 := (Nat.log2_lt h0).2 h
    generalize N.log2 = L at *
    have hq1 : 2 ^ 52 ≤ N * 2 ^ (52 - L) := by
      calc 2 ^ 52 = 2 ^ L * 2 ^ (52 - L) := by rw [← Nat.pow_add]; congr 1; omega
        _ ≤ N * 2 ^ (52 - L) := Nat.mul_le_mul_right _ hl1
    have hq2 : N * 2 ^ (52 - L) < 2 ^ 53 := by
      calc N * 2 ^ (52 - L) < 2 ^ (L + 1) * 2 ^ (52 - L) := Nat.mul_lt_mul_of_pos_right hl2 (Nat.two_pow_pos _)
        _ = 2 ^ 53 := by rw [← Nat.pow_add]; congr 1; omega
    refine ⟨(k - (52 - L)) * 2 ^ 52 + N * 2 ^ (52 - L), ?_, ?_⟩
    · have : infMag = 2047 * 2 ^ 52 := rfl
      rw [this]
      omega
    · rw [V_at (by omega) (.inl hq1), Nat.mul_assoc, ← Nat.pow_add]
      congr 2
      omega

theorem V_inj {t t' : Nat} (h : V t = V t') : t = t' := by
  rcases Nat.lt_trichotomy t t' with h1 | h1 | h1
  · have := V_lt h1; omega
  · exact h1
  · have := V_lt h1; omega

theorem infMag_V {t : Nat} (h : t < infMag) : V t < 2 ^ 53 * 2 ^ 2045 := by
  have h1 : V t < V infMag := V_lt h
  have h2 : V infMag = 2 ^ 53 * 2 ^ 2045 := by
    have : infMag = 2045 * 2 ^ 52 + 2 ^ 53 := by decide
    rw [this, V_at (by omega) (.inl (by omega))]
  omega

theorem Right_exact {r : UInt64} {neg : Bool} {W D t0 : Nat} (hR : Right r neg W D) (hD : 0 < D) (ht : t0 < infMag) (hV : D * V t0 = W)
    (hs : V t0 < 2 ^ 2045) : r = pack neg t0 := by
  obtain ⟨t, hr, hle, hov, hn⟩ := hR
  have hlt : t < infMag := by
    rcases Nat.lt_or_ge t infMag with h | h
    · exact h
    · exfalso
      have h1 := hov.mp (by omega)
      rw [← hV] at h1
      have h2 : D * ((2 ^ 54 - 1) * 2 ^ 2045) ≤ D * (2 * V t0) := by
        calc D * ((2 ^ 54 - 1) * 2 ^ 2045) ≤ 2 * (D * V t0) := h1
          _ = D * (2 * V t0) := by ac_rfl
      have h3 := Nat.le_of_mul_le_mul_left h2 hD
      have h4 : 2 * V t0 < 2 * 2 ^ 2045 := by omega
      have h5 : 2 * 2 ^ 2045 ≤ (2 ^ 54 - 1) * 2 ^ 2045 := Nat.mul_le_mul_right _ (by decide)
      exact absurd h3 (Nat.not_le.mpr (Nat.lt_of_lt_of_le h4 h5))
  have h1 := (hn hlt t0).1
  rw [hV] at h1
  have h0 : dist W W = 0 := by unfold dist; omega
  rw [h0] at h1
  have h2 : W = D * V t := by unfold dist at h1; omega
  have h3 : V t0 = V t := Nat.eq_of_mul_eq_mul_left hD (by rw [hV, ← h2])
  rw [hr, V_inj h3]

/-- n halves, as a float -/
def H (n : Int) : UInt64 := ofFrac (decide (n < 0)) n.natAbs 2

theorem two_pow_split {a b c : Nat} (h : a + b = c) : (2 : Nat) ^ a * 2 ^ b = 2 ^ c := by rw [← Nat.pow_add, h]

theorem H_right (n : Int) : Right (H n) (decide (n < 0)) (n.natAbs * 2 ^ 1073) 1 := by
  refine ofFrac_right (by decide) ?_ (by decide)
  have : (2 : Nat) ^ 1074 = 2 ^ 1073 * 2 := e1074
  rw [this, Nat.mul_one, Nat.mul_assoc]

theorem small_V {N : Nat} (h : N < 2 ^ 53) : N * 2 ^ 1074 < 2 ^ 2045 := by
  calc N * 2 ^ 1074 < 2 ^ 53 * 2 ^ 1074 := Nat.mul_lt_mul_of_pos_right h (Nat.two_pow_pos _)
    _ ≤ 2 ^ 2045 := by rw [← Nat.pow_add]; exact Nat.pow_le_pow_right (by decide) (by decide)

theorem small_V' {N k : Nat} (h : N < 2 ^ 53) (hk : k ≤ 1074) : N * 2 ^ k < 2 ^ 2045 :=
  Nat.lt_of_le_of_lt (Nat.mul_le_mul_left _ (Nat.pow_le_pow_right (by decide) hk)) (small_V h)

/-- a float of an exact value is that very float -/
theorem Right_H {r : UInt64} {n : Int} {neg : Bool} {W D : Nat} (hR : Right r neg W D) (hneg : neg = decide (n < 0)) (hD : 0 < D) (hW : W = D * (n.natAbs * 2 ^ 1073)) (hn : n.natAbs < 2 ^ 53) : r = H n := by
  obtain ⟨t, ht, hV⟩ := rep (k := 1073) hn (by decide) (by decide)
  have hs : V t < 2 ^ 2045 := by rw [hV]; exact small_V' hn (by decide)
  have h1 := Right_exact hR hD ht (by rw [hV, hW]) hs
  have h2 := Right_exact (H_right n) (by decide) ht (by rw [hV, Nat.one_mul]) hs
  rw [h1, h2, hneg]

theorem H_dec {n : Int} (hn : n.natAbs < 2 ^ 53) : ∃ m e, decode (H n) = .fin (decide (n < 0)) m e ∧ m * 2 ^ (e + 1074).toNat = n.natAbs * 2 ^ 1073 := by
  obtain ⟨t, ht, hV⟩ := rep (k := 1073) hn (by decide) (by decide)
  have h2 := Right_exact (H_right n) (by decide) ht (by rw [hV, Nat.one_mul]) (by rw [hV]; exact small_V' hn (by decide))
  obtain ⟨m, e, hd, hm⟩ := decode_pack (decide (n < 0)) ht
  exact ⟨m, e, by rw [h2, hd], by rw [hm, hV]⟩

theorem H_val {n : Int} (hn : n.natAbs < 2 ^ 53) : val (H n) = n * (2 ^ 1073 : Nat) := by
  obtain ⟨m, e, hd, hm⟩ := H_dec hn
  rw [val_eq hd, hm, sgn_mul]
  congr 1
  unfold sgn
  by_cases h : n < 0
  · rw [decide_eq_true h, if_pos rfl]; omega
  · rw [decide_eq_false h, if_neg (by decide)]; omega

theorem P1073 : (0 : Int) < ((2 ^ 1073 : Nat) : Int) := Int.ofNat_lt.mpr (Nat.two_pow_pos _)

theorem H_zero : zero false = H 0 := by decide +kernel

theorem H_add {a b : Int} (ha : a.natAbs < 2 ^ 51) (hb : b.natAbs < 2 ^ 51) : add (H a) (H b) = H (a + b) := by
  obtain ⟨m, e, hd, hm⟩ := H_dec (n := a) (by omega)
  obtain ⟨k, f, hd', hm'⟩ := H_dec (n := b) (by omega)
  have h := add_right hd hd'
  rw [H_val (by omega), H_val (by omega), ← Int.add_mul] at h
  by_cases h0 : a + b = 0
  · rw [h.1 (by rw [h0, Int.zero_mul]), h0, ← H_zero]
    congr 1
    by_cases ha0 : a < 0
    · have : ¬ b < 0 := by omega
      simp [this]
    · simp [ha0]
  · have hne : (a + b) * ((2 ^ 1073 : Nat) : Int) ≠ 0 := by
      intro h1
      rcases Int.mul_eq_zero.mp h1 with h2 | h2
      · exact h0 h2
      · have := P1073; omega
    refine Right_H (h.2 hne) ?_ (by decide) ?_ (by omega)
    · apply decide_eq_decide.mpr
      constructor
      · intro h1
        by_cases h2 : a + b < 0
        · exact h2
        · have := Int.mul_nonneg (show 0 ≤ a + b by omega) (Int.le_of_lt P1073)
          omega
      · intro h1
        exact Int.mul_neg_of_neg_of_pos h1 P1073
    · rw [Int.natAbs_mul, Int.natAbs_natCast, Nat.one_mul]

theorem H_sub {a b : Int} (ha : a.natAbs < 2 ^ 51) (hb : b.natAbs < 2 ^ 51) : sub (H a) (H b) = H (a - b) := by
  obtain ⟨m, e, hd, hm⟩ := H_dec (n := a) (by omega)
  obtain ⟨k, f, hd', hm'⟩ := H_dec (n := b) (by omega)
  have h := add_right hd (neg_decode hd')
  rw [neg_val hd', H_val (by omega), H_val (by omega), ← Int.sub_eq_add_neg, ← Int.sub_mul] at h
  rw [show sub (H a) (H b) = add (H a) (neg (H b)) from by unfold sub; rfl]
  by_cases h0 : a - b = 0
  · rw [h.1 (by rw [h0, Int.zero_mul]), h0, ← H_zero]
    congr 1
    have : a = b := by omega
    subst this
    cases decide (a < 0) <;> rfl
  · have hne : (a - b) * ((2 ^ 1073 : Nat) : Int) ≠ 0 := by
      intro h1
      rcases Int.mul_eq_zero.mp h1 with h2 | h2
      · exact h0 h2
      · have := P1073; omega
    refine Right_H (h.2 hne) ?_ (by decide) ?_ (by omega)
    · apply decide_eq_decide.mpr
      constructor
      · intro h1
        by_cases h2 : a - b < 0
        · exact h2
        · have := Int.mul_nonneg (show 0 ≤ a - b by omega) (Int.le_of_lt P1073)
          omega
      · intro h1
        exact Int.mul_neg_of_neg_of_pos h1 P1073
    · rw [Int.natAbs_mul, Int.natAbs_natCast, Nat.one_mul]

/-- a whole number times a half number, both not below nought -/
theorem H_mul {a b : Int} (ha : 0 ≤ a) (hb : 0 ≤ b) (ha' : a < 2 ^ 51) (hb' : b < 2 ^ 51) (hab : (a * b).natAbs < 2 ^ 53) : mul (H (2 * a)) (H b) = H (a * b) := by
  obtain ⟨m, e, hd, hm⟩ := H_dec (n := 2 * a) (by omega)
  obtain ⟨k, f, hd', hm'⟩ := H_dec (n := b) (by omega)
  have h := mul_right hd hd'
  rw [val_natAbs hd, val_natAbs hd', hm, hm'] at h
  refine Right_H h ?_ (Nat.two_pow_pos _) ?_ hab
  · have h1 : ¬ 2 * a < 0 := by omega
    have h2 : ¬ b < 0 := by omega
    have h3 : ¬ a * b < 0 := by have := Int.mul_nonneg ha hb; omega
    simp [h1, h2, h3]
  · rw [Int.natAbs_mul, Int.natAbs_mul]
    have e : (2 : Nat) ^ 1074 = 2 ^ 1073 * 2 := e1074
    rw [e]
    have : (2 : Int).natAbs = 2 := rfl
    rw [this]
    generalize (2 : Nat) ^ 1073 = K
    ac_rfl

theorem H_mul' {a b : Int} (ha : 0 ≤ a) (hb : 0 ≤ b) (ha' : a < 2 ^ 51) (hb' : b < 2 ^ 51) (hab : (a * b).natAbs < 2 ^ 53) : mul (H b) (H (2 * a)) = H (a * b) := by
  obtain ⟨m, e, hd, hm⟩ := H_dec (n := 2 * a) (by omega)
  obtain ⟨k, f, hd', hm'⟩ := H_dec (n := b) (by omega)
  have h := mul_right hd' hd
  rw [val_natAbs hd, val_natAbs hd', hm, hm'] at h
  refine Right_H h ?_ (Nat.two_pow_pos _) ?_ hab
  · have h1 : ¬ 2 * a < 0 := by omega
    have h2 : ¬ b < 0 := by omega
    have h3 : ¬ a * b < 0 := by have := Int.mul_nonneg ha hb; omega
    simp [h1, h2, h3]
  · rw [Int.natAbs_mul, Int.natAbs_mul]
    have e : (2 : Nat) ^ 1074 = 2 ^ 1073 * 2 := e1074
    rw [e]
    have : (2 : Int).natAbs = 2 := rfl
    rw [this]
    generalize (2 : Nat) ^ 1073 = K
    ac_rfl

theorem H_ofInt {n : Int} (hn : n.natAbs < 2 ^ 52) : ofInt n = H (2 * n) := by
  refine Right_H (n := 2 * n) (ofInt_right n) ?_ (by decide) ?_ (by omega)
  · apply decide_eq_decide.mpr; omega
  · rw [Int.natAbs_mul, Nat.one_mul]
    have e : (2 : Nat) ^ 1074 = 2 ^ 1073 * 2 := e1074
    rw [e]
    have : (2 : Int).natAbs = 2 := rfl
    rw [this]
    ac_rfl

theorem H_cmp {a b : Int} (ha : a.natAbs < 2 ^ 53) (hb : b.natAbs < 2 ^ 53) : cmp (H a) (H b) = some (compare a b) := by
  obtain ⟨m, e, hd, hm⟩ := H_dec (n := a) ha
  obtain ⟨k, f, hd', hm'⟩ := H_dec (n := b) hb
  rw [cmp_right hd hd', H_val ha, H_val hb]
  have hpos := P1073
  generalize ((2 ^ 1073 : Nat) : Int) = K at *
  congr 1
  rcases Int.lt_trichotomy a b with h | h | h
  · rw [Int.compare_eq_lt.mpr h, Int.compare_eq_lt.mpr (Int.mul_lt_mul_of_pos_right h hpos)]
  · subst h; simp
  · rw [Int.compare_eq_gt.mpr h, Int.compare_eq_gt.mpr (Int.mul_lt_mul_of_pos_right h hpos)]

theorem H_cmpInt {a i : Int} (ha : a.natAbs < 2 ^ 53) : cmpInt (H a) i = some (compare a (2 * i)) := by
  obtain ⟨m, e, hd, hm⟩ := H_dec (n := a) ha
  rw [cmpInt_right hd, H_val ha]
  have e1 : i * 2 ^ 1074 = (2 * i) * ((2 ^ 1073 : Nat) : Int) := by
    have e : (2 : Int) ^ 1074 = ((2 ^ 1073 : Nat) : Int) * 2 := by rw [Int.pow_succ]; norm_cast
    rw [e]
    generalize ((2 ^ 1073 : Nat) : Int) = K
    rw [← Int.mul_assoc, Int.mul_comm (i * K) 2, Int.mul_assoc]
  rw [e1]
  have hpos := P1073
  generalize ((2 ^ 1073 : Nat) : Int) = K at *
  congr 1
  rcases Int.lt_trichotomy a (2 * i) with h | h | h
  · rw [Int.compare_eq_lt.mpr h, Int.compare_eq_lt.mpr (Int.mul_lt_mul_of_pos_right h hpos)]
  · rw [h]; simp
  · rw [Int.compare_eq_gt.mpr h, Int.compare_eq_gt.mpr (Int.mul_lt_mul_of_pos_right h hpos)]

theorem cmp_lt (a b : Int) : (some (compare a b) == some Ordering.lt) = decide (a < b) := by
  rcases Int.lt_trichotomy a b with h | h | h
  · rw [Int.compare_eq_lt.mpr h, decide_eq_true h]; rfl
  · subst h; simp
  · rw [Int.compare_eq_gt.mpr h, decide_eq_false (by omega)]; rfl
theorem cmp_gt (a b : Int) : (some (compare a b) == some Ordering.gt) = decide (b < a) := by
  rcases Int.lt_trichotomy a b with h | h | h
  · rw [Int.compare_eq_lt.mpr h, decide_eq_false (by omega)]; rfl
  · subst h; simp
  · rw [Int.compare_eq_gt.mpr h, decide_eq_true h]; rfl
theorem cmp_eq (a b : Int) : (some (compare a b) == some Ordering.eq) = decide (a = b) := by
  rcases Int.lt_trichotomy a b with h | h | h
  · rw [Int.compare_eq_lt.mpr h, decide_eq_false (by omega)]; rfl
  · subst h; simp
  · rw [Int.compare_eq_gt.mpr h, decide_eq_false (by omega)]; rfl

end Mine

end
section
set_option maxRecDepth 100000
set_option exponentiation.threshold 3000
namespace Mine
open PySem PySem.Float64

theorem e1052 : (2 : Nat) ^ 1074 = 2 ^ 22 * 2 ^ 1052 := by rw [← Nat.pow_add]

theorem aux1 {n q d c : Nat} (h : n + 1 ≤ (q + 1) * d) (hd : d ≤ c) : n * c ≤ ((q + 1) * c - 1) * d := by
  rw [Nat.sub_mul, Nat.one_mul]
  have h2 : (n + 1) * c ≤ (q + 1) * d * c := Nat.mul_le_mul_right _ h
  have h3 : (q + 1) * c * d = (q + 1) * d * c := by ac_rfl
  rw [h3]
  rw [Nat.add_mul, Nat.one_mul] at h2
  omega
theorem aux2 {n A D M d X : Nat} (h : n * A ≤ X * d) : n * (A * M) * D ≤ D * (X * M) * d := by
  calc n * (A * M) * D = (n * A) * M * D := by rw [← Nat.mul_assoc]
    _ ≤ (X * d) * M * D := Nat.mul_le_mul_right _ (Nat.mul_le_mul_right _ h)
    _ = D * (X * M) * d := by ac_rfl

theorem floor_dec {t : Nat} {m : Nat} {e : Int} (he : -1074 ≤ e) (hm : m * 2 ^ (e + 1074).toNat = V t) : floorOf false m e = ((V t / 2 ^ 1074 : Nat) : Int) := by
  unfold floorOf
  have hs : sgn false m = (m : Int) := rfl
  rw [hs]
  split
  · rename_i h
    have e1 : (e + 1074).toNat = e.toNat + 1074 := by omega
    rw [e1, Nat.pow_add, ← Nat.mul_assoc] at hm
    rw [← hm, Nat.mul_div_cancel _ (Nat.two_pow_pos _), Int.natCast_mul, Int.natCast_pow]
    rfl
  · rename_i h
    have e1 : 1074 = (e + 1074).toNat + (-e).toNat := by omega
    have e2 : (2 : Nat) ^ 1074 = 2 ^ (e + 1074).toNat * 2 ^ (-e).toNat := by rw [← Nat.pow_add, ← e1]
    rw [← hm, e2, Nat.mul_comm m, Nat.mul_div_mul_left _ _ (Nat.two_pow_pos _)]
    rw [show (2 : Int) ^ (-e).toNat = ((2 ^ (-e).toNat : Nat) : Int) from by rw [Int.natCast_pow]; rfl]
    rw [Int.fdiv_eq_ediv_of_nonneg _ (Int.natCast_nonneg _), Int.natCast_ediv]

theorem trunc_pos (m : Nat) (e : Int) : truncOf false m e = floorOf false m e := rfl

/-- the nearest double of n / d lies in the same whole as n / d -/
theorem quot_floor {r : UInt64} {n d W D : Nat} (hR : Right r false W D) (hd : 0 < d) (hD : 0 < D) (hW : n * 2 ^ 1074 * D = W * d) (hd2 : d ≤ 2 ^ 22) (hq : n / d < 2 ^ 31) :
    ∃ m e, decode r = .fin false m e ∧ floorOf false m e = ((n / d : Nat) : Int) := by
  obtain ⟨t, hr, hle, hov, hn⟩ := hR
  have hdm := Nat.div_add_mod n d
  have hml := Nat.mod_lt n hd
  have hmd : (n / d + 1) * d = d * (n / d) + d := by rw [Nat.add_mul, Nat.one_mul, Nat.mul_comm]
  generalize hQ : n / d = q at *
  have hlo : d * q ≤ n := by omega
  have hup : n + 1 ≤ (q + 1) * d := by omega
  -- the bound above
  have hB : W ≤ D * (((q + 1) * 2 ^ 22 - 1) * 2 ^ 1052) := by
    refine Nat.le_of_mul_le_mul_right ?_ hd
    rw [← hW]
    rw [e1052]
    exact aux2 (aux1 hup hd2)
  have hA : D * (q * 2 ^ 1074) ≤ W := by
    refine Nat.le_of_mul_le_mul_right ?_ hd
    rw [← hW]
    calc D * (q * 2 ^ 1074) * d = (d * q) * 2 ^ 1074 * D := by ac_rfl
      _ ≤ n * 2 ^ 1074 * D := Nat.mul_le_mul_right _ (Nat.mul_le_mul_right _ hlo)
  obtain ⟨t1, ht1, hV1⟩ := rep (N := q) (k := 1074) (by omega) (by decide) (by decide)
  obtain ⟨t2, ht2, hV2⟩ := rep (N := (q + 1) * 2 ^ 22 - 1) (k := 1052) (by omega) (by decide) (by decide)
  have hs2 : V t2 < 2 ^ 2045 := by rw [hV2]; exact small_V' (by omega) (by decide)
  rw [← hV2] at hB
  rw [← hV1] at hA
  have hlt : t < infMag := by
    rcases Nat.lt_or_ge t infMag with h | h
    · exact h
    · exfalso
      have h1 := hov.mp (by omega)
      have h2 : D * ((2 ^ 54 - 1) * 2 ^ 2045) ≤ D * (2 * V t2) := by
        calc D * ((2 ^ 54 - 1) * 2 ^ 2045) ≤ 2 * W := h1
          _ ≤ 2 * (D * V t2) := Nat.mul_le_mul_left _ hB
          _ = D * (2 * V t2) := by ac_rfl
      have h3 := Nat.le_of_mul_le_mul_left h2 hD
      have h4 : 2 * V t2 < 2 * 2 ^ 2045 := by omega
      have h5 : 2 * 2 ^ 2045 ≤ (2 ^ 54 - 1) * 2 ^ 2045 := Nat.mul_le_mul_right _ (by decide)
      exact absurd h3 (Nat.not_le.mpr (Nat.lt_of_lt_of_le h4 h5))
  have hn1 := (hn hlt t1).1
  have hn2 := (hn hlt t2).1
  have hVlo : V t1 ≤ V t := by
    rcases Nat.lt_or_ge (V t) (V t1) with h | h
    · exfalso
      have h1 : D * V t < D * V t1 := Nat.mul_lt_mul_of_pos_left h hD
      unfold dist at hn1
      omega
    · exact h
  have hVup : V t ≤ V t2 := by
    rcases Nat.lt_or_ge (V t2) (V t) with h | h
    · exfalso
      have h1 : D * V t2 < D * V t := Nat.mul_lt_mul_of_pos_left h hD
      unfold dist at hn2
      omega
    · exact h
  obtain ⟨m, e, hdec, hm⟩ := decode_pack false hlt
  rw [← hr] at hdec
  refine ⟨m, e, hdec, ?_⟩
  rw [floor_dec (decode_ge hdec) hm]
  congr 1
  rw [hV1] at hVlo
  rw [hV2] at hVup
  have h6 : ((q + 1) * 2 ^ 22 - 1) * 2 ^ 1052 < (q + 1) * 2 ^ 1074 := by
    rw [e1052, ← Nat.mul_assoc]
    exact Nat.mul_lt_mul_of_pos_right (by omega) (Nat.two_pow_pos _)
  have h7 : V t < (q + 1) * 2 ^ 1074 := Nat.lt_of_le_of_lt hVup h6
  have h8 : q ≤ V t / 2 ^ 1074 := (Nat.le_div_iff_mul_le (Nat.two_pow_pos _)).mpr hVlo
  have h9 : V t / 2 ^ 1074 < q + 1 := (Nat.div_lt_iff_lt_mul (Nat.two_pow_pos _)).mpr h7
  omega

theorem q_small {a b : Int} (ha : 0 ≤ a) (hb : 0 < b) (h : a < b * 2147483648) : a.natAbs / b.natAbs < 2 ^ 31 := by
  refine (Nat.div_lt_iff_lt_mul (by omega)).mpr ?_
  have h1 : ((a.natAbs : Nat) : Int) < ((2 ^ 31 * b.natAbs : Nat) : Int) := by
    rw [Int.natCast_mul]
    have : ((2 ^ 31 : Nat) : Int) = 2147483648 := rfl
    rw [this, Int.mul_comm]
    have h2 : ((b.natAbs : Nat) : Int) = b := by omega
    rw [h2]
    omega
  exact Int.ofNat_lt.mp h1
/-- the quotient of two such floats -/
theorem H_div {a b : Int} (ha : 0 ≤ a) (hb : 0 < b) (ha' : a < b * 2147483648) (hb' : b < 2 ^ 22) :
    ∃ m e, decode (div (H a) (H b)) = .fin false m e ∧ floorOf false m e = a / b := by
  obtain ⟨m, e, hd, hm⟩ := H_dec (n := a) (by omega)
  obtain ⟨k, f, hd', hm'⟩ := H_dec (n := b) (by omega)
  have hk : k ≠ 0 := by
    intro h
    rw [h, Nat.zero_mul] at hm'
    have h1 : 0 < b.natAbs * 2 ^ 1073 := Nat.mul_pos (by omega) (Nat.two_pow_pos _)
    omega
  have h := div_right hd hd' hk
  rw [val_natAbs hd, val_natAbs hd', hm, hm', decide_eq_false (show ¬ a < 0 by omega), decide_eq_false (show ¬ b < 0 by omega)] at h
  obtain ⟨m', e', h1, h2⟩ := quot_floor (n := a.natAbs) (d := b.natAbs) h (by omega) (Nat.mul_pos (by omega) (Nat.two_pow_pos _)) (by
    generalize (2 : Nat) ^ 1073 = K
    generalize (2 : Nat) ^ 1074 = L
    ac_rfl) (by omega) (q_small ha hb ha')
  refine ⟨m', e', h1, ?_⟩
  rw [h2, Int.natCast_ediv]
  congr 1 <;> omega

/-- the quotient of two ints -/
theorem frac_floor {a b : Int} (ha : 0 ≤ a) (hb : 0 < b) (ha' : a < b * 2147483648) (hb' : b < 2 ^ 22) {s : Bool} (hs : s = false) :
    ∃ m e, decode (ofFrac s a.natAbs b.natAbs) = .fin false m e ∧ floorOf false m e = a / b := by
  subst hs
  have h : Right (ofFrac false a.natAbs b.natAbs) false (a.natAbs * 2 ^ 1074) b.natAbs := ofFrac_right (by omega) (by rfl) (by omega)
  obtain ⟨m', e', h1, h2⟩ := quot_floor (n := a.natAbs) (d := b.natAbs) h (by omega) (by omega) (by rfl) (by omega) (q_small ha hb ha')
  refine ⟨m', e', h1, ?_⟩
  rw [h2, Int.natCast_ediv]
  congr 1 <;> omega

theorem H_floor {a : Int} (ha : 0 ≤ a) (ha' : a < 2 ^ 52) : ∃ m e, decode (H a) = .fin false m e ∧ floorOf false m e = a / 2 := by
  obtain ⟨t, ht, hV⟩ := rep (k := 1073) (N := a.natAbs) (by omega) (by decide) (by decide)
  have h2 := Right_exact (H_right a) (by decide) ht (by rw [hV, Nat.one_mul]) (by rw [hV]; exact small_V' (by omega) (by decide))
  rw [decide_eq_false (show ¬ a < 0 by omega)] at h2
  obtain ⟨m, e, hd, hm⟩ := decode_pack false ht
  rw [← h2] at hd
  refine ⟨m, e, hd, ?_⟩
  rw [floor_dec (decode_ge hd) hm, hV]
  have e : (2 : Nat) ^ 1074 = 2 * 2 ^ 1073 := by rw [e1074, Nat.mul_comm]
  rw [e, Nat.mul_div_mul_right _ _ (Nat.two_pow_pos _), Int.natCast_ediv]
  congr 1
  omega

theorem toInt_floor_H {a : Int} (ha : 0 ≤ a) (ha' : a < 2 ^ 52) : Flt.toInt floorOf (H a) = a / 2 := by
  obtain ⟨m, e, h1, h2⟩ := H_floor ha ha'
  rw [Flt.toInt_fin h1, h2]
theorem toInt_trunc_H {a : Int} (ha : 0 ≤ a) (ha' : a < 2 ^ 52) : Flt.toInt truncOf (H a) = a / 2 := by
  obtain ⟨m, e, h1, h2⟩ := H_floor ha ha'
  rw [Flt.toInt_fin h1, ← h2, trunc_pos]
theorem toInt_floor_div {a b : Int} (ha : 0 ≤ a) (hb : 0 < b) (ha' : a < b * 2147483648) (hb' : b < 2 ^ 22) : Flt.toInt floorOf (div (H a) (H b)) = a / b := by
  obtain ⟨m, e, h1, h2⟩ := H_div ha hb ha' hb'
  rw [Flt.toInt_fin h1, h2]
theorem toInt_trunc_div {a b : Int} (ha : 0 ≤ a) (hb : 0 < b) (ha' : a < b * 2147483648) (hb' : b < 2 ^ 22) : Flt.toInt truncOf (div (H a) (H b)) = a / b := by
  obtain ⟨m, e, h1, h2⟩ := H_div ha hb ha' hb'
  rw [Flt.toInt_fin h1, ← h2, trunc_pos]
theorem toInt_floor_frac {a b : Int} (ha : 0 ≤ a) (hb : 0 < b) (ha' : a < b * 2147483648) (hb' : b < 2 ^ 22) {s : Bool} (hs : s = false) : Flt.toInt floorOf (ofFrac s a.natAbs b.natAbs) = a / b := by
  obtain ⟨m, e, h1, h2⟩ := frac_floor ha hb ha' hb' hs
  rw [Flt.toInt_fin h1, h2]

theorem finite_of_dec {x : UInt64} {s : Bool} {m : Nat} {e : Int} (h : decode x = .fin s m e) : isNaN x = false ∧ isInf x = false := by
  unfold isNaN isInf
  rw [h]
  exact ⟨rfl, rfl⟩
theorem H_fin {a : Int} (ha : a.natAbs < 2 ^ 53) : isNaN (H a) = false ∧ isInf (H a) = false := by
  obtain ⟨m, e, hd, _⟩ := H_dec ha
  exact finite_of_dec hd
theorem div_finH {a b : Int} (ha : 0 ≤ a) (hb : 0 < b) (ha' : a < b * 2147483648) (hb' : b < 2 ^ 22) : isNaN (div (H a) (H b)) = false ∧ isInf (div (H a) (H b)) = false := by
  obtain ⟨m, e, h1, _⟩ := H_div ha hb ha' hb'
  exact finite_of_dec h1
theorem H_isZero {a : Int} (ha : a.natAbs < 2 ^ 53) : isZero (H a) = decide (a = 0) := by
  obtain ⟨m, e, hd, hm⟩ := H_dec ha
  have hp : 0 < (2 : Nat) ^ (e + 1074).toNat := Nat.two_pow_pos _
  have hp2 : 0 < (2 : Nat) ^ 1073 := Nat.two_pow_pos _
  unfold isZero
  rw [hd]
  by_cases h0 : a = 0
  · subst h0
    have : m = 0 := by
      rcases Nat.mul_eq_zero.mp (by rw [hm]; exact Nat.zero_mul _ : m * 2 ^ (e + 1074).toNat = 0) with h | h
      · exact h
      · omega
    subst this
    rfl
  · rw [decide_eq_false h0]
    have : m ≠ 0 := by
      intro h
      rw [h, Nat.zero_mul] at hm
      have := Nat.mul_pos (show 0 < a.natAbs by omega) hp2
      omega
    split
    · rename_i h; cases h; exact absurd rfl this
    · rfl

/-- the rest of two such floats, the left not below nought -/
theorem H_fmod {a b : Int} (ha : 0 ≤ a) (hb : 0 < b) (ha' : a < 2 ^ 52) (hb' : b < 2 ^ 52) : fmod (H a) (H b) = H (a % b) := by
  obtain ⟨m, e, hd, hm⟩ := H_dec (n := a) (by omega)
  obtain ⟨k, f, hd', hm'⟩ := H_dec (n := b) (by omega)
  rw [decide_eq_false (show ¬ a < 0 by omega)] at hd
  rw [decide_eq_false (show ¬ b < 0 by omega)] at hd'
  have he := decode_ge hd
  have hf := decode_ge hd'
  have hk : k ≠ 0 := by
    intro h
    rw [h, Nat.zero_mul] at hm'
    have h1 : 0 < b.natAbs * 2 ^ 1073 := Nat.mul_pos (by omega) (Nat.two_pow_pos _)
    omega
  have hmod : fmod (H a) (H b) = ofBin false (m * 2 ^ (e - min e f).toNat % (k * 2 ^ (f - min e f).toNat)) (min e f) := by
    unfold fmod
    rw [hd, hd']
    simp only
    rw [if_neg (by simpa using hk)]
    rfl
  rw [hmod]
  have hR := ofBin_right (neg := false) (M := m * 2 ^ (e - min e f).toNat % (k * 2 ^ (f - min e f).toNat)) (g := min e f) (by omega)
  have hnn := Int.emod_nonneg a (show b ≠ 0 by omega)
  have hll := Int.emod_lt_of_pos a hb
  refine Right_H hR (decide_eq_false (by omega)).symm (by decide) ?_ (by omega)
  have e1 : (e - min e f).toNat + (min e f + 1074).toNat = (e + 1074).toNat := by omega
  have e2 : (f - min e f).toNat + (min e f + 1074).toNat = (f + 1074).toNat := by omega
  rw [Nat.one_mul, ← Nat.mul_mod_mul_right, Nat.mul_assoc, Nat.mul_assoc, ← Nat.pow_add, ← Nat.pow_add, e1, e2, hm, hm', Nat.mul_mod_mul_right]
  congr 1
  have : (a % b).natAbs = a.natAbs % b.natAbs := by
    have h1 : ((a.natAbs % b.natAbs : Nat) : Int) = a % b := by
      rw [Int.natCast_emod]
      congr 1 <;> omega
    omega
  exact this.symm

theorem copysign_H {b : Int} (hb : 0 < b) (hb' : b < 2 ^ 52) : copysign (zero false) (H b) = H 0 := by
  obtain ⟨t, ht, hV⟩ := rep (k := 1073) (N := b.natAbs) (by omega) (by decide) (by decide)
  have h2 := Right_exact (H_right b) (by decide) ht (by rw [hV, Nat.one_mul]) (by rw [hV]; exact small_V' (by omega) (by decide))
  rw [decide_eq_false (show ¬ b < 0 by omega)] at h2
  have hi : infMag = 2047 * 2 ^ 52 := rfl
  have hn := pack_toNat false (t := t) (by omega)
  have hs : signBit (H b) = false := by
    unfold signBit
    rw [h2, hn]
    simp
    omega
  unfold copysign
  rw [hs]
  decide +kernel

theorem H_mod {a b : Int} (ha : 0 ≤ a) (hb : 0 < b) (ha' : a < 2 ^ 52) (hb' : b < 2 ^ 52) : (divmod (H a) (H b)).2 = H (a % b) := by
  have hnn := Int.emod_nonneg a (show b ≠ 0 by omega)
  have hll := Int.emod_lt_of_pos a hb
  unfold divmod
  simp only [H_fmod ha hb ha' hb']
  rw [H_isZero (by omega)]
  by_cases h0 : a % b = 0
  · rw [decide_eq_true h0, if_pos rfl]
    simp only
    rw [copysign_H hb hb', h0]
  · rw [decide_eq_false h0, if_neg (by decide)]
    unfold lt
    rw [H_zero, H_cmp (by omega) (by decide), H_cmp (by omega) (by decide), cmp_lt, cmp_lt, decide_eq_false (show ¬ b < 0 by omega), decide_eq_false (show ¬ a % b < 0 by omega)]
    rfl

end Mine

end
open PySem PySem.W PyProof.Rows
set_option maxHeartbeats 8000000
open_top Mine.hd1 for PySem.Challenge.rw_ak5018_01
section
open PySem PySem.W PySem.Spec PySem.Calls PyProof.Rows
namespace Mine
abbrev Hp := Heap
abbrev Led := List (Addr × Obj)
/-- the claim of one def of the text: from any frame of a def, the call comes back as RP says -/
abbrev Claim (w : World) (mean : ExcName → Option Value) (mg mb : Str → Option Value) (n : Nat) (f : Addr) (vs : List Value)
    (RP : Heap → Addr → (Str → Option Value) → Led → Shared → (Value → Shared → Prop) → Prop) : Prop :=
  ∀ (dp un : Nat) (gd : Option (List Code)) (cn : Str) (cs : Scope) (a : Addr) (ccd : Value) (cl : List (Str × Addr)) (outer : List Env) (A₀ : Around) (base h₀ : Heap) (L : Addr) (m : Str → Option Value) (news : Led) (s : Shared) (Q E : Value → Shared → Prop),
    Below A₀ base outer h₀ → Fr h₀ L s.heap m → (Mine.hd1.heap_39 w.params).In h₀ → News h₀ L s.heap news →
    Top Mine.hd1.view_39 (looseW Mine.hd1.view_39 [Str.ofString "to_jd", Str.ofString "to_jd_gregorian", Str.ofString "from_jd", Str.ofString "from_jd_gregorian",
      Str.ofString "leap", Str.ofString "to_jd_french_republican", Str.ofString "from_jd_french_republican",
      Str.ofString "from_gregorian", Str.ofString "to_gregorian"]) mean mg mb h₀ → cs.kind = .function → dp + n < recursionLimit → un + 16 * n < cLine → RP h₀ L m news s Q →
      wpAny (model Challenge.rw_ak5018_01.row.prog w) (ktrTop dp un gd cn cs L a ccd cl outer) (call (.ref f) vs) Q E s

/-- the same, called with names: from any frame of a def, the call comes back as RP says -/
abbrev ClaimK (w : World) (mean : ExcName → Option Value) (mg mb : Str → Option Value) (n : Nat) (f : Addr) (vs : List Value) (kw : List (Str × Value))
    (RP : Heap → Addr → (Str → Option Value) → Led → Shared → (Value → Shared → Prop) → Prop) : Prop :=
  ∀ (dp un : Nat) (gd : Option (List Code)) (cn : Str) (cs : Scope) (a : Addr) (ccd : Value) (cl : List (Str × Addr)) (outer : List Env) (A₀ : Around) (base h₀ : Heap) (L : Addr) (m : Str → Option Value) (news : Led) (s : Shared) (Q E : Value → Shared → Prop),
    Below A₀ base outer h₀ → Fr h₀ L s.heap m → (Mine.hd1.heap_39 w.params).In h₀ → News h₀ L s.heap news →
    Top Mine.hd1.view_39 (looseW Mine.hd1.view_39 [Str.ofString "to_jd", Str.ofString "to_jd_gregorian", Str.ofString "from_jd", Str.ofString "from_jd_gregorian",
      Str.ofString "leap", Str.ofString "to_jd_french_republican", Str.ofString "from_jd_french_republican",
      Str.ofString "from_gregorian", Str.ofString "to_gregorian"]) mean mg mb h₀ → cs.kind = .function → dp + n < recursionLimit → un + 16 * n < cLine → RP h₀ L m news s Q →
      wpAny (model Challenge.rw_ak5018_01.row.prog w) (ktrTop dp un gd cn cs L a ccd cl outer) (call (.ref f) vs kw) Q E s

/-- the frame of a def that nothing else stands under -/
abbrev ktrOne (dp un : Nat) (gd : Option (List Code)) (cn : Str) (cs : Scope) (L a : Addr) (ccd : Value) : Around := { handled := none, depth := dp, frames := some [envOf cn cs L a ccd], guards := gd, units := un }
/-- the same, from the law's own frame, the call comes back as RP says -/
abbrev ClaimL (w : World) (mean : ExcName → Option Value) (mg mb : Str → Option Value) (n : Nat) (f : Addr) (vs : List Value)
    (RP : Heap → Addr → (Str → Option Value) → Led → Shared → (Value → Shared → Prop) → Prop) : Prop :=
  ∀ (dp un : Nat) (gd : Option (List Code)) (cn : Str) (cs : Scope) (a : Addr) (ccd : Value) (A₀ : Around) (h₀ : Heap) (L : Addr) (m : Str → Option Value) (news : Led) (s : Shared) (Q E : Value → Shared → Prop),
    Below A₀ h₀ [] h₀ → Fr h₀ L s.heap m → (Mine.hd1.heap_39 w.params).In h₀ → News h₀ L s.heap news →
    Top Mine.hd1.view_39 (looseW Mine.hd1.view_39 [Str.ofString "to_jd", Str.ofString "to_jd_gregorian", Str.ofString "from_jd", Str.ofString "from_jd_gregorian",
      Str.ofString "leap", Str.ofString "to_jd_french_republican", Str.ofString "from_jd_french_republican",
      Str.ofString "from_gregorian", Str.ofString "to_gregorian"]) mean mg mb h₀ → cs.kind = .function → dp + n < recursionLimit → un + 16 * n < cLine → RP h₀ L m news s Q →
      wpAny (model Challenge.rw_ak5018_01.row.prog w) (ktrOne dp un gd cn cs L a ccd) (call (.ref f) vs) Q E s

/-- one plain value comes back -/
abbrev RV (R : Tok → Value) (h₀ : Heap) (L : Addr) (m : Str → Option Value) (news : Led) (s : Shared) (Q : Value → Shared → Prop) : Prop :=
  ∀ (t : Tok) (h' : Heap) (tk' : Nat), Fr h₀ L h' m → News h₀ L h' news → Q (R t) { s with heap := h', toks := tk' }
/-- a new tuple of three ints comes back -/
abbrev RT (x y z : Int) (h₀ : Heap) (L : Addr) (m : Str → Option Value) (news : Led) (s : Shared) (Q : Value → Shared → Prop) : Prop :=
  ∀ (D : Addr) (t1 t2 t3 : Tok) (c : Nat) (h' : Heap) (tk' : Nat), Fr h₀ L h' m → News h₀ L h' ((D, ({ cls := .type "tuple", data := .seq #[.int x t1, .int y t2, .int z t3] c } : Obj)) :: news) → AllLt D news → Q (.ref D) { s with heap := h', toks := tk' }

theorem use {w : World} {mean : ExcName → Option Value} {mg mb : Str → Option Value} {n : Nat} {f : Addr} {vs : List Value} {RP : Heap → Addr → (Str → Option Value) → Led → Shared → (Value → Shared → Prop) → Prop} (C : Claim w mean mg mb n f vs RP)
    {dp un : Nat} {gd : Option (List Code)} {cn : Str} {cs : Scope} {a : Addr} {ccd : Value} {cl : List (Str × Addr)} {outer : List Env} {A₀ : Around} {base h₀ : Heap} {L : Addr} {m : Str → Option Value} {news : Led} {s : Shared} {Q E : Value → Shared → Prop}
    (B : Below A₀ base outer h₀) (F : Fr h₀ L s.heap m) (X : (Mine.hd1.heap_39 w.params).In h₀) (N : News h₀ L s.heap news)
    (T : Top Mine.hd1.view_39 (looseW Mine.hd1.view_39 [Str.ofString "to_jd", Str.ofString "to_jd_gregorian", Str.ofString "from_jd", Str.ofString "from_jd_gregorian",
      Str.ofString "leap", Str.ofString "to_jd_french_republican", Str.ofString "from_jd_french_republican",
      Str.ofString "from_gregorian", Str.ofString "to_gregorian"]) mean mg mb h₀) (hk : cs.kind = .function) (hd : dp + n < recursionLimit) (hu : un + 16 * n < cLine) (hR : RP h₀ L m news s Q) :
    wpAny (model Challenge.rw_ak5018_01.row.prog w) (ktrTop dp un gd cn cs L a ccd cl outer) (call (.ref f) vs) Q E s :=
  C _ _ _ _ _ _ _ _ _ _ _ _ _ _ _ _ _ _ B F X N T hk hd hu hR

theorem useL {w : World} {mean : ExcName → Option Value} {mg mb : Str → Option Value} {n : Nat} {f : Addr} {vs : List Value} {RP : Heap → Addr → (Str → Option Value) → Led → Shared → (Value → Shared → Prop) → Prop} (C : ClaimL w mean mg mb n f vs RP)
    {dp un : Nat} {gd : Option (List Code)} {cn : Str} {cs : Scope} {a : Addr} {ccd : Value} {A₀ : Around} {h₀ : Heap} {L : Addr} {m : Str → Option Value} {news : Led} {s : Shared} {Q E : Value → Shared → Prop}
    (B : Below A₀ h₀ [] h₀) (F : Fr h₀ L s.heap m) (X : (Mine.hd1.heap_39 w.params).In h₀) (N : News h₀ L s.heap news)
    (T : Top Mine.hd1.view_39 (looseW Mine.hd1.view_39 [Str.ofString "to_jd", Str.ofString "to_jd_gregorian", Str.ofString "from_jd", Str.ofString "from_jd_gregorian",
      Str.ofString "leap", Str.ofString "to_jd_french_republican", Str.ofString "from_jd_french_republican",
      Str.ofString "from_gregorian", Str.ofString "to_gregorian"]) mean mg mb h₀) (hk : cs.kind = .function) (hd : dp + n < recursionLimit) (hu : un + 16 * n < cLine) (hR : RP h₀ L m news s Q) :
    wpAny (model Challenge.rw_ak5018_01.row.prog w) (ktrOne dp un gd cn cs L a ccd) (call (.ref f) vs) Q E s :=
  C _ _ _ _ _ _ _ _ _ _ _ _ _ _ _ B F X N T hk hd hu hR

theorem useK {w : World} {mean : ExcName → Option Value} {mg mb : Str → Option Value} {n : Nat} {f : Addr} {vs : List Value} {kw : List (Str × Value)} {RP : Heap → Addr → (Str → Option Value) → Led → Shared → (Value → Shared → Prop) → Prop} (C : ClaimK w mean mg mb n f vs kw RP)
    {dp un : Nat} {gd : Option (List Code)} {cn : Str} {cs : Scope} {a : Addr} {ccd : Value} {cl : List (Str × Addr)} {outer : List Env} {A₀ : Around} {base h₀ : Heap} {L : Addr} {m : Str → Option Value} {news : Led} {s : Shared} {Q E : Value → Shared → Prop}
    (B : Below A₀ base outer h₀) (F : Fr h₀ L s.heap m) (X : (Mine.hd1.heap_39 w.params).In h₀) (N : News h₀ L s.heap news)
    (T : Top Mine.hd1.view_39 (looseW Mine.hd1.view_39 [Str.ofString "to_jd", Str.ofString "to_jd_gregorian", Str.ofString "from_jd", Str.ofString "from_jd_gregorian",
      Str.ofString "leap", Str.ofString "to_jd_french_republican", Str.ofString "from_jd_french_republican",
      Str.ofString "from_gregorian", Str.ofString "to_gregorian"]) mean mg mb h₀) (hk : cs.kind = .function) (hd : dp + n < recursionLimit) (hu : un + 16 * n < cLine) (hR : RP h₀ L m news s Q) :
    wpAny (model Challenge.rw_ak5018_01.row.prog w) (ktrTop dp un gd cn cs L a ccd cl outer) (call (.ref f) vs kw) Q E s :=
  C _ _ _ _ _ _ _ _ _ _ _ _ _ _ _ _ _ _ B F X N T hk hd hu hR

section
variable {h₀ h' : Heap} {L : Addr} {m : Str → Option Value} {news news' : Led} {s : Shared} {Q : Value → Shared → Prop} {t : Tok} {tk' : Nat}
theorem retI {x y : Int} (hret : RV (fun t => .int x t) h₀ L m news s Q) (e : y = x) (F : Fr h₀ L h' m) (N : News h₀ L h' news') (hn : ∀ p ∈ news, p ∈ news') : Q (.int y t) { s with heap := h', toks := tk' } := by
  subst e
  exact hret t h' tk' F fun p hp => N p (hn p hp)
theorem retB {x y : Bool} (hret : RV (fun _ => .bool x) h₀ L m news s Q) (e : y = x) (F : Fr h₀ L h' m) (N : News h₀ L h' news') (hn : ∀ p ∈ news, p ∈ news') : Q (.bool y) { s with heap := h', toks := tk' } := by
  subst e
  exact hret 0 h' tk' F fun p hp => N p (hn p hp)
theorem retH {x y : Int} (hret : RV (fun t => .float (H x) t) h₀ L m news s Q) (e : y = x) (F : Fr h₀ L h' m) (N : News h₀ L h' news') (hn : ∀ p ∈ news, p ∈ news') : Q (.float (H y) t) { s with heap := h', toks := tk' } := by
  subst e
  exact hret t h' tk' F fun p hp => N p (hn p hp)
theorem retT {x y z x' y' z' : Int} {D : Addr} {t1 t2 t3 : Tok} {c : Nat} (hret : RT x y z h₀ L m news s Q) (e1 : x' = x) (e2 : y' = y) (e3 : z' = z) (F : Fr h₀ L h' m) (NM : News h₀ L h' news' ∧ (D, ({ cls := .type "tuple", data := .seq #[.int x' t1, .int y' t2, .int z' t3] c } : Obj)) ∈ news') (hn : ∀ p ∈ news, p ∈ news') (hl : AllLt D news) : Q (.ref D) { s with heap := h', toks := tk' } := by
  subst e1; subst e2; subst e3
  refine hret D t1 t2 t3 c h' tk' F (fun p hp => ?_) hl
  rcases List.mem_cons.mp hp with rfl | hp
  · exact NM.1 _ NM.2
  · exact NM.1 p (hn p hp)
end
end Mine

end
section
set_option maxRecDepth 100000
namespace Mine
open PySem PySem.W PySem.Spec PySem.Calls PyProof.Rows PySem.Flt PySem.AutoFloatOps
section
variable {prog : Program} {w : World} {A : Around} {E : Value → Shared → Prop} {s : Shared} {t u : Tok} {Q : Value → Shared → Prop} {x y : UInt64} {a b n : Int}

abbrev Sm (a : Int) : Prop := -1125899906842624 < a ∧ a < 1125899906842624
theorem Sm.abs (h : Sm a) : a.natAbs < 2 ^ 51 := by unfold Sm at h; omega
theorem Sm.abs2 (h : Sm n) : (2 * n).natAbs < 2 ^ 52 := by unfold Sm at h; omega
theorem Sm.over (h : Sm n) : ¬ Over n := by
  intro h1
  have h2 : 2 ^ 1024 - 2 ^ 970 ≤ n.natAbs := h1
  have h3 := h.abs
  have h4 : (2 : Nat) ^ 51 ≤ 2 ^ 1024 - 2 ^ 970 := by decide +kernel
  exact absurd (Nat.lt_of_lt_of_le h3 h4) (Nat.not_lt.mpr h2)

theorem hadd_ff (hx : x = H a) (hy : y = H b) (ha : Sm a) (hb : Sm b)
    (h : Q (.float (H (a + b)) s.toks) { s with toks := s.toks + 1 }) : wpAny (model prog w) A (binaryOp .Add (.float x t) (.float y u)) Q E s := by
  subst hx hy
  refine add_float ?_
  rw [H_add ha.abs hb.abs]; exact h
theorem hsub_ff (hx : x = H a) (hy : y = H b) (ha : Sm a) (hb : Sm b)
    (h : Q (.float (H (a - b)) s.toks) { s with toks := s.toks + 1 }) : wpAny (model prog w) A (binaryOp .Sub (.float x t) (.float y u)) Q E s := by
  subst hx hy
  refine sub_float ?_
  rw [H_sub ha.abs hb.abs]; exact h
theorem hadd_fi (hh : A.handled = none) (hx : x = H a) (ha : Sm a) (hb : Sm (2 * n))
    (h : Q (.float (H (a + 2 * n)) s.toks) { s with toks := s.toks + 1 }) : wpAny (model prog w) A (binaryOp .Add (.float x t) (.int n u)) Q E s := by
  subst hx
  have hn : Sm n := ⟨by have := hb.1; omega, by have := hb.2; omega⟩
  refine add_fi_sharp hh (fun h1 => absurd h1 hn.over) (fun _ => ?_)
  rw [H_ofInt (by have := hn.abs; omega), H_add ha.abs hb.abs]; exact h
theorem hadd_if (hh : A.handled = none) (hx : x = H a) (ha : Sm a) (hb : Sm (2 * n))
    (h : Q (.float (H (2 * n + a)) s.toks) { s with toks := s.toks + 1 }) : wpAny (model prog w) A (binaryOp .Add (.int n u) (.float x t)) Q E s := by
  subst hx
  have hn : Sm n := ⟨by have := hb.1; omega, by have := hb.2; omega⟩
  refine add_if_sharp hh (fun h1 => absurd h1 hn.over) (fun _ => ?_)
  rw [H_ofInt (by have := hn.abs; omega), H_add hb.abs ha.abs]; exact h
theorem hsub_fi (hh : A.handled = none) (hx : x = H a) (ha : Sm a) (hb : Sm (2 * n))
    (h : Q (.float (H (a - 2 * n)) s.toks) { s with toks := s.toks + 1 }) : wpAny (model prog w) A (binaryOp .Sub (.float x t) (.int n u)) Q E s := by
  subst hx
  have hn : Sm n := ⟨by have := hb.1; omega, by have := hb.2; omega⟩
  refine sub_fi_sharp hh (fun h1 => absurd h1 hn.over) (fun _ => ?_)
  rw [H_ofInt (by have := hn.abs; omega), H_sub ha.abs hb.abs]; exact h
theorem hsub_if (hh : A.handled = none) (hx : x = H a) (ha : Sm a) (hb : Sm (2 * n))
    (h : Q (.float (H (2 * n - a)) s.toks) { s with toks := s.toks + 1 }) : wpAny (model prog w) A (binaryOp .Sub (.int n u) (.float x t)) Q E s := by
  subst hx
  have hn : Sm n := ⟨by have := hb.1; omega, by have := hb.2; omega⟩
  refine sub_if_sharp hh (fun h1 => absurd h1 hn.over) (fun _ => ?_)
  rw [H_ofInt (by have := hn.abs; omega), H_sub hb.abs ha.abs]; exact h
/-- int times float, none below nought -/
theorem hmul_if (hh : A.handled = none) (hx : x = H a) (hn0 : 0 ≤ n) (ha0 : 0 ≤ a) (ha : Sm a) (hb : Sm (2 * n)) (hp : Sm (n * a))
    (h : Q (.float (H (n * a)) s.toks) { s with toks := s.toks + 1 }) : wpAny (model prog w) A (binaryOp .Mult (.int n u) (.float x t)) Q E s := by
  subst hx
  have hn : Sm n := ⟨by have := hb.1; omega, by have := hb.2; omega⟩
  refine mul_if_sharp hh (fun h1 => absurd h1 hn.over) (fun _ => ?_)
  rw [H_ofInt (by have := hn.abs; omega), H_mul hn0 ha0 (by have := hn.2; omega) (by have := ha.2; omega) (by have := hp.abs; omega)]; exact h
theorem hmul_fi (hh : A.handled = none) (hx : x = H a) (hn0 : 0 ≤ n) (ha0 : 0 ≤ a) (ha : Sm a) (hb : Sm (2 * n)) (hp : Sm (n * a))
    (h : Q (.float (H (n * a)) s.toks) { s with toks := s.toks + 1 }) : wpAny (model prog w) A (binaryOp .Mult (.float x t) (.int n u)) Q E s := by
  subst hx
  have hn : Sm n := ⟨by have := hb.1; omega, by have := hb.2; omega⟩
  refine mul_fi_sharp hh (fun h1 => absurd h1 hn.over) (fun _ => ?_)
  rw [H_ofInt (by have := hn.abs; omega), H_mul' hn0 ha0 (by have := hn.2; omega) (by have := ha.2; omega) (by have := hp.abs; omega)]; exact h
/-- float times 365.0 -/
theorem hmul_365 (hx : x = H a) (hy : y = H 730) (ha0 : 0 ≤ a) (ha : Sm a) (hp : Sm (365 * a))
    (h : Q (.float (H (365 * a)) s.toks) { s with toks := s.toks + 1 }) : wpAny (model prog w) A (binaryOp .Mult (.float x t) (.float y u)) Q E s := by
  subst hx hy
  refine mul_float ?_
  have := H_mul' (a := 365) (b := a) (by omega) ha0 (by omega) (by have := ha.2; omega) (by have := hp.abs; omega)
  rw [show (2 * 365 : Int) = 730 from rfl] at this
  rw [this]; exact h

/-- a quotient, not rounded yet -/
def D (a b : Int) : UInt64 := Float64.div (H a) (H b)
theorem hdiv_ff (hh : A.handled = none) (hx : x = H a) (hy : y = H b) (hb : 0 < b) (hb2 : Sm b)
    (h : Q (.float (D a b) s.toks) { s with toks := s.toks + 1 }) : wpAny (model prog w) A (binaryOp .Div (.float x t) (.float y u)) Q E s := by
  subst hx hy
  refine truediv_float_or hh (fun h1 => ?_) (fun _ => h)
  rw [H_isZero (by have := hb2.abs; omega)] at h1
  have := of_decide_eq_true h1; omega
theorem hdiv_fi (hh : A.handled = none) (hx : x = H a) (hb : 0 < n) (hb2 : Sm (2 * n))
    (h : Q (.float (D a (2 * n)) s.toks) { s with toks := s.toks + 1 }) : wpAny (model prog w) A (binaryOp .Div (.float x t) (.int n u)) Q E s := by
  subst hx
  have hn : Sm n := ⟨by have := hb2.1; omega, by have := hb2.2; omega⟩
  refine truediv_fi hh (fun h1 => absurd h1 hn.over) (fun h1 => ?_) (fun _ _ => ?_)
  · omega
  · rw [H_ofInt (by have := hn.abs; omega)]; exact h
theorem hdiv_if (hh : A.handled = none) (hx : x = H b) (hb : 0 < b) (hb2 : Sm b) (hn : Sm (2 * n))
    (h : Q (.float (D (2 * n) b) s.toks) { s with toks := s.toks + 1 }) : wpAny (model prog w) A (binaryOp .Div (.int n u) (.float x t)) Q E s := by
  subst hx
  have hn' : Sm n := ⟨by have := hn.1; omega, by have := hn.2; omega⟩
  refine truediv_if hh (fun h1 => absurd h1 hn'.over) (fun _ h1 => ?_) (fun _ _ => ?_)
  · rw [H_isZero (by have := hb2.abs; omega)] at h1
    have := of_decide_eq_true h1; omega
  · rw [H_ofInt (by have := hn'.abs; omega)]; exact h
/-- a quotient of ints, not rounded yet -/
def D2 (a b : Int) : UInt64 := Float64.ofFrac (decide (a < 0) != decide (b < 0)) a.natAbs b.natAbs
theorem hdiv_ii (hh : A.handled = none) (ha : Sm a) (hb : 0 < b)
    (h : Q (.float (D2 a b) s.toks) { s with toks := s.toks + 1 }) : wpAny (model prog w) A (binaryOp .Div (.int a t) (.int b u)) Q E s := by
  refine div_ii_fits hh ?_ (fun h1 => ?_) (fun _ _ => h)
  · exact Nat.lt_of_lt_of_le ha.abs (by decide +kernel)
  · omega
theorem hmod_ff (hh : A.handled = none) (hx : x = H a) (hy : y = H b) (ha : 0 ≤ a) (hb : 0 < b) (ha2 : Sm a) (hb2 : Sm b)
    (h : Q (.float (H (a % b)) s.toks) { s with toks := s.toks + 1 }) : wpAny (model prog w) A (binaryOp .Mod (.float x t) (.float y u)) Q E s := by
  subst hx hy
  refine mod_ff hh (fun h1 => ?_) (fun _ => ?_)
  · rw [H_isZero (by have := hb2.abs; omega)] at h1
    have := of_decide_eq_true h1; omega
  · rw [H_mod ha hb (by have := ha2.2; omega) (by have := hb2.2; omega)]; exact h
theorem hmod_fi (hh : A.handled = none) (hx : x = H a) (ha : 0 ≤ a) (hb : 0 < n) (ha2 : Sm a) (hb2 : Sm (2 * n))
    (h : Q (.float (H (a % (2 * n))) s.toks) { s with toks := s.toks + 1 }) : wpAny (model prog w) A (binaryOp .Mod (.float x t) (.int n u)) Q E s := by
  subst hx
  have hn : Sm n := ⟨by have := hb2.1; omega, by have := hb2.2; omega⟩
  refine mod_fi hh (fun h1 => absurd h1 hn.over) (fun h1 => ?_) (fun _ _ => ?_)
  · omega
  · rw [H_ofInt (by have := hn.abs; omega), H_mod ha (by omega) (by have := ha2.2; omega) (by have := hb2.2; omega)]; exact h
theorem hmod_if (hh : A.handled = none) (hx : x = H b) (ha : 0 ≤ n) (hb : 0 < b) (ha2 : Sm (2 * n)) (hb2 : Sm b)
    (h : Q (.float (H ((2 * n) % b)) s.toks) { s with toks := s.toks + 1 }) : wpAny (model prog w) A (binaryOp .Mod (.int n u) (.float x t)) Q E s := by
  subst hx
  have hn : Sm n := ⟨by have := ha2.1; omega, by have := ha2.2; omega⟩
  refine mod_if hh (fun h1 => absurd h1 hn.over) (fun _ h1 => ?_) (fun _ _ => ?_)
  · rw [H_isZero (by have := hb2.abs; omega)] at h1
    have := of_decide_eq_true h1; omega
  · rw [H_ofInt (by have := hn.abs; omega), H_mod (by omega) hb (by have := ha2.2; omega) (by have := hb2.2; omega)]; exact h
theorem not_nan_H (ha : Sm a) : ¬ Float64.isNaN (H a) = true := by rw [(H_fin (by have := ha.abs; omega)).1]; decide
theorem not_inf_H (ha : Sm a) : ¬ Float64.isInf (H a) = true := by rw [(H_fin (by have := ha.abs; omega)).2]; decide
theorem hfloor_H (hh : A.handled = none) (hx : x = H a) (ha : 0 ≤ a) (ha2 : Sm a) (h : Q (.int (a / 2) s.toks) { s with toks := s.toks + 1 }) :
    wpAny (model prog w) A (call (.builtin "math.floor") [.float x t]) Q E s := by
  subst hx
  refine call_floor_float hh (fun h1 => absurd h1 (not_nan_H ha2)) (fun h1 => absurd h1 (not_inf_H ha2)) (fun _ => ?_)
  rw [toInt_floor_H ha (by have := ha2.2; omega)]; exact h
theorem htrunc_H (hh : A.handled = none) (hx : x = H a) (ha : 0 ≤ a) (ha2 : Sm a) (h : Q (.int (a / 2) s.toks) { s with toks := s.toks + 1 }) :
    wpAny (model prog w) A (call (.builtin "math.trunc") [.float x t]) Q E s := by
  subst hx
  refine call_trunc_float hh (fun h1 => absurd h1 (not_nan_H ha2)) (fun h1 => absurd h1 (not_inf_H ha2)) (fun _ => ?_)
  rw [toInt_trunc_H ha (by have := ha2.2; omega)]; exact h
theorem hint_H (hh : A.handled = none) (hx : x = H a) (ha : 0 ≤ a) (ha2 : Sm a) (h : Q (.int (a / 2) s.toks) { s with toks := s.toks + 1 }) :
    wpAny (model prog w) A (call (.type "int") [.float x t]) Q E s := by
  subst hx
  refine call_int_float3 hh (fun h1 => absurd h1 (not_nan_H ha2)) (fun h1 => absurd h1 (not_inf_H ha2)) (fun _ => ?_)
  rw [toInt_trunc_H ha (by have := ha2.2; omega)]; exact h
theorem hfloor_D (hh : A.handled = none) (ha : 0 ≤ a) (hb : 0 < b) (ha2 : a < b * 2147483648) (hb2 : b < 4194304) (h : Q (.int (a / b) s.toks) { s with toks := s.toks + 1 }) :
    wpAny (model prog w) A (call (.builtin "math.floor") [.float (D a b) t]) Q E s := by
  have hf := div_finH ha hb ha2 hb2
  refine call_floor_float hh (fun h1 => ?_) (fun h1 => ?_) (fun _ => ?_)
  · unfold D at h1; rw [hf.1] at h1; exact absurd h1 (by decide)
  · unfold D at h1; rw [hf.2] at h1; exact absurd h1 (by decide)
  · unfold D; rw [toInt_floor_div ha hb ha2 hb2]; exact h
theorem htrunc_D (hh : A.handled = none) (ha : 0 ≤ a) (hb : 0 < b) (ha2 : a < b * 2147483648) (hb2 : b < 4194304) (h : Q (.int (a / b) s.toks) { s with toks := s.toks + 1 }) :
    wpAny (model prog w) A (call (.builtin "math.trunc") [.float (D a b) t]) Q E s := by
  have hf := div_finH ha hb ha2 hb2
  refine call_trunc_float hh (fun h1 => ?_) (fun h1 => ?_) (fun _ => ?_)
  · unfold D at h1; rw [hf.1] at h1; exact absurd h1 (by decide)
  · unfold D at h1; rw [hf.2] at h1; exact absurd h1 (by decide)
  · unfold D; rw [toInt_trunc_div ha hb ha2 hb2]; exact h
theorem D2_sign (ha : 0 ≤ a) (hb : 0 < b) : (decide (a < 0) != decide (b < 0)) = false := by
  rw [decide_eq_false (by omega), decide_eq_false (by omega)]; rfl
theorem hfloor_D2 (hh : A.handled = none) (ha : 0 ≤ a) (hb : 0 < b) (ha2 : a < b * 2147483648) (hb2 : b < 4194304) (h : Q (.int (a / b) s.toks) { s with toks := s.toks + 1 }) :
    wpAny (model prog w) A (call (.builtin "math.floor") [.float (D2 a b) t]) Q E s := by
  obtain ⟨m, e, h1, h2⟩ := frac_floor ha hb ha2 hb2 (D2_sign ha hb)
  have hf := finite_of_dec h1
  refine call_floor_float hh (fun h1 => ?_) (fun h1 => ?_) (fun _ => ?_)
  · unfold D2 at h1; rw [hf.1] at h1; exact absurd h1 (by decide)
  · unfold D2 at h1; rw [hf.2] at h1; exact absurd h1 (by decide)
  · unfold D2; rw [toInt_floor_frac ha hb ha2 hb2 (D2_sign ha hb)]; exact h
theorem htrunc_D2 (hh : A.handled = none) (ha : 0 ≤ a) (hb : 0 < b) (ha2 : a < b * 2147483648) (hb2 : b < 4194304) (h : Q (.int (a / b) s.toks) { s with toks := s.toks + 1 }) :
    wpAny (model prog w) A (call (.builtin "math.trunc") [.float (D2 a b) t]) Q E s := by
  obtain ⟨m, e, h1, h2⟩ := frac_floor ha hb ha2 hb2 (D2_sign ha hb)
  have hf := finite_of_dec h1
  refine call_trunc_float hh (fun h1 => ?_) (fun h1 => ?_) (fun _ => ?_)
  · unfold D2 at h1; rw [hf.1] at h1; exact absurd h1 (by decide)
  · unfold D2 at h1; rw [hf.2] at h1; exact absurd h1 (by decide)
  · have : toInt Float64.truncOf (D2 a b) = a / b := by
      have h3 := h1
      rw [← h2, ← trunc_pos m e]
      exact toInt_fin h1
    rw [this]; exact h
/-- % and // by a number above nought -/
theorem hmod_ii (hb : 0 < b) (h : Q (.int (a % b) s.toks) { s with toks := s.toks + 1 }) : wpAny (model prog w) A (binaryOp .Mod (.int a t) (.int b u)) Q E s := by
  refine mod_int' (by omega) ?_
  rw [Int.fmod_eq_emod_of_nonneg _ (by omega)]; exact h
theorem hlt_ff (hx : x = H a) (hy : y = H b) (ha : Sm a) (hb : Sm b) (h : Q (.bool (decide (a < b))) s) : wpAny (model prog w) A (compareOp .Lt (.float x t) (.float y u)) Q E s := by
  subst hx hy
  refine AutoFloatOps.lt_0 ?_
  rw [H_cmp (by have := ha.abs; omega) (by have := hb.abs; omega), cmp_lt]; exact h
theorem hle_ff (hx : x = H a) (hy : y = H b) (ha : Sm a) (hb : Sm b) (h : Q (.bool (decide (a ≤ b))) s) : wpAny (model prog w) A (compareOp .LtE (.float x t) (.float y u)) Q E s := by
  subst hx hy
  refine AutoFloatOps.le_0 ?_
  rw [H_cmp (by have := ha.abs; omega) (by have := hb.abs; omega), cmp_lt, cmp_eq]
  have : (decide (a < b) || decide (a = b)) = decide (a ≤ b) := by
    by_cases h1 : a ≤ b
    · rw [decide_eq_true h1]; by_cases h2 : a < b
      · simp [h2]
      · simp [show a = b by omega]
    · simp [h1, show ¬ a < b by omega, show ¬ a = b by omega]
  rw [this]; exact h
theorem heq_ff (hx : x = H a) (hy : y = H b) (ha : Sm a) (hb : Sm b) (h : Q (.bool (decide (a = b))) s) : wpAny (model prog w) A (compareOp .Eq (.float x t) (.float y u)) Q E s := by
  subst hx hy
  refine AutoFloatOps.eq_0 ?_
  rw [H_cmp (by have := ha.abs; omega) (by have := hb.abs; omega), cmp_eq]; exact h
theorem hne_ff (hx : x = H a) (hy : y = H b) (ha : Sm a) (hb : Sm b) (h : Q (.bool (decide (a ≠ b))) s) : wpAny (model prog w) A (compareOp .NotEq (.float x t) (.float y u)) Q E s := by
  subst hx hy
  refine AutoFloatOps.ne_0 ?_
  rw [H_cmp (by have := ha.abs; omega) (by have := hb.abs; omega)]
  have : (some (compare a b) != some Ordering.eq) = decide (a ≠ b) := by
    unfold bne; rw [cmp_eq]; by_cases h1 : a = b <;> simp [h1]
  rw [this]; exact h
theorem hlt_fi (hx : x = H a) (ha : Sm a) (h : Q (.bool (decide (a < 2 * n))) s) : wpAny (model prog w) A (compareOp .Lt (.float x t) (.int n u)) Q E s := by
  subst hx
  refine lt_fi ?_
  rw [H_cmpInt (by have := ha.abs; omega), cmp_lt]; exact h
theorem htruthy_H {R : Bool → Shared → Prop} (hx : x = H a) (ha : Sm a) (h0 : a ≠ 0) (h : R true s) : wpAny (model prog w) A (truthy (.float x t)) R E s := by
  subst hx
  refine truthy_float ?_
  rw [H_isZero (by have := ha.abs; omega), decide_eq_false h0]; exact h
theorem heq_ii (h : Q (.bool (decide (a = b))) s) : wpAny (model prog w) A (compareOp .Eq (.int a t) (.int b u)) Q E s := by
  refine eq_int ?_
  have : (a == b) = decide (a = b) := by rw [Bool.eq_iff_iff]; simp
  rw [this]; exact h
theorem hne_ii (h : Q (.bool (decide (a ≠ b))) s) : wpAny (model prog w) A (compareOp .NotEq (.int a t) (.int b u)) Q E s := by
  refine ne_int ?_
  have : (a != b) = decide (a ≠ b) := by rw [Bool.eq_iff_iff]; simp
  rw [this]; exact h
theorem heq_if (hx : x = H a) (ha : Sm a) (h : Q (.bool (decide (a = 2 * n))) s) : wpAny (model prog w) A (compareOp .Eq (.int n u) (.float x t)) Q E s := by
  subst hx
  refine eq_if ?_
  rw [H_cmpInt (by have := ha.abs; omega), cmp_eq]; exact h
end
theorem lit_3442851 : ((4700144277945057280 : UInt64)) = H 3442851 := by decide +kernel
theorem lit_4751679 : ((4702356487823949824 : UInt64)) = H 4751679 := by decide +kernel
theorem lit_730 : ((4645128764097822720 : UInt64)) = H 730 := by decide +kernel
theorem lit_2922 : ((4654140361399074816 : UInt64)) = H 2922 := by decide +kernel
theorem lit_8 : ((4616189618054758400 : UInt64)) = H 8 := by decide +kernel
theorem lit_1 : ((4602678819172646912 : UInt64)) = H 1 := by decide +kernel
theorem lit_200 : ((4636737291354636288 : UInt64)) = H 200 := by decide +kernel
theorem lit_800 : ((4645744490609377280 : UInt64)) = H 800 := by decide +kernel
theorem lit_8000 : ((4661014508095930368 : UInt64)) = H 8000 := by decide +kernel
theorem lit_60 : ((4629137466983448576 : UInt64)) = H 60 := by decide +kernel
theorem lit_3 : ((4609434218613702656 : UInt64)) = H 3 := by decide +kernel
end Mine

end
section
set_option maxRecDepth 100000
namespace Mine
open PySem PySem.W PySem.Spec PySem.Calls PyProof.Rows PySem.SeqAt
def nmI (way : Int) : Int := if way = 0 then 4 else if way = 1 then 100 else 128
def nmS (way : Int) : Str := if way = 0 then Str.ofString "continuous" else if way = 1 then Str.ofString "romme" else if way = 2 then Str.ofString "madler" else Str.ofString "Romme"
/-- v is one of the names of a way (3: no way's name) -/
def IsNm (way : Int) (v : Value) : Prop := (0 ≤ way ∧ way ≤ 2 ∧ ∃ t, v = .int (nmI way) t) ∨ (0 ≤ way ∧ way ≤ 3 ∧ ∃ t, v = .str (nmS way) t)
theorem isNm4 (t : Tok) : IsNm 0 (.int 4 t) := .inl ⟨by decide, by decide, t, rfl⟩
theorem isNmR (t : Tok) : IsNm 3 (.str (Str.ofString "Romme") t) := .inr ⟨by decide, by decide, t, rfl⟩
theorem IsNm.range {way : Int} {v : Value} (h : IsNm way v) : 0 ≤ way ∧ way ≤ 3 := by
  rcases h with ⟨a, b, _⟩ | ⟨a, b, _⟩ <;> omega
def eqLit : Value → Value → Bool
  | .int a _, .int b _ => a == b
  | .str a _, .str b _ => a == b
  | _, _ => false
def isLit : Value → Bool
  | .int _ _ => true
  | .str _ _ => true
  | _ => false
section
variable {prog : Program} {w : World} {A : Around} {E : Value → Shared → Prop} {s : Shared} {t u : Tok} {way : Int} {v x y : Value}
theorem lit_cases : ∀ {v : Value}, isLit v = true → (∃ a t, v = .int a t) ∨ ∃ a t, v = .str a t := by
  intro v h
  cases v with
  | int a t => exact .inl ⟨a, t, rfl⟩
  | str a t => exact .inr ⟨a, t, rfl⟩
  | _ => exact Bool.noConfusion h
theorem eq_lit (hy : isLit y = true) (hx : isLit x = true) : EqAt A s y x (eqLit y x) := by
  rcases lit_cases hy with ⟨a, t, rfl⟩ | ⟨a, t, rfl⟩ <;> rcases lit_cases hx with ⟨b, u, rfl⟩ | ⟨b, u, rfl⟩
  · exact EqAt.int_int _ _ _ _
  · exact EqAt.int_str _ _ _ _
  · exact EqAt.str_int _ _ _ _
  · exact EqAt.str_str _ _ _ _
theorem in_lits {l : Addr} {items : Array Value} {Q : Value → Shared → Prop} {b : Bool} (hl : IsTup s.heap l items) (hi : items.toList.all isLit = true) (hx : isLit x = true) (he : (items.toList.any fun y => eqLit y x) = b)
    (h : Q (.bool b) s) : wpAny (model prog w) A (compareOp .In x (.ref l)) Q E s := by
  refine in_tupleAt (fun y => eqLit y x) hl (fun y hy => eq_lit (List.all_eq_true.mp hi y (by simpa using hy)) hx) ?_
  rw [← Array.any_toList, he]; exact h
/-- the name in a way's pair -/
theorem in_pair {l : Addr} {a : Int} {z : Str} {t1 t2 : Tok} {Q : Value → Shared → Prop} {k : Int} (hN : IsNm way v) (hl : IsTup s.heap l #[.int a t1, .str z t2]) (hk : 0 ≤ k ∧ k ≤ 2) (ha : a = nmI k) (hz : z = nmS k)
    (h : Q (.bool (decide (way = k))) s) : wpAny (model prog w) A (compareOp .In v (.ref l)) Q E s := by
  subst ha hz
  have hr := hN.range
  refine in_lits hl rfl ?_ ?_ h
  · rcases hN with ⟨_, _, t, rfl⟩ | ⟨_, _, t, rfl⟩ <;> rfl
  · have h1 : k = 0 ∨ k = 1 ∨ k = 2 := by omega
    have h2 : way = 0 ∨ way = 1 ∨ way = 2 ∨ way = 3 := by omega
    rcases hN with ⟨_, h3, t, rfl⟩ | ⟨_, _, t, rfl⟩
    · rcases h1 with rfl | rfl | rfl <;> rcases h2 with rfl | rfl | rfl | rfl <;> first | rfl | omega
    · rcases h1 with rfl | rfl | rfl <;> rcases h2 with rfl | rfl | rfl | rfl <;> rfl
/-- the name in the four names of two ways -/
theorem in_quad {l : Addr} {a c : Int} {z y : Str} {t1 t2 t3 t4 : Tok} {Q : Value → Shared → Prop} (hN : IsNm way v) (hl : IsTup s.heap l #[.int a t1, .str z t2, .int c t3, .str y t4]) (ha : a = nmI 2) (hz : z = nmS 2) (hc : c = nmI 0) (hy : y = nmS 0)
    (h : Q (.bool (decide (way = 2 ∨ way = 0))) s) : wpAny (model prog w) A (compareOp .In v (.ref l)) Q E s := by
  subst ha hz hc hy
  have hr := hN.range
  refine in_lits hl rfl ?_ ?_ h
  · rcases hN with ⟨_, _, t, rfl⟩ | ⟨_, _, t, rfl⟩ <;> rfl
  · have h2 : way = 0 ∨ way = 1 ∨ way = 2 ∨ way = 3 := by omega
    rcases hN with ⟨_, h3, t, rfl⟩ | ⟨_, _, t, rfl⟩
    · rcases h2 with rfl | rfl | rfl | rfl <;> first | rfl | omega
    · rcases h2 with rfl | rfl | rfl | rfl <;> rfl
theorem in_pair0 {l : Addr} {t1 t2 : Tok} {Q : Value → Shared → Prop} (hl : IsTup s.heap l #[.int 4 t1, .str (Str.ofString "continuous") t2]) (hN : IsNm way v)
    (h : Q (.bool (decide (way = 0))) s) : wpAny (model prog w) A (compareOp .In v (.ref l)) Q E s := in_pair hN hl (by decide) rfl rfl h
theorem in_pair1 {l : Addr} {t1 t2 : Tok} {Q : Value → Shared → Prop} (hl : IsTup s.heap l #[.int 100 t1, .str (Str.ofString "romme") t2]) (hN : IsNm way v)
    (h : Q (.bool (decide (way = 1))) s) : wpAny (model prog w) A (compareOp .In v (.ref l)) Q E s := in_pair hN hl (by decide) rfl rfl h
theorem in_pair2 {l : Addr} {t1 t2 : Tok} {Q : Value → Shared → Prop} (hl : IsTup s.heap l #[.int 128 t1, .str (Str.ofString "madler") t2]) (hN : IsNm way v)
    (h : Q (.bool (decide (way = 2))) s) : wpAny (model prog w) A (compareOp .In v (.ref l)) Q E s := in_pair hN hl (by decide) rfl rfl h
theorem in_pair4 {l : Addr} {t1 t2 t3 t4 : Tok} {Q : Value → Shared → Prop} (hl : IsTup s.heap l #[.int 128 t1, .str (Str.ofString "madler") t2, .int 4 t3, .str (Str.ofString "continuous") t4]) (hN : IsNm way v)
    (h : Q (.bool (decide (way = 2 ∨ way = 0))) s) : wpAny (model prog w) A (compareOp .In v (.ref l)) Q E s := in_quad hN hl rfl rfl rfl rfl h
theorem truthy_nm {Q : Bool → Shared → Prop} (hN : IsNm way v) (h : ∀ tk, Q true { s with toks := tk }) : wpAny (model prog w) A (truthy v) Q E s := by
  have hr := hN.range
  have h2 : way = 0 ∨ way = 1 ∨ way = 2 ∨ way = 3 := by omega
  rcases hN with ⟨_, h3, t, rfl⟩ | ⟨_, _, t, rfl⟩
  · refine PyProof.Rows.truthy_int ?_
    have : (nmI way != 0) = true := by rcases h2 with rfl | rfl | rfl | rfl <;> rfl
    rw [this]; exact h s.toks
  · have hl : (nmS way).length = 10 ∨ (nmS way).length = 5 ∨ (nmS way).length = 6 := by rcases h2 with rfl | rfl | rfl | rfl <;> decide +kernel
    refine PySem.P.truthy_str (by omega) ?_
    have : (((nmS way).length : Int) != 0) = true := by rw [bne_iff_ne]; omega
    rw [this]; exact h _
end
end Mine

end
section
set_option maxRecDepth 100000
namespace Mine
open PySem PySem.W PySem.Spec PySem.Calls PyProof.Rows PySem.Flt PySem.AutoFloatOps
/-- the month's float: its quotient, with the leap's number, with the day -/
def D3 (m l : Int) : UInt64 := Float64.add (D2 (367 * m - 362) 12) (Float64.ofInt l)
def D4 (m l d : Int) : UInt64 := Float64.add (D3 m l) (Float64.ofInt d)
theorem d4_fin : ∀ m : Fin 12, ∀ l : Fin 3, ∀ d : Fin 31,
    (match Float64.decode (D4 ((m.val : Int) + 1) (-(l.val : Int)) ((d.val : Int) + 1)) with
      | .fin s k e => Float64.floorOf s k e == (367 * ((m.val : Int) + 1) - 362) / 12 + -(l.val : Int) + ((d.val : Int) + 1)
      | _ => false) = true := by decide +kernel
theorem d4_spec {m l d : Int} (h1 : 1 ≤ m) (h2 : m ≤ 12) (h3 : -2 ≤ l) (h4 : l ≤ 0) (h5 : 1 ≤ d) (h6 : d ≤ 31) :
    ∃ s k e, Float64.decode (D4 m l d) = .fin s k e ∧ Float64.floorOf s k e = (367 * m - 362) / 12 + l + d := by
  have h := d4_fin ⟨(m - 1).toNat, by omega⟩ ⟨(-l).toNat, by omega⟩ ⟨(d - 1).toNat, by omega⟩
  have e1 : (((m - 1).toNat : Nat) : Int) + 1 = m := by omega
  have e2 : -(((-l).toNat : Nat) : Int) = l := by omega
  have e3 : (((d - 1).toNat : Nat) : Int) + 1 = d := by omega
  simp only [e1, e2, e3] at h
  cases hd : Float64.decode (D4 m l d) with
  | fin s k e => rw [hd] at h; exact ⟨s, k, e, rfl, by simpa using h⟩
  | nan => rw [hd] at h; cases h
  | inf s => rw [hd] at h; cases h
section
variable {prog : Program} {w : World} {A : Around} {E : Value → Shared → Prop} {s : Shared} {t u : Tok} {Q : Value → Shared → Prop} {m l d : Int}
theorem hadd_D3 (hh : A.handled = none) (hl : Sm l) (h : Q (.float (D3 m l) s.toks) { s with toks := s.toks + 1 }) :
    wpAny (model prog w) A (binaryOp .Add (.float (D2 (367 * m - 362) 12) t) (.int l u)) Q E s :=
  add_fi_sharp hh (fun h1 => absurd h1 hl.over) (fun _ => h)
theorem hadd_D4 (hh : A.handled = none) (hl : Sm d) (h : Q (.float (D4 m l d) s.toks) { s with toks := s.toks + 1 }) :
    wpAny (model prog w) A (binaryOp .Add (.float (D3 m l) t) (.int d u)) Q E s :=
  add_fi_sharp hh (fun h1 => absurd h1 hl.over) (fun _ => h)
theorem hfloor_D4 (hh : A.handled = none) (h1 : 1 ≤ m) (h2 : m ≤ 12) (h3 : -2 ≤ l) (h4 : l ≤ 0) (h5 : 1 ≤ d) (h6 : d ≤ 31)
    (h : Q (.int ((367 * m - 362) / 12 + l + d) s.toks) { s with toks := s.toks + 1 }) : wpAny (model prog w) A (call (.builtin "math.floor") [.float (D4 m l d) t]) Q E s := by
  obtain ⟨sg, k, e, hd, hf⟩ := d4_spec h1 h2 h3 h4 h5 h6
  have hx := finite_of_dec hd
  refine call_floor_float hh (fun h1 => ?_) (fun h1 => ?_) (fun _ => ?_)
  · rw [hx.1] at h1; exact absurd h1 (by decide)
  · rw [hx.2] at h1; exact absurd h1 (by decide)
  · rw [toInt_fin hd, hf]; exact h
end
theorem in_thirty {K : Frag} {h₀ : Heap} {L l : Addr} {mm : Str → Option Value} {t1 t2 t3 t4 : Tok} {dd : Option Addr} {sl : Array (Option Value)} {n : Nat} {prog : Program} {w : World} {A : Around} {E : Value → Shared → Prop} {s : Shared} {x : Int} {u : Tok} {Q : Value → Shared → Prop}
    (F : Fr h₀ L s.heap mm) (X₀ : K.In h₀) (hl : K.lookup l = some ⟨.type "tuple", dd, .seq [.int 4 t1, .int 6 t2, .int 9 t3, .int 11 t4].toArray n, sl⟩)
    (h : Q (.bool (decide (x = 4 ∨ x = 6 ∨ x = 9 ∨ x = 11))) s) : wpAny (model prog w) A (compareOp .In (.int x u) (.ref l)) Q E s := by
  refine in_tuple_ints (ns := [4, 6, 9, 11]) (tupK (X₀.keeps F.keep) hl) ?_ ?_
  · exact .cons _ _ (.cons _ _ (.cons _ _ (.cons _ _ .nil)))
  · have : ([4, 6, 9, 11].any fun y : Int => y == x) = decide (x = 4 ∨ x = 6 ∨ x = 9 ∨ x = 11) := by
      rw [Bool.eq_iff_iff]; simp only [List.any_cons, List.any_nil, Bool.or_eq_true, beq_iff_eq, Bool.or_false, decide_eq_true_eq]; omega
    rw [this]; exact h
/-- the Gregorian rule and count -/
def LeapG (y : Int) : Prop := y % 4 = 0 ∧ (y % 100 ≠ 0 ∨ y % 400 = 0)
def decG (y : Int) : Decidable (LeapG y) := by unfold LeapG; infer_instance
def isLeap (y : Int) : Bool := @decide (LeapG y) (decG y)
def lp (y : Int) : Int := @ite Int (LeapG y) (decG y) 1 0
def la (y m : Int) : Int := if m ≤ 2 then 0 else lp y - 2
def gday (y m d : Int) : Int := 1721425 + 365 * (y - 1) + (y - 1) / 4 - (y - 1) / 100 + (y - 1) / 400 + (367 * m - 362) / 12 + la y m + d
def GV (y m d : Int) : Prop := 1 ≤ y ∧ y ≤ 20000000 ∧ 1 ≤ m ∧ m ≤ 12 ∧ 1 ≤ d ∧ d ≤ 31 ∧ (m = 2 → d ≤ 28 + lp y) ∧ (m = 4 ∨ m = 6 ∨ m = 9 ∨ m = 11 → d ≤ 30)
def GD (n y m d : Int) : Prop := GV y m d ∧ n = gday y m d
theorem lp_cases (y : Int) : (lp y = 1 ∧ LeapG y) ∨ (lp y = 0 ∧ ¬ LeapG y) := by
  unfold lp; by_cases h : LeapG y
  · exact .inl ⟨if_pos h, h⟩
  · exact .inr ⟨if_neg h, h⟩
theorem la_cases (y m : Int) : (m ≤ 2 ∧ la y m = 0) ∨ (2 < m ∧ la y m = lp y - 2) := by
  unfold la; by_cases h : m ≤ 2
  · exact .inl ⟨h, if_pos h⟩
  · exact .inr ⟨by omega, if_neg h⟩
theorem isLeap_lp {y : Int} (h : isLeap y = true) : lp y = 1 := if_pos (@of_decide_eq_true _ (decG y) h)
theorem isLeap_lp0 {y : Int} (h : isLeap y = false) : lp y = 0 := if_neg (@of_decide_eq_false _ (decG y) h)
theorem isLeap_eq {y : Int} {b : Bool} (h : b = true ↔ LeapG y) : b = isLeap y := by
  rw [Bool.eq_iff_iff, h]; unfold isLeap; exact (@decide_eq_true_iff _ (decG y)).symm
end Mine

end
section
set_option maxRecDepth 100000
namespace Mine
open PySem PySem.W PySem.Spec PySem.Calls PyProof.Rows PySem.Flt PySem.AutoFloatOps
section
variable {prog : Program} {w : World} {A : Around} {E : Value → Shared → Prop} {s : Shared} {t u : Tok} {Q : Value → Shared → Prop} {x y : UInt64} {a b n : Int}
/-- the same with the whole part, the rest named by the prover -/
theorem vfloor_D (q : Int) (hh : A.handled = none) (ha : 0 ≤ a) (hb : 0 < b) (ha2 : a < b * 2147483648) (hb2 : b < 4194304) (h1 : b * q ≤ a) (h2 : a < b * q + b) (h : Q (.int q s.toks) { s with toks := s.toks + 1 }) :
    wpAny (model prog w) A (call (.builtin "math.floor") [.float (D a b) t]) Q E s := by
  have e : a / b = q := by
    refine Int.le_antisymm (Int.lt_add_one_iff.mp (Int.ediv_lt_of_lt_mul hb ?_)) (Int.le_ediv_of_mul_le hb ?_)
    · rw [Int.add_mul, Int.one_mul, Int.mul_comm]; exact h2
    · rw [Int.mul_comm]; exact h1
  exact hfloor_D hh ha hb ha2 hb2 (by rw [e]; exact h)
theorem vtrunc_D (q : Int) (hh : A.handled = none) (ha : 0 ≤ a) (hb : 0 < b) (ha2 : a < b * 2147483648) (hb2 : b < 4194304) (h1 : b * q ≤ a) (h2 : a < b * q + b) (h : Q (.int q s.toks) { s with toks := s.toks + 1 }) :
    wpAny (model prog w) A (call (.builtin "math.trunc") [.float (D a b) t]) Q E s := by
  have e : a / b = q := by
    refine Int.le_antisymm (Int.lt_add_one_iff.mp (Int.ediv_lt_of_lt_mul hb ?_)) (Int.le_ediv_of_mul_le hb ?_)
    · rw [Int.add_mul, Int.one_mul, Int.mul_comm]; exact h2
    · rw [Int.mul_comm]; exact h1
  exact htrunc_D hh ha hb ha2 hb2 (by rw [e]; exact h)
theorem emod_is {a b r q : Int} (h0 : 0 ≤ r) (h1 : r < b) (h2 : a = b * q + r) : a % b = r := by
  rw [h2, Int.add_comm, Int.add_mul_emod_self_left]; exact Int.emod_eq_of_lt h0 h1
theorem vmod_fi (r q : Int) (hh : A.handled = none) (hx : x = H a) (ha : 0 ≤ a) (hb : 0 < n) (ha2 : Sm a) (hb2 : Sm (2 * n)) (h0 : 0 ≤ r) (h1 : r < 2 * n) (h2 : a = 2 * n * q + r)
    (h : Q (.float (H r) s.toks) { s with toks := s.toks + 1 }) : wpAny (model prog w) A (binaryOp .Mod (.float x t) (.int n u)) Q E s :=
  hmod_fi hh hx ha hb ha2 hb2 (by rw [emod_is h0 h1 h2]; exact h)
theorem vmod_ff (r q : Int) (hh : A.handled = none) (hx : x = H a) (hy : y = H b) (ha : 0 ≤ a) (hb : 0 < b) (ha2 : Sm a) (hb2 : Sm b) (h0 : 0 ≤ r) (h1 : r < b) (h2 : a = b * q + r)
    (h : Q (.float (H r) s.toks) { s with toks := s.toks + 1 }) : wpAny (model prog w) A (binaryOp .Mod (.float x t) (.float y u)) Q E s :=
  hmod_ff hh hx hy ha hb ha2 hb2 (by rw [emod_is h0 h1 h2]; exact h)
end
/-- the day of the year, from nought -/
theorem doy_bounds {y m d : Int} (h : GV y m d) : 1 ≤ (367 * m - 362) / 12 + la y m + d ∧ (367 * m - 362) / 12 + la y m + d ≤ 365 + lp y := by
  obtain ⟨v1, v2, v3, v4, v5, v6, v7, v8⟩ := h
  have h1 := la_cases y m
  have h2 := lp_cases y
  have h3 : m = 1 ∨ m = 2 ∨ m = 3 ∨ m = 4 ∨ m = 5 ∨ m = 6 ∨ m = 7 ∨ m = 8 ∨ m = 9 ∨ m = 10 ∨ m = 11 ∨ m = 12 := by omega
  rcases h3 with rfl | rfl | rfl | rfl | rfl | rfl | rfl | rfl | rfl | rfl | rfl | rfl <;> omega
theorem lp_digits {a b c d : Int} (hb : 0 ≤ b ∧ b ≤ 3) (hc : 0 ≤ c ∧ c ≤ 24) (hd : 0 ≤ d ∧ d ≤ 3) : LeapG (400 * a + 100 * b + 4 * c + d + 1) ↔ d = 3 ∧ (c ≠ 24 ∨ b = 3) := by
  unfold LeapG; omega
theorem g_steps {n y m d : Int} (hG : GD n y m d) : ∃ a ce qu yi r1 r2 r3 r4 : Int, n - 1721426 = 146097 * a + r1 ∧ 0 ≤ r1 ∧ r1 < 146097 ∧ r1 = 36524 * ce + r2 ∧ 0 ≤ r2 ∧ r2 < 36524 ∧ r2 = 1461 * qu + r3 ∧ 0 ≤ r3 ∧ r3 < 1461 ∧ r3 = 365 * yi + r4 ∧ 0 ≤ r4 ∧ r4 < 365 ∧
    0 ≤ a ∧ a ≤ 50000 ∧ 0 ≤ ce ∧ ce ≤ 4 ∧ 0 ≤ qu ∧ qu ≤ 24 ∧ 0 ≤ yi ∧ yi ≤ 4 ∧ ((ce = 4 ∨ yi = 4) → y = 400 * a + 100 * ce + 4 * qu + yi) ∧ (ce ≠ 4 ∧ yi ≠ 4 → y = 400 * a + 100 * ce + 4 * qu + yi + 1) := by
  obtain ⟨hv, hn⟩ := hG
  have hb := doy_bounds hv
  have hlp := lp_cases y
  obtain ⟨v1, v2, _⟩ := hv
  obtain ⟨a, b, c, e, ha, hb1, hc1, he1⟩ : ∃ a b c e : Int, y = 400 * a + 100 * b + 4 * c + e + 1 ∧ (0 ≤ b ∧ b ≤ 3) ∧ (0 ≤ c ∧ c ≤ 24) ∧ (0 ≤ e ∧ e ≤ 3) :=
    ⟨(y - 1) / 400, (y - 1) % 400 / 100, (y - 1) % 100 / 4, (y - 1) % 4, by omega, by omega, by omega, by omega⟩
  have hd1 := lp_digits (a := a) hb1 hc1 he1
  rw [← ha] at hd1
  have h4 : (y - 1) / 4 = 100 * a + 25 * b + c := by omega
  have h100 : (y - 1) / 100 = 4 * a + b := by omega
  have h400 : (y - 1) / 400 = a := by omega
  obtain ⟨p, hp⟩ : ∃ p, p = (367 * m - 362) / 12 + la y m + d := ⟨_, rfl⟩
  rw [← hp] at hb
  unfold gday at hn
  rw [h4, h100, h400] at hn
  have hn' : n = 1721425 + 365 * (y - 1) + (100 * a + 25 * b + c) - (4 * a + b) + a + p := by omega
  clear hn h4 h100 h400
  have hL : p = 366 → e = 3 ∧ (c ≠ 24 ∨ b = 3) := by
    intro h6
    rcases hlp with ⟨_, h8⟩ | ⟨h7, _⟩
    · exact hd1.mp h8
    · omega
  have hb' : 1 ≤ p ∧ p ≤ 366 := by omega
  clear hd1 hlp hp hb
  by_cases hA : e = 3 ∧ p = 366
  · by_cases hB : c = 24 ∧ b = 3
    · refine ⟨a, 4, 0, 0, 146096, 0, 0, 0, ?_⟩
      refine ⟨?_, ?_, ?_, ?_, ?_, ?_, ?_, ?_, ?_, ?_, ?_, ?_, ?_, ?_, ?_, ?_, ?_, ?_, ?_, ?_, ?_, ?_⟩ <;> omega
    · refine ⟨a, b, c, 4, 36524 * b + 1461 * c + 1460, 1461 * c + 1460, 1460, 0, ?_⟩
      refine ⟨?_, ?_, ?_, ?_, ?_, ?_, ?_, ?_, ?_, ?_, ?_, ?_, ?_, ?_, ?_, ?_, ?_, ?_, ?_, ?_, ?_, ?_⟩ <;> omega
  · refine ⟨a, b, c, e, 36524 * b + 1461 * c + 365 * e + (p - 1), 1461 * c + 365 * e + (p - 1), 365 * e + (p - 1), p - 1, ?_⟩
    refine ⟨?_, ?_, ?_, ?_, ?_, ?_, ?_, ?_, ?_, ?_, ?_, ?_, ?_, ?_, ?_, ?_, ?_, ?_, ?_, ?_, ?_, ?_⟩ <;> omega
/-- the month and the day by the package's way -/
theorem g_month {y m d : Int} (hv : GV y m d) (lj : Int) (p : Int) (hp : p = (367 * m - 362) / 12 + la y m + d - 1) (hl : (p < 58 + lp y ∧ lj = 0) ∨ (58 + lp y ≤ p ∧ lj = 2 - lp y)) : ((p + lj) * 12 + 373) / 367 = m := by
  obtain ⟨v1, v2, v3, v4, v5, v6, v7, v8⟩ := hv
  have h1 := la_cases y m
  have h2 := lp_cases y
  have h3 : m = 1 ∨ m = 2 ∨ m = 3 ∨ m = 4 ∨ m = 5 ∨ m = 6 ∨ m = 7 ∨ m = 8 ∨ m = 9 ∨ m = 10 ∨ m = 11 ∨ m = 12 := by omega
  rcases h3 with rfl | rfl | rfl | rfl | rfl | rfl | rfl | rfl | rfl | rfl | rfl | rfl <;> omega
end Mine

end
section
set_option maxRecDepth 100000
namespace Mine
open PySem PySem.W PySem.Spec PySem.Calls PyProof.Rows
/-- the ways of a statement meet: one name holds one int, all else as it stood -/
def JI (nm : Str) (v : Int) (g : Heap) (L : Addr) (m : Str → Option Value) (news : Led) (s : Shared) (fl : Flow) (s' : Shared) : Prop :=
  ∃ t h tk, fl = .next ∧ s' = { s with heap := h, toks := tk } ∧ Fr g L h (fun y => if y = nm then some (.int v t) else m y) ∧ News g L h news
theorem join_int {M : Model} {A : Around} {E : Value → Shared → Prop} {Q : Flow → Shared → Prop} {s : Shared} {g : Heap} {L : Addr} {m : Str → Option Value} {news : Led} {c : Sem Flow} (nm : Str) (v : Int)
    (F : Fr g L s.heap m) (_N : News g L s.heap news)
    (hc : wpAny M A c (fun fl s' => JI nm v g L m news s fl s') E s)
    (hk : ∀ t h tk, Fr g L h (fun y => if y = nm then some (.int v t) else m y) → News g L h news → Q .next { s with heap := h, toks := tk }) : wpAny M A c Q E s := by
  refine wpAny_mono hc (fun fl s₂ hq => ?_) fun _ _ h => h
  obtain ⟨t, h, tk, hv, hs, F, N⟩ := hq
  subst hv
  subst hs
  exact hk t h tk F N
section
variable {g h : Heap} {L : Addr} {m : Str → Option Value} {news : Led} {s s' : Shared} {nm : Str} {v v' : Int} {t : Tok} {tk : Nat}
theorem ji_end1 (F : Fr g L h (fun y => if y = nm then some (.int v' t) else m y)) (N : News g L h news) (e : v' = v) (hs : s' = { s with heap := h, toks := tk }) : JI nm v g L m news s .next s' := by
  subst e; exact ⟨t, h, tk, rfl, hs, F, N⟩
theorem ji_end2 (F : Fr g L h m) (N : News g L h news) (hm : m nm = some (.int v' t)) (e : v' = v) (hs : s' = { s with heap := h, toks := tk }) : JI nm v g L m news s .next s' := by
  subst e
  refine ⟨t, h, tk, rfl, hs, ?_, N⟩
  have : (fun y => if y = nm then some (.int v' t) else m y) = m := by
    funext y
    by_cases hy : y = nm
    · rw [if_pos hy, hy, hm]
    · rw [if_neg hy]
  rw [this]; exact F
end
end Mine

end
section
set_option maxRecDepth 100000
namespace Mine
open PySem PySem.W PySem.Spec PySem.Calls PyProof.Rows PySem.Flt PySem.AutoFloatOps
/-- a long year by the ways, and the count of long years before -/
def Lg (way y : Int) : Prop := (way = 0 ∧ y % 4 = 3) ∨ (way ≠ 0 ∧ y < 13 ∧ (y = 3 ∨ y = 7 ∨ y = 11)) ∨ (way = 1 ∧ 13 ≤ y ∧ (y % 400 = 0 ∨ (y % 4 = 0 ∧ y % 100 ≠ 0))) ∨ (way = 2 ∧ y = 15) ∨ (way = 2 ∧ 20 ≤ y ∧ y % 4 = 0 ∧ y % 128 ≠ 0)
def decL (w y : Int) : Decidable (Lg w y) := by unfold Lg; infer_instance
def long (way y : Int) : Bool := @decide (Lg way y) (decL way y)
def lo (way y : Int) : Int := @ite Int (Lg way y) (decL way y) 1 0
def C (way y : Int) : Int := if way = 0 then y / 4 else if way = 1 then (if y < 13 then y / 4 else (y - 1) / 4 - (y - 1) / 100 + (y - 1) / 400) else (if y < 17 then y / 4 else (y - 1) / 4 - (y - 1) / 128)
def F (way y : Int) : Int := 2375840 + 365 * (y - 1) + C way y
theorem long_eq {way y : Int} {b : Bool} (h : b = true ↔ Lg way y) : b = long way y := by
  rw [Bool.eq_iff_iff, h]; unfold long; exact (@decide_eq_true_iff _ (decL way y)).symm
theorem lo_cases (way y : Int) : (lo way y = 1 ∧ Lg way y ∧ long way y = true) ∨ (lo way y = 0 ∧ ¬ Lg way y ∧ long way y = false) := by
  unfold lo long; by_cases h : Lg way y
  · exact .inl ⟨if_pos h, h, @decide_eq_true _ (decL way y) h⟩
  · exact .inr ⟨if_neg h, h, @decide_eq_false _ (decL way y) h⟩
theorem C0 (y : Int) : C 0 y = y / 4 := rfl
theorem C1 (y : Int) : (y < 13 ∧ C 1 y = y / 4) ∨ (13 ≤ y ∧ C 1 y = (y - 1) / 4 - (y - 1) / 100 + (y - 1) / 400) := by
  unfold C; by_cases h : y < 13
  · exact .inl ⟨h, by rw [if_neg (by decide), if_pos rfl, if_pos h]⟩
  · exact .inr ⟨by omega, by rw [if_neg (by decide), if_pos rfl, if_neg h]⟩
theorem C2 (y : Int) : (y < 17 ∧ C 2 y = y / 4) ∨ (17 ≤ y ∧ C 2 y = (y - 1) / 4 - (y - 1) / 128) := by
  unfold C; by_cases h : y < 17
  · exact .inl ⟨h, by rw [if_neg (by decide), if_neg (by decide), if_pos h]⟩
  · exact .inr ⟨by omega, by rw [if_neg (by decide), if_neg (by decide), if_neg h]⟩
/-- the years that the package counts as the ways do -/
def Good (way y : Int) : Prop := 1 ≤ y ∧ y ≤ 10000100 ∧ (way = 1 → y ≤ 4000 ∧ ((y - 1) % 100 < 12 → (y - 1) / 100 % 4 = 0)) ∧ (way = 2 → 17 ≤ y → 16 ≤ (y - 1) % 128)
/-- a day of the year y, its number n -/
def FD (way n y m d : Int) : Prop := Good way y ∧ 1 ≤ m ∧ m ≤ 13 ∧ 1 ≤ d ∧ d ≤ 30 ∧ (m = 13 → d ≤ 5 + lo way y) ∧ n = F way y + 30 * (m - 1) + d - 1
/-- the day that from_jd misses -/
def Told (way y m d : Int) : Prop := way = 1 → y % 400 = 12 → m = 13 → d ≤ 5
section
variable {prog : Program} {w : World} {A : Around} {E : Value → Shared → Prop} {s : Shared} {t u : Tok} {Q : Value → Shared → Prop} {x : Int}
theorem hadd_lo {way y n : Int} (h : Q (.int (n + lo way y) s.toks) { s with toks := s.toks + 1 }) : wpAny (model prog w) A (binaryOp .Add (.int n t) (.bool (long way y))) Q E s := by
  refine add_int_bool ?_
  have : (if long way y = true then (1 : Int) else 0) = lo way y := by
    rcases lo_cases way y with ⟨h1, _, h2⟩ | ⟨h1, _, h2⟩ <;> rw [h1, h2] <;> rfl
  rw [this]; exact h
theorem any_3711 : ([3, 7, 11].any fun y : Int => y == x) = decide (x = 3 ∨ x = 7 ∨ x = 11) := by
  rw [Bool.eq_iff_iff]; simp only [List.any_cons, List.any_nil, Bool.or_eq_true, beq_iff_eq, Bool.or_false, decide_eq_true_eq]; omega
theorem in_tup3 {l : Addr} {t1 t2 t3 : Tok} (hl : IsTup s.heap l #[.int 3 t1, .int 7 t2, .int 11 t3])
    (h : Q (.bool (decide (x = 3 ∨ x = 7 ∨ x = 11))) s) : wpAny (model prog w) A (compareOp .In (.int x u) (.ref l)) Q E s := by
  refine in_tuple_ints (ns := [3, 7, 11]) hl (.cons _ _ (.cons _ _ (.cons _ _ .nil))) ?_
  rw [any_3711]; exact h
theorem in_lst3 {l : Addr} {t1 t2 t3 : Tok} (hl : s.heap.IsList l #[.int 3 t1, .int 7 t2, .int 11 t3])
    (h : Q (.bool (decide (x = 3 ∨ x = 7 ∨ x = 11))) s) : wpAny (model prog w) A (compareOp .In (.int x u) (.ref l)) Q E s := by
  refine in_list_ints hl (.cons _ _ (.cons _ _ (.cons _ _ .nil))) ?_
  rw [any_3711]; exact h
end
end Mine

end
section
set_option maxRecDepth 100000
namespace Mine
open PySem PySem.W PySem.Spec PySem.Calls PyProof.Rows
/-- the ways of a statement meet: method holds a name of the first way, all else as it stood -/
def JN (g : Heap) (L : Addr) (m : Str → Option Value) (news : Led) (s : Shared) (fl : Flow) (s' : Shared) : Prop :=
  ∃ v h tk, fl = .next ∧ s' = { s with heap := h, toks := tk } ∧ IsNm 0 v ∧ Fr g L h (fun y => if y = Str.ofString "method" then some v else m y) ∧ News g L h news
theorem join_nm {M : Model} {A : Around} {E : Value → Shared → Prop} {Q : Flow → Shared → Prop} {s : Shared} {g : Heap} {L : Addr} {m : Str → Option Value} {news : Led} {c : Sem Flow}
    (_F : Fr g L s.heap m) (_N : News g L s.heap news)
    (hc : wpAny M A c (fun fl s' => JN g L m news s fl s') E s)
    (hk : ∀ v h tk, IsNm 0 v → Fr g L h (fun y => if y = Str.ofString "method" then some v else m y) → News g L h news → Q .next { s with heap := h, toks := tk }) : wpAny M A c Q E s := by
  refine wpAny_mono hc (fun fl s₂ hq => ?_) fun _ _ h => h
  obtain ⟨v, h, tk, hv, hs, hN, F, N⟩ := hq
  subst hv
  subst hs
  exact hk v h tk hN F N
/-- the ways of a statement meet: all stands as it stood -/
def JS (g : Heap) (L : Addr) (m : Str → Option Value) (news : Led) (s : Shared) (fl : Flow) (s' : Shared) : Prop :=
  ∃ h tk, fl = .next ∧ s' = { s with heap := h, toks := tk } ∧ Fr g L h m ∧ News g L h news
theorem join_skip {M : Model} {A : Around} {E : Value → Shared → Prop} {Q : Flow → Shared → Prop} {s : Shared} {g : Heap} {L : Addr} {m : Str → Option Value} {news : Led} {c : Sem Flow}
    (_F : Fr g L s.heap m) (_N : News g L s.heap news)
    (hc : wpAny M A c (fun fl s' => JS g L m news s fl s') E s)
    (hk : ∀ h tk, Fr g L h m → News g L h news → Q .next { s with heap := h, toks := tk }) : wpAny M A c Q E s := by
  refine wpAny_mono hc (fun fl s₂ hq => ?_) fun _ _ h => h
  obtain ⟨h, tk, hv, hs, F, N⟩ := hq
  subst hv
  subst hs
  exact hk h tk F N
section
variable {g h : Heap} {L : Addr} {m : Str → Option Value} {news news' : Led} {s s' : Shared} {v : Value} {t : Tok} {tk : Nat}
theorem js_end (F : Fr g L h m) (N : News g L h news') (hn : ∀ p ∈ news, p ∈ news') (hs : s' = { s with heap := h, toks := tk }) : JS g L m news s .next s' :=
  ⟨h, tk, rfl, hs, F, fun p hp => N p (hn p hp)⟩
theorem jn_end1 (F : Fr g L h (fun y => if y = Str.ofString "method" then some v else m y)) (N : News g L h news') (hn : ∀ p ∈ news, p ∈ news') (hv : IsNm 0 v) (hs : s' = { s with heap := h, toks := tk }) : JN g L m news s .next s' :=
  ⟨v, h, tk, rfl, hs, hv, F, fun p hp => N p (hn p hp)⟩
theorem jn_end2 (F : Fr g L h m) (N : News g L h news') (hn : ∀ p ∈ news, p ∈ news') (hm : m (Str.ofString "method") = some v) (hv : IsNm 0 v) (hs : s' = { s with heap := h, toks := tk }) : JN g L m news s .next s' := by
  refine ⟨v, h, tk, rfl, hs, hv, ?_, fun p hp => N p (hn p hp)⟩
  have : (fun y => if y = Str.ofString "method" then some v else m y) = m := by
    funext y
    by_cases hy : y = Str.ofString "method"
    · rw [if_pos hy, hy, hm]
    · rw [if_neg hy]
  rw [this]; exact F
end
end Mine

end
section
set_option maxRecDepth 100000
namespace Mine
open PySem PySem.W PySem.Spec PySem.Calls PyProof.Rows
/-- the ways of a statement meet: one name holds a value of which P is so, all else as it stood -/
def JV (nm : Str) (P : Value → Prop) (g : Heap) (L : Addr) (m : Str → Option Value) (news : Led) (s : Shared) (fl : Flow) (s' : Shared) : Prop :=
  ∃ v h tk, fl = .next ∧ s' = { s with heap := h, toks := tk } ∧ P v ∧ Fr g L h (fun y => if y = nm then some v else m y) ∧ News g L h news
theorem join_val {M : Model} {A : Around} {E : Value → Shared → Prop} {Q : Flow → Shared → Prop} {s : Shared} {g : Heap} {L : Addr} {m : Str → Option Value} {news : Led} {c : Sem Flow} (nm : Str) (P : Value → Prop)
    (_F : Fr g L s.heap m) (_N : News g L s.heap news)
    (hc : wpAny M A c (fun fl s' => JV nm P g L m news s fl s') E s)
    (hk : ∀ v h tk, P v → Fr g L h (fun y => if y = nm then some v else m y) → News g L h news → Q .next { s with heap := h, toks := tk }) : wpAny M A c Q E s := by
  refine wpAny_mono hc (fun fl s₂ hq => ?_) fun _ _ h => h
  obtain ⟨v, h, tk, hv, hs, hP, F, N⟩ := hq
  subst hv
  subst hs
  exact hk v h tk hP F N
section
variable {g h : Heap} {L : Addr} {m : Str → Option Value} {news news' : Led} {s s' : Shared} {nm : Str} {P : Value → Prop} {v : Value} {t : Tok} {tk : Nat}
theorem jv_end1 (F : Fr g L h (fun y => if y = nm then some v else m y)) (N : News g L h news') (hn : ∀ p ∈ news, p ∈ news') (hv : P v) (hs : s' = { s with heap := h, toks := tk }) : JV nm P g L m news s .next s' :=
  ⟨v, h, tk, rfl, hs, hv, F, fun p hp => N p (hn p hp)⟩
theorem jv_end2 (F : Fr g L h m) (N : News g L h news') (hn : ∀ p ∈ news, p ∈ news') (hm : m nm = some v) (hv : P v) (hs : s' = { s with heap := h, toks := tk }) : JV nm P g L m news s .next s' := by
  refine ⟨v, h, tk, rfl, hs, hv, ?_, fun p hp => N p (hn p hp)⟩
  have : (fun y => if y = nm then some v else m y) = m := by
    funext y
    by_cases hy : y = nm
    · rw [if_pos hy, hy, hm]
    · rw [if_neg hy]
  rw [this]; exact F
end
/-- the script's numbers, made small -/
theorem numbers_ok {ws : List Value} {g : Int → Int} {ns : List Int} (hI : IntsAre ws (List.map g (List.take 6 ns) ++ [0, 0, 0, 0, 0, 0])) (hg : ∀ k, -10000000 < g k ∧ g k < 10000000) :
    ∃ vs : List Int, IntsAre ws vs ∧ 6 ≤ vs.length ∧ ∀ i : Nat, -10000000 < vs.getD i 0 ∧ vs.getD i 0 < 10000000 := by
  refine ⟨_, hI, ?_, fun i => ?_⟩
  · rw [List.length_append]; simp only [List.length_cons, List.length_nil]; omega
  · have hall : ∀ x ∈ List.map g (List.take 6 ns) ++ [0, 0, 0, 0, 0, 0], -10000000 < x ∧ x < 10000000 := by
      intro x hx
      rcases List.mem_append.mp hx with hx | hx
      · obtain ⟨k, _, rfl⟩ := List.mem_map.mp hx
        exact hg k
      · simp only [List.mem_cons, List.mem_nil_iff, or_false, or_self] at hx
        omega
    generalize List.map g (List.take 6 ns) ++ [0, 0, 0, 0, 0, 0] = vs at *
    by_cases hi : i < vs.length
    · have e : vs.getD i 0 = vs[i] := by simp [List.getD, hi]
      rw [e]; exact hall _ (List.getElem_mem hi)
    · have e : vs.getD i 0 = 0 := by simp [List.getD, hi]
      rw [e]; omega
theorem isNm_int {way : Int} {a : Int} {t : Tok} (h : 0 ≤ way ∧ way ≤ 2) (ha : a = nmI way) : IsNm way (.int a t) := .inl ⟨h.1, h.2, t, by rw [ha]⟩
theorem isNm_str {way : Int} {a : Str} {t : Tok} (h : 0 ≤ way ∧ way ≤ 2) (ha : a = nmS way) : IsNm way (.str a t) := .inr ⟨h.1, by omega, t, by rw [ha]⟩
/-- what a day is asked for: its number, or refused -/
def DueIs (way y m d : Int) (v : Value) : Prop := (∃ n t, FD way n y m d ∧ v = .float (H (2 * n - 1)) t) ∨ ((∀ n, ¬ FD way n y m d) ∧ ∃ t, v = .str (Str.ofString "refused") t)
theorem due_eq {way y m d : Int} {v u : Value} (hv : DueIs way y m d v) (hu : DueIs way y m d u) : (∃ n t t', FD way n y m d ∧ v = .float (H (2 * n - 1)) t ∧ u = .float (H (2 * n - 1)) t') ∨ (∃ t t', v = .str (Str.ofString "refused") t ∧ u = .str (Str.ofString "refused") t') := by
  rcases hv with ⟨n, t, h, rfl⟩ | ⟨h, t, rfl⟩ <;> rcases hu with ⟨n', t', h', rfl⟩ | ⟨h', t', rfl⟩
  · refine .inl ⟨n, t, t', h, rfl, ?_⟩
    have : n' = n := by rw [h.2.2.2.2.2.2, h'.2.2.2.2.2.2]
    rw [this]
  · exact absurd h (h' n)
  · exact absurd h' (h n')
  · exact .inr ⟨t, t', rfl, rfl⟩
theorem F_small {way n y m d : Int} (h : FD way n y m d) (hw : 0 ≤ way ∧ way ≤ 2) : Sm (2 * n - 1) := by
  obtain ⟨⟨g1, g2, _, _⟩, v1, v2, v3, v4, _, hn⟩ := h
  have h0 := C0 y
  have h1 := C1 y
  have h2 := C2 y
  unfold F at hn
  have : way = 0 ∨ way = 1 ∨ way = 2 := by omega
  rcases this with rfl | rfl | rfl <;> exact ⟨by omega, by omega⟩
theorem F_bd {way y : Int} (h : Good way y) (hw : 0 ≤ way ∧ way ≤ 2) : 2375840 ≤ F way y ∧ F way y ≤ 4000000000 := by
  obtain ⟨g1, g2, _, _⟩ := h
  have h0 := C0 y
  have h1 := C1 y
  have h2 := C2 y
  unfold F
  have : way = 0 ∨ way = 1 ∨ way = 2 := by omega
  rcases this with rfl | rfl | rfl <;> omega
section
variable {prog : Program} {w : World} {A : Around} {E : Value → Shared → Prop} {s : Shared} {t u : Tok} {Q : Value → Shared → Prop} {way y m d : Int} {v v' : Value}
theorem ne_due (hw : 0 ≤ way ∧ way ≤ 2) (hv : DueIs way y m d v) (hu : DueIs way y m d v') (h : Q (.bool false) s) : wpAny (model prog w) A (compareOp .NotEq v v') Q E s := by
  rcases due_eq hv hu with ⟨n, t, t', hF, rfl, rfl⟩ | ⟨t, t', rfl, rfl⟩
  · have hs := F_small hF hw
    refine hne_ff rfl rfl hs hs ?_
    have e : decide ((2 * n - 1 : Int) ≠ 2 * n - 1) = false := by simp
    rw [e]; exact h
  · refine ne_str ?_
    have e : (Str.ofString "refused" != Str.ofString "refused") = false := by decide +kernel
    rw [e]; exact h
theorem ne_same {b : Bool} (h : Q (.bool false) s) : wpAny (model prog w) A (compareOp .NotEq (.bool b) (.bool b)) Q E s := by
  refine ne_bool ?_
  have e : (b != b) = false := by cases b <;> rfl
  rw [e]; exact h
end
end Mine

end
section
set_option maxRecDepth 100000
namespace Mine
open PySem PySem.W PySem.Spec PySem.Calls PyProof.Rows
def monthOf (p l : Int) : Int := ((p + (if p < 58 + l then 0 else 2 - l)) * 12 + 373) / 367
def dayOf (p l : Int) : Int := p + 1 - ((367 * monthOf p l - 362) / 12 + (if monthOf p l ≤ 2 then 0 else l - 2))
theorem month_all : ∀ p : Fin 366, ∀ l : Fin 2, p.val < 365 + l.val → (1 ≤ monthOf p.val l.val ∧ monthOf p.val l.val ≤ 12 ∧ 1 ≤ dayOf p.val l.val ∧ dayOf p.val l.val ≤ 31 ∧ (monthOf p.val l.val = 2 → dayOf p.val l.val ≤ 28 + l.val) ∧
    (monthOf p.val l.val = 4 ∨ monthOf p.val l.val = 6 ∨ monthOf p.val l.val = 9 ∨ monthOf p.val l.val = 11 → dayOf p.val l.val ≤ 30)) := by decide +kernel
theorem g_exists {n : Int} (h1 : 1721426 ≤ n) (h2 : n ≤ 7000000000) : ∃ Y M Z, GD n Y M Z := by
  obtain ⟨a, r1, hr1, hr2, hr3⟩ : ∃ a r1 : Int, n - 1721426 = 146097 * a + r1 ∧ 0 ≤ r1 ∧ r1 < 146097 := ⟨(n - 1721426) / 146097, (n - 1721426) % 146097, by omega, by omega, by omega⟩
  obtain ⟨b, c, e, p, hb, hc, he, hp, hd, hL⟩ : ∃ b c e p : Int, (0 ≤ b ∧ b ≤ 3) ∧ (0 ≤ c ∧ c ≤ 24) ∧ (0 ≤ e ∧ e ≤ 3) ∧ (0 ≤ p ∧ p ≤ 365) ∧ r1 = 36524 * b + 1461 * c + 365 * e + p ∧ (p = 365 → e = 3 ∧ (c ≠ 24 ∨ b = 3)) := by
    by_cases hA : r1 = 146096
    · exact ⟨3, 24, 3, 365, by omega, by omega, by omega, by omega, by omega, fun _ => by omega⟩
    · obtain ⟨b, r2, hb1, hb2, hb3⟩ : ∃ b r2 : Int, r1 = 36524 * b + r2 ∧ 0 ≤ r2 ∧ r2 < 36524 := ⟨r1 / 36524, r1 % 36524, by omega, by omega, by omega⟩
      obtain ⟨c, r3, hc1, hc2, hc3⟩ : ∃ c r3 : Int, r2 = 1461 * c + r3 ∧ 0 ≤ r3 ∧ r3 < 1461 := ⟨r2 / 1461, r2 % 1461, by omega, by omega, by omega⟩
      by_cases hB : r3 = 1460
      · exact ⟨b, c, 3, 365, by omega, by omega, by omega, by omega, by omega, fun _ => by omega⟩
      · exact ⟨b, c, r3 / 365, r3 % 365, by omega, by omega, by omega, by omega, by omega, fun h => by omega⟩
  have hy : ∀ Y : Int, Y = 400 * a + 100 * b + 4 * c + e + 1 → (Y - 1) / 4 = 100 * a + 25 * b + c ∧ (Y - 1) / 100 = 4 * a + b ∧ (Y - 1) / 400 = a := fun Y h => by omega
  have hlp := lp_digits (a := a) hb hc he
  refine ⟨400 * a + 100 * b + 4 * c + e + 1, monthOf p (lp (400 * a + 100 * b + 4 * c + e + 1)), dayOf p (lp (400 * a + 100 * b + 4 * c + e + 1)), ?_⟩
  obtain ⟨Y, hY⟩ : ∃ Y, Y = 400 * a + 100 * b + 4 * c + e + 1 := ⟨_, rfl⟩
  rw [← hY] at hlp ⊢
  have hl := lp_cases Y
  have hpl : p < 365 + lp Y := by
    by_cases h : p = 365
    · have h3 := hlp.mpr (hL h)
      rcases hl with ⟨h4, _⟩ | ⟨_, h5⟩
      · omega
      · exact absurd h3 h5
    · rcases hl with ⟨h4, _⟩ | ⟨h4, _⟩ <;> omega
  have hm := month_all ⟨p.toNat, by omega⟩ ⟨(lp Y).toNat, by omega⟩ (by simp only []; omega)
  simp only [] at hm
  rw [show ((p.toNat : Nat) : Int) = p from by omega, show (((lp Y).toNat : Nat) : Int) = lp Y from by omega] at hm
  obtain ⟨m1, m2, m3, m4, m5, m6⟩ := hm
  refine ⟨⟨by omega, by omega, m1, m2, m3, m4, m5, m6⟩, ?_⟩
  obtain ⟨q1, q2, q3⟩ := hy Y hY
  have hla : la Y (monthOf p (lp Y)) = if monthOf p (lp Y) ≤ 2 then 0 else lp Y - 2 := rfl
  unfold gday
  rw [q1, q2, q3, hla]
  unfold dayOf
  generalize (if monthOf p (lp Y) ≤ 2 then (0 : Int) else lp Y - 2) = k
  omega
theorem lo_one {way y : Int} (h : Lg way y) : lo way y = 1 := if_pos h
/-- a day of a year by its number in the year -/
theorem fd_of {way y p : Int} (hg : Good way y) (hp : 0 ≤ p) (hp2 : p ≤ 364 ∨ (p = 365 ∧ Lg way y)) : FD way (F way y + p) y (p / 30 + 1) (p % 30 + 1) := by
  have h := lo_cases way y
  refine ⟨hg, by omega, by omega, by omega, by omega, fun h13 => ?_, by omega⟩
  rcases hp2 with h1 | ⟨h1, h2⟩
  · rcases h with ⟨h3, _⟩ | ⟨h3, _⟩ <;> omega
  · rw [lo_one h2]; omega
theorem fr_exists {way P : Int} (hw : 0 ≤ way ∧ way ≤ 2) (hP : 0 ≤ P ∧ P ≤ 10000000) (h1 : way = 1 → P < 36524) (h2 : way = 2 → P < 46751) :
    ∃ y m d, FD way (2375840 + P) y m d ∧ Told way y m d ∧ (way = 0 ∨ y ≤ 128) := by
  have key : ∀ y p : Int, Good way y → 0 ≤ p → (p ≤ 364 ∨ (p = 365 ∧ Lg way y)) → 2375840 + P = F way y + p → (way = 1 → p = 365 → y % 400 ≠ 12) → (way = 0 ∨ y ≤ 128) → ∃ y m d, FD way (2375840 + P) y m d ∧ Told way y m d ∧ (way = 0 ∨ y ≤ 128) := by
    intro y p hg hp hp2 hn ht hy
    have h := fd_of hg hp hp2
    rw [← hn] at h
    refine ⟨y, p / 30 + 1, p % 30 + 1, h, fun e1 e2 e3 => ?_, hy⟩
    by_cases h6 : p = 365
    · exact absurd e2 (ht e1 h6)
    · omega
  -- by fours
  obtain ⟨q, r, p, hq, hr, hp, hJ, hL⟩ : ∃ q r p : Int, 0 ≤ q ∧ (0 ≤ r ∧ r ≤ 3) ∧ (0 ≤ p ∧ p ≤ 365) ∧ P + 365 = 1461 * q + 365 * r + p ∧ (p = 365 → r = 3) := by
    by_cases hB : (P + 365) % 1461 = 1460
    · exact ⟨(P + 365) / 1461, 3, 365, by omega, by omega, by omega, by omega, fun _ => rfl⟩
    · exact ⟨(P + 365) / 1461, (P + 365) % 1461 / 365, (P + 365) % 1461 % 365, by omega, by omega, by omega, by omega, fun h => by omega⟩
  have h : way = 0 ∨ way = 1 ∨ way = 2 := by omega
  rcases h with rfl | rfl | rfl
  · refine key (4 * q + r) p ⟨by omega, by omega, fun h => by omega, fun h => by omega⟩ hp.1 ?_ ?_ (fun h => by omega) (.inl rfl)
    · by_cases h6 : p = 365
      · exact .inr ⟨h6, .inl ⟨rfl, by have := hL h6; omega⟩⟩
      · exact .inl (by omega)
    · have := C0 (4 * q + r); unfold F; omega
  · have h1 := h1 rfl
    by_cases hs : P < 4383
    · have hyb : 1 ≤ 4 * q + r ∧ 4 * q + r ≤ 12 := by omega
      have e100 : (4 * q + r - 1) / 100 = 0 := by omega
      refine key (4 * q + r) p ⟨by omega, by omega, fun _ => ⟨by omega, fun _ => by rw [e100]; rfl⟩, fun h => by omega⟩ hp.1 ?_ ?_ (fun _ h => by have := hL h; omega) (.inr (by omega))
      · by_cases h6 : p = 365
        · exact .inr ⟨h6, .inr (.inl ⟨by omega, by omega, by have := hL h6; omega⟩)⟩
        · exact .inl (by omega)
      · have := C1 (4 * q + r); unfold F; omega
    · obtain ⟨c, e, p, hc, he, hp, hJ, hL⟩ : ∃ c e p : Int, 0 ≤ c ∧ (0 ≤ e ∧ e ≤ 3) ∧ (0 ≤ p ∧ p ≤ 365) ∧ P - 4383 = 1461 * c + 365 * e + p ∧ (p = 365 → e = 3) := by
        by_cases hB : (P - 4383) % 1461 = 1460
        · exact ⟨(P - 4383) / 1461, 3, 365, by omega, by omega, by omega, by omega, fun _ => rfl⟩
        · exact ⟨(P - 4383) / 1461, (P - 4383) % 1461 / 365, (P - 4383) % 1461 % 365, by omega, by omega, by omega, by omega, fun h => by omega⟩
      obtain ⟨y, hy⟩ : ∃ y, y = 4 * c + e + 13 := ⟨_, rfl⟩
      have hyb : 13 ≤ y ∧ y ≤ 100 := by omega
      have e4 : (y - 1) / 4 = c + 3 := by omega
      have e100 : (y - 1) / 100 = 0 := by omega
      have e400 : (y - 1) / 400 = 0 := by omega
      refine key y p ⟨by omega, by omega, fun _ => ⟨by omega, fun _ => by rw [e100]; rfl⟩, fun h => by omega⟩ hp.1 ?_ ?_ (fun _ h => by have := hL h; omega) (.inr (by omega))
      · by_cases h6 : p = 365
        · have := hL h6
          exact .inr ⟨h6, .inr (.inr (.inl ⟨rfl, by omega, by omega⟩))⟩
        · exact .inl (by omega)
      · have hC := C1 y
        rw [e4, e100, e400] at hC
        unfold F; omega
  · have h2 := h2 rfl
    by_cases hs : P < 6209
    · have hyb : 1 ≤ 4 * q + r ∧ 4 * q + r ≤ 17 := by omega
      refine key (4 * q + r) p ⟨by omega, by omega, fun h => by omega, fun _ h => by omega⟩ hp.1 ?_ ?_ (fun h => by omega) (.inr (by omega))
      · by_cases h6 : p = 365
        · have := hL h6
          by_cases h7 : 4 * q + r < 13
          · exact .inr ⟨h6, .inr (.inl ⟨by omega, h7, by omega⟩)⟩
          · exact .inr ⟨h6, .inr (.inr (.inr (.inl ⟨rfl, by omega⟩)))⟩
        · exact .inl (by omega)
      · have := C2 (4 * q + r); unfold F; omega
    · obtain ⟨c, e, p, hc, he, hp, hJ, hL⟩ : ∃ c e p : Int, 0 ≤ c ∧ (0 ≤ e ∧ e ≤ 3) ∧ (0 ≤ p ∧ p ≤ 365) ∧ P - 5844 = 1461 * c + 365 * e + p ∧ (p = 365 → e = 3) := by
        by_cases hB : (P - 5844) % 1461 = 1460
        · exact ⟨(P - 5844) / 1461, 3, 365, by omega, by omega, by omega, by omega, fun _ => rfl⟩
        · exact ⟨(P - 5844) / 1461, (P - 5844) % 1461 / 365, (P - 5844) % 1461 % 365, by omega, by omega, by omega, by omega, fun h => by omega⟩
      obtain ⟨y, hy⟩ : ∃ y, y = 4 * c + e + 17 := ⟨_, rfl⟩
      have hyb : 18 ≤ y ∧ y ≤ 128 := by omega
      have e4 : (y - 1) / 4 = c + 4 := by omega
      have e128 : (y - 1) / 128 = 0 := by omega
      refine key y p ⟨by omega, by omega, fun h => by omega, fun _ h => by omega⟩ hp.1 ?_ ?_ (fun h => by omega) (.inr (by omega))
      · by_cases h6 : p = 365
        · have := hL h6
          exact .inr ⟨h6, .inr (.inr (.inr (.inr ⟨rfl, by omega, by omega, by omega⟩)))⟩
        · exact .inl (by omega)
      · have hC := C2 y
        rw [e4, e128] at hC
        unfold F; omega
end Mine

end
open PySem.Spec PySem.Calls
namespace Mine
local macro_rules | `(tactic| ktr_rel) => `(tactic| first | (with_reducible exact rfl) | (with_reducible exact lit_3442851) | (with_reducible exact lit_4751679) | (with_reducible exact lit_730) | (with_reducible exact lit_2922) | (with_reducible exact lit_8) | (with_reducible exact lit_1) | (with_reducible exact lit_200) | (with_reducible exact lit_800) | (with_reducible exact lit_8000) | (with_reducible exact lit_60) | (with_reducible exact lit_3))
local macro_rules | `(tactic| ktn_open) => `(tactic| k_dflt (first | (with_reducible assumption) | decide | (law_clear; first | (with_reducible refine ⟨?_, ?_⟩ <;> omega) | omega)))
local macro_rules | `(tactic| walk_at "binaryOp Add float float") => `(tactic| (k_here; (with_reducible refine' hadd_ff ?e0 ?e1 ?b0 ?b1 ?_); (case e0 => ktr_rel); (case e1 => ktr_rel); (case b0 => ktn_open); (case b1 => ktn_open); k_whole; try dsimp only))
local macro_rules | `(tactic| walk_at "binaryOp Sub float float") => `(tactic| (k_here; (with_reducible refine' hsub_ff ?e0 ?e1 ?b0 ?b1 ?_); (case e0 => ktr_rel); (case e1 => ktr_rel); (case b0 => ktn_open); (case b1 => ktn_open); k_whole; try dsimp only))
local macro_rules | `(tactic| walk_at "binaryOp Add float int") => `(tactic| (k_here; (with_reducible refine' hadd_fi ?hh ?e0 ?b0 ?b1 ?_); (case hh => k_dflt (exact rfl)); (case e0 => ktr_rel); (case b0 => ktn_open); (case b1 => ktn_open); k_whole; try dsimp only))
local macro_rules | `(tactic| walk_at "binaryOp Add int float") => `(tactic| (k_here; (with_reducible refine' hadd_if ?hh ?e0 ?b0 ?b1 ?_); (case hh => k_dflt (exact rfl)); (case e0 => ktr_rel); (case b0 => ktn_open); (case b1 => ktn_open); k_whole; try dsimp only))
local macro_rules | `(tactic| walk_at "binaryOp Sub float int") => `(tactic| (k_here; (with_reducible refine' hsub_fi ?hh ?e0 ?b0 ?b1 ?_); (case hh => k_dflt (exact rfl)); (case e0 => ktr_rel); (case b0 => ktn_open); (case b1 => ktn_open); k_whole; try dsimp only))
local macro_rules | `(tactic| walk_at "binaryOp Sub int float") => `(tactic| (k_here; (with_reducible refine' hsub_if ?hh ?e0 ?b0 ?b1 ?_); (case hh => k_dflt (exact rfl)); (case e0 => ktr_rel); (case b0 => ktn_open); (case b1 => ktn_open); k_whole; try dsimp only))
local macro_rules | `(tactic| walk_at "binaryOp Mult int float") => `(tactic| (k_here; (with_reducible refine' hmul_if ?hh ?e0 ?b0 ?b1 ?b2 ?b3 ?b4 ?_); (case hh => k_dflt (exact rfl)); (case e0 => ktr_rel); (case b0 => ktn_open); (case b1 => ktn_open); (case b2 => ktn_open); (case b3 => ktn_open); (case b4 => ktn_open); k_whole; try dsimp only))
local macro_rules | `(tactic| walk_at "binaryOp Mult float int") => `(tactic| (k_here; (with_reducible refine' hmul_fi ?hh ?e0 ?b0 ?b1 ?b2 ?b3 ?b4 ?_); (case hh => k_dflt (exact rfl)); (case e0 => ktr_rel); (case b0 => ktn_open); (case b1 => ktn_open); (case b2 => ktn_open); (case b3 => ktn_open); (case b4 => ktn_open); k_whole; try dsimp only))
local macro_rules | `(tactic| walk_at "binaryOp Mult float float") => `(tactic| (k_here; (with_reducible refine' hmul_365 ?e0 ?e1 ?b0 ?b1 ?b2 ?_); (case e0 => ktr_rel); (case e1 => ktr_rel); (case b0 => ktn_open); (case b1 => ktn_open); (case b2 => ktn_open); k_whole; try dsimp only))
local macro_rules | `(tactic| walk_at "binaryOp Div float float") => `(tactic| (k_here; (with_reducible refine' hdiv_ff ?hh ?e0 ?e1 ?b0 ?b1 ?_); (case hh => k_dflt (exact rfl)); (case e0 => ktr_rel); (case e1 => ktr_rel); (case b0 => ktn_open); (case b1 => ktn_open); k_whole; try dsimp only))
local macro_rules | `(tactic| walk_at "binaryOp Div float int") => `(tactic| (k_here; (with_reducible refine' hdiv_fi ?hh ?e0 ?b0 ?b1 ?_); (case hh => k_dflt (exact rfl)); (case e0 => ktr_rel); (case b0 => ktn_open); (case b1 => ktn_open); k_whole; try dsimp only))
local macro_rules | `(tactic| walk_at "binaryOp Div int float") => `(tactic| (k_here; (with_reducible refine' hdiv_if ?hh ?e0 ?b0 ?b1 ?b2 ?_); (case hh => k_dflt (exact rfl)); (case e0 => ktr_rel); (case b0 => ktn_open); (case b1 => ktn_open); (case b2 => ktn_open); k_whole; try dsimp only))
local macro_rules | `(tactic| walk_at "binaryOp Div int int") => `(tactic| (k_here; (with_reducible refine' hdiv_ii ?hh ?b0 ?b1 ?_); (case hh => k_dflt (exact rfl)); (case b0 => ktn_open); (case b1 => ktn_open); k_whole; try dsimp only))
local macro_rules | `(tactic| walk_at "binaryOp Mod float float") => `(tactic| (k_here; (with_reducible refine' hmod_ff ?hh ?e0 ?e1 ?b0 ?b1 ?b2 ?b3 ?_); (case hh => k_dflt (exact rfl)); (case e0 => ktr_rel); (case e1 => ktr_rel); (case b0 => ktn_open); (case b1 => ktn_open); (case b2 => ktn_open); (case b3 => ktn_open); k_whole; try dsimp only))
local macro_rules | `(tactic| walk_at "binaryOp Mod float int") => `(tactic| (k_here; (with_reducible refine' hmod_fi ?hh ?e0 ?b0 ?b1 ?b2 ?b3 ?_); (case hh => k_dflt (exact rfl)); (case e0 => ktr_rel); (case b0 => ktn_open); (case b1 => ktn_open); (case b2 => ktn_open); (case b3 => ktn_open); k_whole; try dsimp only))
local macro_rules | `(tactic| walk_at "binaryOp Mod int float") => `(tactic| (k_here; (with_reducible refine' hmod_if ?hh ?e0 ?b0 ?b1 ?b2 ?b3 ?_); (case hh => k_dflt (exact rfl)); (case e0 => ktr_rel); (case b0 => ktn_open); (case b1 => ktn_open); (case b2 => ktn_open); (case b3 => ktn_open); k_whole; try dsimp only))
local macro_rules | `(tactic| walk_at "binaryOp Mod int int") => `(tactic| (k_here; (with_reducible refine' hmod_ii ?b0 ?_); (case b0 => ktn_open); k_whole; try dsimp only))
local macro_rules | `(tactic| walk_at "call builtin:math.floor") => `(tactic| (k_here; (with_reducible refine' hfloor_H ?hh ?e0 ?b0 ?b1 ?_); (case hh => k_dflt (exact rfl)); (case e0 => ktr_rel); (case b0 => ktn_open); (case b1 => ktn_open); k_whole; try dsimp only))
local macro_rules | `(tactic| walk_at "call builtin:math.floor") => `(tactic| (k_here; (with_reducible show wpAny _ _ (call _ [Value.float (D _ _) _]) _ _ _); (with_reducible refine' hfloor_D ?hh ?b0 ?b1 ?b2 ?b3 ?_); (case hh => k_dflt (exact rfl)); (case b0 => ktn_open); (case b1 => ktn_open); (case b2 => ktn_open); (case b3 => ktn_open); k_whole; try dsimp only))
local macro_rules | `(tactic| walk_at "call builtin:math.floor") => `(tactic| (k_here; (with_reducible show wpAny _ _ (call _ [Value.float (D2 _ _) _]) _ _ _); (with_reducible refine' hfloor_D2 ?hh ?b0 ?b1 ?b2 ?b3 ?_); (case hh => k_dflt (exact rfl)); (case b0 => ktn_open); (case b1 => ktn_open); (case b2 => ktn_open); (case b3 => ktn_open); k_whole; try dsimp only))
local macro_rules | `(tactic| walk_at "call builtin:math.trunc") => `(tactic| (k_here; (with_reducible refine' htrunc_H ?hh ?e0 ?b0 ?b1 ?_); (case hh => k_dflt (exact rfl)); (case e0 => ktr_rel); (case b0 => ktn_open); (case b1 => ktn_open); k_whole; try dsimp only))
local macro_rules | `(tactic| walk_at "call builtin:math.trunc") => `(tactic| (k_here; (with_reducible show wpAny _ _ (call _ [Value.float (D _ _) _]) _ _ _); (with_reducible refine' htrunc_D ?hh ?b0 ?b1 ?b2 ?b3 ?_); (case hh => k_dflt (exact rfl)); (case b0 => ktn_open); (case b1 => ktn_open); (case b2 => ktn_open); (case b3 => ktn_open); k_whole; try dsimp only))
local macro_rules | `(tactic| walk_at "call builtin:math.trunc") => `(tactic| (k_here; (with_reducible show wpAny _ _ (call _ [Value.float (D2 _ _) _]) _ _ _); (with_reducible refine' htrunc_D2 ?hh ?b0 ?b1 ?b2 ?b3 ?_); (case hh => k_dflt (exact rfl)); (case b0 => ktn_open); (case b1 => ktn_open); (case b2 => ktn_open); (case b3 => ktn_open); k_whole; try dsimp only))
local macro_rules | `(tactic| walk_at "call type:int") => `(tactic| (k_here; (with_reducible refine' hint_H ?hh ?e0 ?b0 ?b1 ?_); (case hh => k_dflt (exact rfl)); (case e0 => ktr_rel); (case b0 => ktn_open); (case b1 => ktn_open); k_whole; try dsimp only))
local macro_rules | `(tactic| walk_at "compareOp Lt float float") => `(tactic| (k_here; (with_reducible refine' hlt_ff ?e0 ?e1 ?b0 ?b1 ?_); (case e0 => ktr_rel); (case e1 => ktr_rel); (case b0 => ktn_open); (case b1 => ktn_open); k_whole; try dsimp only))
local macro_rules | `(tactic| walk_at "compareOp LtE float float") => `(tactic| (k_here; (with_reducible refine' hle_ff ?e0 ?e1 ?b0 ?b1 ?_); (case e0 => ktr_rel); (case e1 => ktr_rel); (case b0 => ktn_open); (case b1 => ktn_open); k_whole; try dsimp only))
local macro_rules | `(tactic| walk_at "compareOp Eq float float") => `(tactic| (k_here; (with_reducible refine' heq_ff ?e0 ?e1 ?b0 ?b1 ?_); (case e0 => ktr_rel); (case e1 => ktr_rel); (case b0 => ktn_open); (case b1 => ktn_open); k_whole; try dsimp only))
local macro_rules | `(tactic| walk_at "compareOp NotEq float float") => `(tactic| (k_here; (with_reducible refine' hne_ff ?e0 ?e1 ?b0 ?b1 ?_); (case e0 => ktr_rel); (case e1 => ktr_rel); (case b0 => ktn_open); (case b1 => ktn_open); k_whole; try dsimp only))
local macro_rules | `(tactic| walk_at "compareOp Lt float int") => `(tactic| (k_here; (with_reducible refine' hlt_fi ?e0 ?b0 ?_); (case e0 => ktr_rel); (case b0 => ktn_open); k_whole; try dsimp only))
local macro_rules | `(tactic| walk_at "compareOp Eq int int") => `(tactic| (k_here; (with_reducible refine' heq_ii ?_); k_whole; try dsimp only))
local macro_rules | `(tactic| walk_at "compareOp NotEq int int") => `(tactic| (k_here; (with_reducible refine' hne_ii ?_); k_whole; try dsimp only))
local macro_rules | `(tactic| walk_at "compareOp Eq int float") => `(tactic| (k_here; (with_reducible refine' heq_if ?e0 ?b0 ?_); (case e0 => ktr_rel); (case b0 => ktn_open); k_whole; try dsimp only))
local macro_rules | `(tactic| walk_at "binaryOp Add float int") => `(tactic| (k_here; (with_reducible first | refine' hadd_D3 ?hh ?b0 ?_ | refine' hadd_D4 ?hh ?b0 ?_); (case hh => k_dflt (exact rfl)); (case b0 => ktn_open); k_whole; try dsimp only))
local macro_rules | `(tactic| walk_at "call builtin:math.floor") => `(tactic| (k_here; (with_reducible refine' hfloor_D4 ?hh ?b0 ?b1 ?b2 ?b3 ?b4 ?b5 ?_); (case hh => k_dflt (exact rfl)); (case b0 => ktn_open); (case b1 => ktn_open); (case b2 => ktn_open); (case b3 => ktn_open); (case b4 => ktn_open); (case b5 => ktn_open); k_whole; try dsimp only))
local macro_rules | `(tactic| walk_at "compareOp In int ref") => `(tactic| (k_here; (with_reducible show wpAny _ _ (compareOp CmpOp.In (Value.int _ _) (Value.ref 43)) _ _ _); k_dflt (refine' in_thirty ?F ?X ?l ?_; (case F => k_asm); (case X => k_asm); (case l => k_is); k_whole); try dsimp only))
local macro_rules | `(tactic| walk_at "compareOp In int ref") => `(tactic| (k_here; (with_reducible show wpAny _ _ (compareOp CmpOp.In (Value.int _ _) (Value.ref _)) _ _ _); k_dflt (first | (refine' in_tup3 ?T ?_; (case T => exact News.isTup (by k_asm) (by k_mem)); k_whole) | (refine' in_lst3 ?T ?_; (case T => exact News.isList (by k_asm) (by k_mem)); k_whole)); try dsimp only))
local macro_rules | `(tactic| walk_at "truthy float") => `(tactic| (k_here; (with_reducible refine' htruthy_H ?e0 ?b0 ?b1 ?_); (case e0 => ktr_rel); (case b0 => ktn_open); (case b1 => ktn_open); k_whole; try dsimp only))
local macro_rules | `(tactic| walk_at "binaryOp Add int bool") => `(tactic| (k_here; (with_reducible refine' hadd_lo ?_); k_whole; try dsimp only))
local macro_rules | `(tactic| walk_at "compareOp In") => `(tactic| (k_here; (with_reducible show wpAny _ _ (compareOp CmpOp.In _ (Value.ref _)) _ _ _); k_dflt (first | (refine' in_pair0 ?T ?N ?_; (case T => exact News.isTup (by k_asm) (by k_mem)); (case N => first | (with_reducible assumption) | exact isNm4 _ | exact isNmR _); k_whole) | (refine' in_pair1 ?T ?N ?_; (case T => exact News.isTup (by k_asm) (by k_mem)); (case N => first | (with_reducible assumption) | exact isNm4 _ | exact isNmR _); k_whole) | (refine' in_pair2 ?T ?N ?_; (case T => exact News.isTup (by k_asm) (by k_mem)); (case N => first | (with_reducible assumption) | exact isNm4 _ | exact isNmR _); k_whole) | (refine' in_pair4 ?T ?N ?_; (case T => exact News.isTup (by k_asm) (by k_mem)); (case N => first | (with_reducible assumption) | exact isNm4 _ | exact isNmR _); k_whole)); try dsimp only))
local macro_rules | `(tactic| walk_at "compareOp In ref") => `(tactic| (k_here; (with_reducible show wpAny _ _ (compareOp CmpOp.In _ (Value.ref _)) _ _ _); k_dflt (first | (refine' in_pair0 ?T ?N ?_; (case T => exact News.isTup (by k_asm) (by k_mem)); (case N => first | (with_reducible assumption) | exact isNm4 _ | exact isNmR _); k_whole) | (refine' in_pair1 ?T ?N ?_; (case T => exact News.isTup (by k_asm) (by k_mem)); (case N => first | (with_reducible assumption) | exact isNm4 _ | exact isNmR _); k_whole) | (refine' in_pair2 ?T ?N ?_; (case T => exact News.isTup (by k_asm) (by k_mem)); (case N => first | (with_reducible assumption) | exact isNm4 _ | exact isNmR _); k_whole) | (refine' in_pair4 ?T ?N ?_; (case T => exact News.isTup (by k_asm) (by k_mem)); (case N => first | (with_reducible assumption) | exact isNm4 _ | exact isNmR _); k_whole)); try dsimp only))
local macro_rules | `(tactic| walk_at "compareOp In int ref") => `(tactic| (k_here; (with_reducible show wpAny _ _ (compareOp CmpOp.In _ (Value.ref _)) _ _ _); k_dflt (first | (refine' in_pair0 ?T ?N ?_; (case T => exact News.isTup (by k_asm) (by k_mem)); (case N => first | (with_reducible assumption) | exact isNm4 _ | exact isNmR _); k_whole) | (refine' in_pair1 ?T ?N ?_; (case T => exact News.isTup (by k_asm) (by k_mem)); (case N => first | (with_reducible assumption) | exact isNm4 _ | exact isNmR _); k_whole) | (refine' in_pair2 ?T ?N ?_; (case T => exact News.isTup (by k_asm) (by k_mem)); (case N => first | (with_reducible assumption) | exact isNm4 _ | exact isNmR _); k_whole) | (refine' in_pair4 ?T ?N ?_; (case T => exact News.isTup (by k_asm) (by k_mem)); (case N => first | (with_reducible assumption) | exact isNm4 _ | exact isNmR _); k_whole)); try dsimp only))
local macro_rules | `(tactic| walk_at "compareOp In str ref") => `(tactic| (k_here; (with_reducible show wpAny _ _ (compareOp CmpOp.In _ (Value.ref _)) _ _ _); k_dflt (first | (refine' in_pair0 ?T ?N ?_; (case T => exact News.isTup (by k_asm) (by k_mem)); (case N => first | (with_reducible assumption) | exact isNm4 _ | exact isNmR _); k_whole) | (refine' in_pair1 ?T ?N ?_; (case T => exact News.isTup (by k_asm) (by k_mem)); (case N => first | (with_reducible assumption) | exact isNm4 _ | exact isNmR _); k_whole) | (refine' in_pair2 ?T ?N ?_; (case T => exact News.isTup (by k_asm) (by k_mem)); (case N => first | (with_reducible assumption) | exact isNm4 _ | exact isNmR _); k_whole) | (refine' in_pair4 ?T ?N ?_; (case T => exact News.isTup (by k_asm) (by k_mem)); (case N => first | (with_reducible assumption) | exact isNm4 _ | exact isNmR _); k_whole)); try dsimp only))
local macro_rules | `(tactic| walk_at "truthy") => `(tactic| (k_here; k_dflt (refine' truthy_nm ?N ?_; (case N => first | (with_reducible assumption) | exact isNm4 _ | exact isNmR _); k_whole); intro tk9; try dsimp only))
local macro_rules | `(tactic| walk_at "truthy int") => `(tactic| (k_here; k_dflt (refine' truthy_nm ?N ?_; (case N => first | (with_reducible assumption) | exact isNm4 _ | exact isNmR _); k_whole); intro tk9; try dsimp only))
local macro_rules | `(tactic| walk_at "truthy str") => `(tactic| (k_here; k_dflt (refine' truthy_nm ?N ?_; (case N => first | (with_reducible assumption) | exact isNm4 _ | exact isNmR _); k_whole); intro tk9; try dsimp only))
local macro_rules | `(tactic| cell_enter) => `(tactic| (refine' code_def ?k1 ?k2 ?k3 ?k4 ?k5 ?kA ?kF ?kK ?k6 ?k7 ?k8 ?k9 ?kB ?_ ?c2 ?c3 ?c4 ?c5; (case kA => exact rfl); (case kF => exact rfl); (case kK => assumption); (case k1 => k_asm); (case k2 => k_asm); (case k3 => k_asm); (case k4 => k_asm); (case k5 => k_asm); (case k6 => k_is); (case k7 => k_is); (case k8 => ktr_room); (case k9 => first | exact BindsTo.of_eq rfl | exact binds_K (by k_in) rfl (by k_is) rfl rfl rfl); (case c5 => decide); (case kB => exact locs rfl); (case c2 => exact rfl); (case c3 => exact rfl); (case c4 => exact rfl); k_whole; intro g' L' h' FG' F' N' B' X' T'; (try dsimp only); (try k_lift B'); (try k_fold)))
local macro_rules | `(tactic| k_enter) => `(tactic| (refine' code_defC ?k1 ?k2 ?k3 ?k4 ?k5 ?kA ?kF ?kK ?k6 ?k7 ?k8 ?k9 ?kB ?kD ?_ ?c2 ?c3 ?c4; (case kA => exact rfl); (case kF => exact rfl); (case kK => assumption); (case k1 => k_asm); (case k2 => k_asm); (case k3 => k_asm); (case k4 => k_asm); (case k5 => k_asm); (case k6 => k_is); (case k7 => k_is); (case k8 => ktr_room); (case k9 => first | exact BindsTo.of_eq rfl | exact binds_K (by k_in) rfl (by k_is) rfl rfl rfl); (case kB => exact rfl); (case kD => decide +kernel); (case c2 => exact rfl); (case c3 => exact rfl); (case c4 => exact rfl); k_whole; intro g' L' h' tk' cells' FG' F' N' Y' B' X' T' l1; (try k_lt l1); k_cells Y'; (try simp only [List.cons_append, List.nil_append] at N'); (try dsimp only); (try k_lift B'); (try k_fold)))
local macro_rules | `(tactic| k_enter) => `(tactic| cell_enter)
local macro_rules | `(tactic| kcj_all) => `(tactic| (intro x9 h9; repeat (first | exact h9 | refine List.Mem.tail _ ?_)))

theorem filled : (fun (_ : OpenLaw) (_ : Params → Frag) => True) PySem.Challenge.rw_ak5018_01 Mine.hd1.heap_39 := by k_fill; trivial
section
local macro_rules | `(tactic| walk_at "zz0") => `(tactic| skip)
local macro_rules | `(tactic| walk_at "zz1") => `(tactic| skip)
local macro_rules | `(tactic| walk_at "zz2") => `(tactic| skip)
local macro_rules | `(tactic| walk_at "zz3") => `(tactic| skip)
local macro_rules | `(tactic| walk_at "zz4") => `(tactic| skip)
local macro_rules | `(tactic| walk_at "zz5") => `(tactic| skip)
local macro_rules | `(tactic| walk_at "zz6") => `(tactic| skip)
local macro_rules | `(tactic| walk_at "zz7") => `(tactic| skip)
local macro_rules | `(tactic| walk_at "zz8") => `(tactic| skip)
local macro_rules | `(tactic| walk_at "zz9") => `(tactic| skip)
local macro_rules | `(tactic| walk_at "zz10") => `(tactic| skip)
local macro_rules | `(tactic| walk_at "zz11") => `(tactic| skip)
local macro_rules | `(tactic| walk_at "zz12") => `(tactic| skip)
local macro_rules | `(tactic| walk_at "zz13") => `(tactic| skip)
local macro_rules | `(tactic| walk_at "zz14") => `(tactic| skip)
local macro_rules | `(tactic| walk_at "zz15") => `(tactic| skip)
local macro_rules | `(tactic| walk_at "zz16") => `(tactic| skip)
local macro_rules | `(tactic| walk_at "zz17") => `(tactic| skip)
local macro_rules | `(tactic| walk_at "zz18") => `(tactic| skip)
local macro_rules | `(tactic| walk_at "zz19") => `(tactic| skip)
local macro_rules | `(tactic| walk_at "zz20") => `(tactic| skip)
local macro_rules | `(tactic| walk_at "zz21") => `(tactic| skip)
local macro_rules | `(tactic| walk_at "zz22") => `(tactic| skip)
local macro_rules | `(tactic| walk_at "zz23") => `(tactic| skip)
local macro_rules | `(tactic| walk_at "zz24") => `(tactic| skip)
local macro_rules | `(tactic| walk_at "zz25") => `(tactic| skip)
local macro_rules | `(tactic| walk_at "zz26") => `(tactic| skip)
local macro_rules | `(tactic| walk_at "zz27") => `(tactic| skip)
local macro_rules | `(tactic| walk_at "zz28") => `(tactic| skip)
local macro_rules | `(tactic| walk_at "zz29") => `(tactic| skip)
local macro_rules | `(tactic| walk_at "zz30") => `(tactic| skip)
local macro_rules | `(tactic| walk_at "zz31") => `(tactic| skip)
local macro_rules | `(tactic| walk_at "zz32") => `(tactic| skip)
local macro_rules | `(tactic| walk_at "zz33") => `(tactic| skip)
local macro_rules | `(tactic| walk_at "zz34") => `(tactic| skip)
local macro_rules | `(tactic| walk_at "zz35") => `(tactic| skip)
local macro_rules | `(tactic| walk_at "zz36") => `(tactic| skip)
local macro_rules | `(tactic| walk_at "zz37") => `(tactic| skip)
local macro_rules | `(tactic| walk_at "zz38") => `(tactic| skip)
local macro_rules | `(tactic| walk_at "zz39") => `(tactic| skip)
theorem c_isleap (w : World) (mean : ExcName → Option Value) (mg mb : Str → Option Value) (y : Int) (t : Tok) :
    Claim w mean mg mb 1 50 [.int y t] (RV fun _ => .bool (isLeap y)) := by
  dsimp only [Claim]
  intro dp un gd cn cs a ccd cl outer A₀ base h₀ L m news s Q E hB hF hK hN hT hk hd hu hret
  refine wpAny_call ?_
  k_dflt cell_enter
  (repeat' ((first | (k_unfold; (try dsimp only)) | (k_end; wrow_close) | (walk1 <;> (try dsimp only)) | (dsimp only; walk1) | (leave1; walk_say "STEP leave1"; try dsimp only) | fail "no step")))
  all_goals (refine retB hret (isLeap_eq ?_) (by k_asm) (by k_asm) (fun _ h => h))
  all_goals (law_clear; simp only [LeapG, decide_eq_true_eq, ne_eq]; omega)
theorem gl_floor (w : World) : nsIn (Mine.hd1.heap_39 w.params) mainGlobals (Str.ofString "floor") = some (some (.builtin "math.floor")) := by k_is
theorem gl_trunc (w : World) : nsIn (Mine.hd1.heap_39 w.params) mainGlobals (Str.ofString "trunc") = some (some (.builtin "math.trunc")) := by k_is
theorem gl_EPOCH_gregorian (w : World) : nsIn (Mine.hd1.heap_39 w.params) mainGlobals (Str.ofString "EPOCH_gregorian") = some (some (.float 4700144277945057280 380)) := by k_is
theorem gl_INTERCALATION_CYCLE_YEARS (w : World) : nsIn (Mine.hd1.heap_39 w.params) mainGlobals (Str.ofString "INTERCALATION_CYCLE_YEARS") = some (some (.int 400 382)) := by k_is
theorem gl_INTERCALATION_CYCLE_DAYS (w : World) : nsIn (Mine.hd1.heap_39 w.params) mainGlobals (Str.ofString "INTERCALATION_CYCLE_DAYS") = some (some (.int 146097 384)) := by k_is
theorem gl_LEAP_SUPPRESSION_YEARS (w : World) : nsIn (Mine.hd1.heap_39 w.params) mainGlobals (Str.ofString "LEAP_SUPPRESSION_YEARS") = some (some (.int 100 386)) := by k_is
theorem gl_LEAP_SUPPRESSION_DAYS (w : World) : nsIn (Mine.hd1.heap_39 w.params) mainGlobals (Str.ofString "LEAP_SUPPRESSION_DAYS") = some (some (.int 36524 388)) := by k_is
theorem gl_LEAP_CYCLE_YEARS_gregorian (w : World) : nsIn (Mine.hd1.heap_39 w.params) mainGlobals (Str.ofString "LEAP_CYCLE_YEARS_gregorian") = some (some (.int 4 390)) := by k_is
theorem gl_LEAP_CYCLE_DAYS_gregorian (w : World) : nsIn (Mine.hd1.heap_39 w.params) mainGlobals (Str.ofString "LEAP_CYCLE_DAYS_gregorian") = some (some (.int 1461 392)) := by k_is
theorem gl_YEAR_DAYS (w : World) : nsIn (Mine.hd1.heap_39 w.params) mainGlobals (Str.ofString "YEAR_DAYS") = some (some (.int 365 394)) := by k_is
theorem gl_HAVE_30_DAYS (w : World) : nsIn (Mine.hd1.heap_39 w.params) mainGlobals (Str.ofString "HAVE_30_DAYS") = some (some (.ref 43)) := by k_is
theorem gl_isleap (w : World) : nsIn (Mine.hd1.heap_39 w.params) mainGlobals (Str.ofString "isleap") = some (some (.ref 50)) := by k_is
theorem gl_legal_date (w : World) : nsIn (Mine.hd1.heap_39 w.params) mainGlobals (Str.ofString "legal_date") = some (some (.ref 57)) := by k_is
theorem gl_to_jd_gregorian (w : World) : nsIn (Mine.hd1.heap_39 w.params) mainGlobals (Str.ofString "to_jd_gregorian") = some (some (.ref 64)) := by k_is
theorem gl_from_jd_gregorian (w : World) : nsIn (Mine.hd1.heap_39 w.params) mainGlobals (Str.ofString "from_jd_gregorian") = some (some (.ref 71)) := by k_is
theorem gl_EPOCH_french_republican (w : World) : nsIn (Mine.hd1.heap_39 w.params) mainGlobals (Str.ofString "EPOCH_french_republican") = some (some (.float 4702356487823949824 458)) := by k_is
theorem gl_DAYS_IN_YEAR (w : World) : nsIn (Mine.hd1.heap_39 w.params) mainGlobals (Str.ofString "DAYS_IN_YEAR") = some (some (.float 4645128764097822720 460)) := by k_is
theorem gl_LEAP_CYCLE_DAYS_french_republican (w : World) : nsIn (Mine.hd1.heap_39 w.params) mainGlobals (Str.ofString "LEAP_CYCLE_DAYS_french_republican") = some (some (.float 4654140361399074816 462)) := by k_is
theorem gl_LEAP_CYCLE_YEARS_french_republican (w : World) : nsIn (Mine.hd1.heap_39 w.params) mainGlobals (Str.ofString "LEAP_CYCLE_YEARS_french_republican") = some (some (.float 4616189618054758400 464)) := by k_is
theorem gl_leap (w : World) : nsIn (Mine.hd1.heap_39 w.params) mainGlobals (Str.ofString "leap") = some (some (.ref 79)) := by k_is
theorem gl_to_jd_french_republican (w : World) : nsIn (Mine.hd1.heap_39 w.params) mainGlobals (Str.ofString "to_jd_french_republican") = some (some (.ref 87)) := by k_is
theorem gl_to_jd_schematic (w : World) : nsIn (Mine.hd1.heap_39 w.params) mainGlobals (Str.ofString "_to_jd_schematic") = some (some (.ref 94)) := by k_is
theorem gl_from_jd_french_republican (w : World) : nsIn (Mine.hd1.heap_39 w.params) mainGlobals (Str.ofString "from_jd_french_republican") = some (some (.ref 102)) := by k_is
theorem gl_from_jd_schematic (w : World) : nsIn (Mine.hd1.heap_39 w.params) mainGlobals (Str.ofString "_from_jd_schematic") = some (some (.ref 109)) := by k_is
theorem gl_from_gregorian (w : World) : nsIn (Mine.hd1.heap_39 w.params) mainGlobals (Str.ofString "from_gregorian") = some (some (.ref 117)) := by k_is
theorem gl_to_gregorian (w : World) : nsIn (Mine.hd1.heap_39 w.params) mainGlobals (Str.ofString "to_gregorian") = some (some (.ref 125)) := by k_is
theorem gl_law_long (w : World) : nsIn (Mine.hd1.heap_39 w.params) mainGlobals (Str.ofString "_law_long") = some (some (.ref 132)) := by k_is
theorem gl_law_first (w : World) : nsIn (Mine.hd1.heap_39 w.params) mainGlobals (Str.ofString "_law_first") = some (some (.ref 137)) := by k_is
theorem gl_law_asked (w : World) : nsIn (Mine.hd1.heap_39 w.params) mainGlobals (Str.ofString "_law_asked") = some (some (.ref 144)) := by k_is


end
section
local macro_rules | `(tactic| walk_at "eval Name") => `(tactic| (k_here; (with_reducible rename Fr _ _ _ _ => kF); name_kind "globalImplicit"; k_dflt (refine' name_K kF ?k1 ?k2 ?k3 ?_; (case k1 => k_asm); (case k2 => k_asm); (case k3 => with_reducible (first | exact gl_floor _ | exact gl_trunc _ | exact gl_EPOCH_gregorian _ | exact gl_INTERCALATION_CYCLE_YEARS _ | exact gl_INTERCALATION_CYCLE_DAYS _ | exact gl_LEAP_SUPPRESSION_YEARS _ | exact gl_LEAP_SUPPRESSION_DAYS _ | exact gl_LEAP_CYCLE_YEARS_gregorian _ | exact gl_LEAP_CYCLE_DAYS_gregorian _ | exact gl_YEAR_DAYS _ | exact gl_HAVE_30_DAYS _ | exact gl_isleap _ | exact gl_legal_date _ | exact gl_to_jd_gregorian _ | exact gl_from_jd_gregorian _ | exact gl_EPOCH_french_republican _ | exact gl_DAYS_IN_YEAR _ | exact gl_LEAP_CYCLE_DAYS_french_republican _ | exact gl_LEAP_CYCLE_YEARS_french_republican _ | exact gl_leap _ | exact gl_to_jd_french_republican _ | exact gl_to_jd_schematic _ | exact gl_from_jd_french_republican _ | exact gl_from_jd_schematic _ | exact gl_from_gregorian _ | exact gl_to_gregorian _ | exact gl_law_long _ | exact gl_law_first _ | exact gl_law_asked _)); k_whole)))

local macro_rules | `(tactic| walk_at "call ref") => `(tactic| (k_here; (with_reducible show wpAny _ _ (call (Value.ref 50) _) _ _ _); k_dflt (refine' use (c_isleap _ _ _ _ _ _) ?k1 ?k2 ?k3 ?k4 ?k5 ?kK ?kd ?ku ?_); (case k1 => k_asm); (case k2 => k_asm); (case k3 => k_asm); (case k4 => k_asm); (case k5 => k_asm); (case kK => first | exact rfl | assumption); (case kd => ktr_room); (case ku => ktr_units); k_whole; intro t9 h9 tk9 F9 N9; (try dsimp only); (try k_sweep); walk_say "CLAIM 50"))
theorem c_legal (w : World) (mean : ExcName → Option Value) (mg mb : Str → Option Value) (y mo d : Int) (t u v : Tok) (hv : GV y mo d) :
    Claim w mean mg mb 2 57 [.int y t, .int mo u, .int d v] (RV fun _ => .bool true) := by
  dsimp only [Claim]
  intro dp un gd cn cs a ccd cl outer A₀ base h₀ L m news s Q E hB hF hK hN hT hk hd hu hret
  obtain ⟨v1, v2, v3, v4, v5, v6, v7, v8⟩ := hv
  refine wpAny_call ?_
  k_dflt cell_enter
  have v9 : (mo = 2 ∧ isLeap y = true ∧ d ≤ 29) ∨ (mo = 2 ∧ isLeap y = false ∧ d ≤ 28) ∨ ((mo = 4 ∨ mo = 6 ∨ mo = 9 ∨ mo = 11) ∧ mo ≠ 2 ∧ d ≤ 30) ∨ (mo ≠ 2 ∧ ¬(mo = 4 ∨ mo = 6 ∨ mo = 9 ∨ mo = 11)) := by
    cases hl : isLeap y
    · have := isLeap_lp0 hl
      simp only [Bool.false_eq_true, reduceCtorEq, false_and, and_false, true_and, false_or]; omega
    · have := isLeap_lp hl
      simp only [Bool.true_eq_false, reduceCtorEq, false_and, and_false, true_and, false_or]; omega
  clear v7 v8
  rcases v9 with ⟨v9, v10, v11⟩ | ⟨v9, v10, v11⟩ | ⟨v9, v10, v11⟩ | ⟨v9, v10⟩
  all_goals (
    (repeat' ((first | (k_unfold; (try dsimp only)) | (k_end; wrow_close) | (walk1 <;> (try dsimp only)) | (dsimp only; walk1) | (leave1; walk_say "STEP leave1"; try dsimp only) | fail "no step")))
    all_goals (refine retB hret rfl (by k_asm) (by k_asm) (fun _ h => h)))
local macro_rules | `(tactic| walk_at "call ref") => `(tactic| (k_here; (with_reducible show wpAny _ _ (call (Value.ref 57) _) _ _ _); k_dflt (refine' use (c_legal _ _ _ _ _ _ _ _ _ _ ?pv) ?k1 ?k2 ?k3 ?k4 ?k5 ?kK ?kd ?ku ?_); (case k1 => k_asm); (case k2 => k_asm); (case k3 => k_asm); (case k4 => k_asm); (case k5 => k_asm); (case kK => first | exact rfl | assumption); (case kd => ktr_room); (case ku => ktr_units); (case pv => with_reducible assumption); k_whole; intro t9 h9 tk9 F9 N9; (try dsimp only); (try k_sweep); walk_say "CLAIM 57"))
theorem c_to_jd_g (w : World) (mean : ExcName → Option Value) (mg mb : Str → Option Value) (y mo d : Int) (t u v : Tok) (hv : GV y mo d) :
    Claim w mean mg mb 3 64 [.int y t, .int mo u, .int d v] (RV fun t => .float (H (2 * gday y mo d - 1)) t) := by
  dsimp only [Claim]
  intro dp un gd cn cs a ccd cl outer A₀ base h₀ L m news s Q E hB hF hK hN hT hk hd hu hret
  have hv' := hv
  obtain ⟨v1, v2, v3, v4, v5, v6, v7, v8⟩ := hv'
  refine wpAny_call ?_
  k_dflt cell_enter
  (repeat' ((first | (k_unfold; (try dsimp only)) | (k_end; wrow_close) | (walk1 <;> (try dsimp only)) | (dsimp only; walk1) | (leave1; walk_say "STEP leave1"; try dsimp only) | fail "no step")))
  all_goals (refine retH hret ?_ (by k_asm) (by k_asm) (fun _ h => h))
  all_goals (have h1 := la_cases y mo; (first | (have h2 := isLeap_lp (by assumption)) | (have h2 := isLeap_lp0 (by assumption)) | skip); unfold gday; law_clear; omega)

end
section
local macro_rules | `(tactic| walk_at "zz0") => `(tactic| skip)
local macro_rules | `(tactic| walk_at "zz1") => `(tactic| skip)
local macro_rules | `(tactic| walk_at "zz2") => `(tactic| skip)
local macro_rules | `(tactic| walk_at "zz3") => `(tactic| skip)
local macro_rules | `(tactic| walk_at "zz4") => `(tactic| skip)
local macro_rules | `(tactic| walk_at "zz5") => `(tactic| skip)
local macro_rules | `(tactic| walk_at "zz6") => `(tactic| skip)
local macro_rules | `(tactic| walk_at "zz7") => `(tactic| skip)
local macro_rules | `(tactic| walk_at "zz8") => `(tactic| skip)
local macro_rules | `(tactic| walk_at "zz9") => `(tactic| skip)
local macro_rules | `(tactic| walk_at "zz10") => `(tactic| skip)
local macro_rules | `(tactic| walk_at "zz11") => `(tactic| skip)
local macro_rules | `(tactic| walk_at "zz12") => `(tactic| skip)
local macro_rules | `(tactic| walk_at "zz13") => `(tactic| skip)
local macro_rules | `(tactic| walk_at "zz14") => `(tactic| skip)
local macro_rules | `(tactic| walk_at "zz15") => `(tactic| skip)
local macro_rules | `(tactic| walk_at "zz16") => `(tactic| skip)
local macro_rules | `(tactic| walk_at "zz17") => `(tactic| skip)
local macro_rules | `(tactic| walk_at "zz18") => `(tactic| skip)
local macro_rules | `(tactic| walk_at "zz19") => `(tactic| skip)
local macro_rules | `(tactic| walk_at "zz20") => `(tactic| skip)
local macro_rules | `(tactic| walk_at "zz21") => `(tactic| skip)
local macro_rules | `(tactic| walk_at "zz22") => `(tactic| skip)
local macro_rules | `(tactic| walk_at "zz23") => `(tactic| skip)
local macro_rules | `(tactic| walk_at "zz24") => `(tactic| skip)
local macro_rules | `(tactic| walk_at "zz25") => `(tactic| skip)
local macro_rules | `(tactic| walk_at "zz26") => `(tactic| skip)
local macro_rules | `(tactic| walk_at "zz27") => `(tactic| skip)
local macro_rules | `(tactic| walk_at "zz28") => `(tactic| skip)
local macro_rules | `(tactic| walk_at "zz29") => `(tactic| skip)
local macro_rules | `(tactic| walk_at "zz30") => `(tactic| skip)
local macro_rules | `(tactic| walk_at "zz31") => `(tactic| skip)
local macro_rules | `(tactic| walk_at "zz32") => `(tactic| skip)
local macro_rules | `(tactic| walk_at "zz33") => `(tactic| skip)
local macro_rules | `(tactic| walk_at "zz34") => `(tactic| skip)
local macro_rules | `(tactic| walk_at "zz35") => `(tactic| skip)
local macro_rules | `(tactic| walk_at "zz36") => `(tactic| skip)
local macro_rules | `(tactic| walk_at "zz37") => `(tactic| skip)
local macro_rules | `(tactic| walk_at "zz38") => `(tactic| skip)
local macro_rules | `(tactic| walk_at "zz39") => `(tactic| skip)
local macro_rules | `(tactic| walk_at "eval Name") => `(tactic| (k_here; (with_reducible rename Fr _ _ _ _ => kF); name_kind "globalImplicit"; k_dflt (refine' name_K kF ?k1 ?k2 ?k3 ?_; (case k1 => k_asm); (case k2 => k_asm); (case k3 => with_reducible (first | exact gl_floor _ | exact gl_trunc _ | exact gl_EPOCH_gregorian _ | exact gl_INTERCALATION_CYCLE_YEARS _ | exact gl_INTERCALATION_CYCLE_DAYS _ | exact gl_LEAP_SUPPRESSION_YEARS _ | exact gl_LEAP_SUPPRESSION_DAYS _ | exact gl_LEAP_CYCLE_YEARS_gregorian _ | exact gl_LEAP_CYCLE_DAYS_gregorian _ | exact gl_YEAR_DAYS _ | exact gl_HAVE_30_DAYS _ | exact gl_isleap _ | exact gl_legal_date _ | exact gl_to_jd_gregorian _ | exact gl_from_jd_gregorian _ | exact gl_EPOCH_french_republican _ | exact gl_DAYS_IN_YEAR _ | exact gl_LEAP_CYCLE_DAYS_french_republican _ | exact gl_LEAP_CYCLE_YEARS_french_republican _ | exact gl_leap _ | exact gl_to_jd_french_republican _ | exact gl_to_jd_schematic _ | exact gl_from_jd_french_republican _ | exact gl_from_jd_schematic _ | exact gl_from_gregorian _ | exact gl_to_gregorian _ | exact gl_law_long _ | exact gl_law_first _ | exact gl_law_asked _)); k_whole)))

theorem gv_jan {N Y M D : Int} (h : GD N Y M D) : GV Y 1 1 := by
  obtain ⟨⟨v1, v2, v3, v4, v5, v6, v7, v8⟩, _⟩ := h
  have := lp_cases Y
  exact ⟨v1, v2, by omega, by omega, by omega, by omega, by omega, by omega⟩
theorem gv_first {N Y M D : Int} (h : GD N Y M D) : GV Y M 1 := by
  obtain ⟨⟨v1, v2, v3, v4, v5, v6, v7, v8⟩, _⟩ := h
  have := lp_cases Y
  exact ⟨v1, v2, by omega, by omega, by omega, by omega, by omega, by omega⟩
theorem c_jan (w : World) (mean : ExcName → Option Value) (mg mb : Str → Option Value) (N Y M D y : Int) (t u v : Tok) (hG : GD N Y M D) (hy : y = Y) :
    Claim w mean mg mb 3 64 [.int y t, .int 1 u, .int 1 v] (RV fun t => .float (H (2 * gday Y 1 1 - 1)) t) := by
  subst hy; exact c_to_jd_g w mean mg mb y 1 1 t u v (gv_jan hG)
theorem c_gfirst (w : World) (mean : ExcName → Option Value) (mg mb : Str → Option Value) (N Y M D y : Int) (t u v : Tok) (hG : GD N Y M D) (hy : y = Y) :
    Claim w mean mg mb 3 64 [.int y t, .int M u, .int 1 v] (RV fun t => .float (H (2 * gday Y M 1 - 1)) t) := by
  subst hy; exact c_to_jd_g w mean mg mb y M 1 t u v (gv_first hG)
theorem c_leapY (w : World) (mean : ExcName → Option Value) (mg mb : Str → Option Value) (N Y M D y : Int) (t : Tok) (hG : GD N Y M D) (hy : y = Y) :
    Claim w mean mg mb 1 50 [.int y t] (RV fun _ => .bool (isLeap Y)) := by
  subst hy; exact c_isleap w mean mg mb y t
section
variable {prog : Program} {w : World} {A : Around} {E : Value → Shared → Prop} {s : Shared} {t u : Tok} {Q : Value → Shared → Prop} {n : Int}
theorem hadd_ib {Y : Int} (h : Q (.int (n + lp Y) s.toks) { s with toks := s.toks + 1 }) : wpAny (model prog w) A (binaryOp .Add (.int n t) (.bool (isLeap Y))) Q E s := by
  refine add_int_bool ?_
  have : (if isLeap Y = true then (1 : Int) else 0) = lp Y := by
    by_cases h1 : isLeap Y = true
    · rw [if_pos h1, isLeap_lp h1]
    · rw [if_neg h1, isLeap_lp0 (by simpa using h1)]
  rw [this]; exact h
end
section
local macro_rules | `(tactic| walk_at "call ref") => `(tactic| (k_here; (with_reducible show wpAny _ _ (call (Value.ref 64) [Value.int _ _, Value.int _ _, Value.int 1 _]) _ _ _); k_dflt (refine' use (c_gfirst _ _ _ _ _ _ _ _ _ _ _ _ ?pv ?pw) ?k1 ?k2 ?k3 ?k4 ?k5 ?kK ?kd ?ku ?_); (case k1 => k_asm); (case k2 => k_asm); (case k3 => k_asm); (case k4 => k_asm); (case k5 => k_asm); (case kK => first | exact rfl | assumption); (case kd => ktr_room); (case ku => ktr_units); (case pv => with_reducible assumption); (case pw => ktn_open); k_whole; intro t9 h9 tk9 F9 N9; (try dsimp only); (try k_sweep); walk_say "CLAIM 64"))
local macro_rules | `(tactic| walk_at "call ref") => `(tactic| (k_here; (with_reducible show wpAny _ _ (call (Value.ref 64) [Value.int _ _, Value.int 1 _, Value.int 1 _]) _ _ _); k_dflt (refine' use (c_jan _ _ _ _ _ _ _ _ _ _ _ _ ?pv ?pw) ?k1 ?k2 ?k3 ?k4 ?k5 ?kK ?kd ?ku ?_); (case k1 => k_asm); (case k2 => k_asm); (case k3 => k_asm); (case k4 => k_asm); (case k5 => k_asm); (case kK => first | exact rfl | assumption); (case kd => ktr_room); (case ku => ktr_units); (case pv => with_reducible assumption); (case pw => ktn_open); k_whole; intro t9 h9 tk9 F9 N9; (try dsimp only); (try k_sweep); walk_say "CLAIM 64"))
local macro_rules | `(tactic| walk_at "call ref") => `(tactic| (k_here; (with_reducible show wpAny _ _ (call (Value.ref 50) _) _ _ _); k_dflt (refine' use (c_leapY _ _ _ _ _ _ _ _ _ _ ?pv ?pw) ?k1 ?k2 ?k3 ?k4 ?k5 ?kK ?kd ?ku ?_); (case k1 => k_asm); (case k2 => k_asm); (case k3 => k_asm); (case k4 => k_asm); (case k5 => k_asm); (case kK => first | exact rfl | assumption); (case kd => ktr_room); (case ku => ktr_units); (case pv => with_reducible assumption); (case pw => ktn_open); k_whole; intro t9 h9 tk9 F9 N9; (try dsimp only); (try k_sweep); walk_say "CLAIM 50"))
local macro_rules | `(tactic| walk_at "binaryOp Add int bool") => `(tactic| (k_here; (with_reducible refine' hadd_ib ?_); k_whole; try dsimp only))
theorem c_from_jd_g (w : World) (mean : ExcName → Option Value) (mg mb : Str → Option Value) (N Y M Z : Int) (t : Tok) (hG : GD N Y M Z) :
    Claim w mean mg mb 4 71 [.float (H (2 * N - 1)) t] (RT Y M Z) := by
  dsimp only [Claim]
  intro dp un gd cn cs a₀ ccd cl outer A₀ base h₀ L m news s Q E hB hF hK hN hT hk hd hu hret
  obtain ⟨a, ce, qu, yi, r1, r2, r3, r4, f1, f2, f3, f4, f5, f6, f7, f8, f9, f10, f11, f12, f13, f14, f15, f16, f17, f18, f19, f20, f21, f22⟩ := g_steps hG
  have hy : (ce = 4 ∨ yi = 4) ∧ Y = 400 * a + 100 * ce + 4 * qu + yi ∨ ce ≠ 4 ∧ yi ≠ 4 ∧ Y = 400 * a + 100 * ce + 4 * qu + yi + 1 := by
    by_cases h : ce = 4 ∨ yi = 4
    · exact .inl ⟨h, f21 h⟩
    · exact .inr ⟨by omega, by omega, f22 (by omega)⟩
  clear f21 f22
  have hv := hG.1
  have hd1 := doy_bounds hv
  have hlp := lp_cases Y
  obtain ⟨p, hp⟩ : ∃ p, p = (367 * M - 362) / 12 + la Y M + Z - 1 := ⟨_, rfl⟩
  have hjan : gday Y 1 1 + p = N := by have h1 := hG.2; have h2 := la_cases Y 1; rw [h1]; unfold gday; omega
  have hfst : gday Y M 1 + (Z - 1) = N := by have h1 := hG.2; rw [h1]; unfold gday; omega
  have hp0 : 0 ≤ p ∧ p ≤ 365 := by omega
  have hv' := hv
  obtain ⟨v1, v2, v3, v4, v5, v6, v7, v8⟩ := hv'
  obtain ⟨lj, hj, hM, hM2⟩ : ∃ lj : Int, (0 ≤ lj ∧ lj ≤ 2) ∧ (367 * M ≤ (p + lj) * 12 + 373 ∧ (p + lj) * 12 + 373 < 367 * M + 367) ∧ (p < 58 + lp Y ∧ lj = 0 ∨ 58 + lp Y ≤ p ∧ lj = 2 - lp Y) := by
    by_cases h : p < 58 + lp Y
    · have := g_month hv 0 p hp (.inl ⟨h, rfl⟩); exact ⟨0, by omega, by omega, .inl ⟨h, rfl⟩⟩
    · have := g_month hv (2 - lp Y) p hp (.inr ⟨by omega, rfl⟩); exact ⟨2 - lp Y, by omega, by omega, .inr ⟨by omega, rfl⟩⟩
  have hl2 : 0 ≤ lp Y ∧ lp Y ≤ 1 := by omega
  clear hp hd1 v7 v8 hlp
  refine wpAny_call ?_
  k_dflt cell_enter
  (repeat' ((fail_if_success (with_reducible show wpAny _ _ (call (Value.builtin "math.floor") [Value.float (D _ _) _]) _ _ _)); (fail_if_success (with_reducible show wpAny _ _ (binaryOp Operator.Mod (Value.float _ _) (Value.int _ _)) _ _ _)); (fail_if_success (with_reducible show wpAny _ _ (call (Value.ref 64) _) _ _ _)); (first | (k_unfold; (try dsimp only)) | (k_end; wrow_close) | (walk1 <;> (try dsimp only)) | (dsimp only; walk1) | (leave1; walk_say "STEP leave1"; try dsimp only) | fail "no step")))
  (with_reducible refine' vfloor_D a ?hh ?b0 ?b1 ?b2 ?b3 ?b4 ?b5 ?_); (case hh => exact rfl); (case b0 => ktn_open); (case b1 => ktn_open); (case b2 => ktn_open); (case b3 => ktn_open); (case b4 => ktn_open); (case b5 => ktn_open); (try dsimp only)
  (repeat' ((fail_if_success (with_reducible show wpAny _ _ (call (Value.builtin "math.floor") [Value.float (D _ _) _]) _ _ _)); (fail_if_success (with_reducible show wpAny _ _ (binaryOp Operator.Mod (Value.float _ _) (Value.int _ _)) _ _ _)); (first | (k_unfold; (try dsimp only)) | (k_end; wrow_close) | (walk1 <;> (try dsimp only)) | (dsimp only; walk1) | (leave1; walk_say "STEP leave1"; try dsimp only) | fail "no step")))
  (with_reducible refine' vmod_fi (2 * r1) a ?hh ?e0 ?b0 ?b1 ?b2 ?b3 ?b4 ?b5 ?b6 ?_); (case hh => exact rfl); (case e0 => ktr_rel); (case b0 => ktn_open); (case b1 => ktn_open); (case b2 => ktn_open); (case b3 => ktn_open); (case b4 => ktn_open); (case b5 => ktn_open); (case b6 => ktn_open); (try dsimp only)
  (repeat' ((fail_if_success (with_reducible show wpAny _ _ (call (Value.builtin "math.floor") [Value.float (D _ _) _]) _ _ _)); (fail_if_success (with_reducible show wpAny _ _ (binaryOp Operator.Mod (Value.float _ _) (Value.int _ _)) _ _ _)); (first | (k_unfold; (try dsimp only)) | (k_end; wrow_close) | (walk1 <;> (try dsimp only)) | (dsimp only; walk1) | (leave1; walk_say "STEP leave1"; try dsimp only) | fail "no step")))
  (with_reducible refine' vfloor_D ce ?hh ?b0 ?b1 ?b2 ?b3 ?b4 ?b5 ?_); (case hh => exact rfl); (case b0 => ktn_open); (case b1 => ktn_open); (case b2 => ktn_open); (case b3 => ktn_open); (case b4 => ktn_open); (case b5 => ktn_open); (try dsimp only)
  (repeat' ((fail_if_success (with_reducible show wpAny _ _ (call (Value.builtin "math.floor") [Value.float (D _ _) _]) _ _ _)); (fail_if_success (with_reducible show wpAny _ _ (binaryOp Operator.Mod (Value.float _ _) (Value.int _ _)) _ _ _)); (first | (k_unfold; (try dsimp only)) | (k_end; wrow_close) | (walk1 <;> (try dsimp only)) | (dsimp only; walk1) | (leave1; walk_say "STEP leave1"; try dsimp only) | fail "no step")))
  (with_reducible refine' vmod_fi (2 * r2) ce ?hh ?e0 ?b0 ?b1 ?b2 ?b3 ?b4 ?b5 ?b6 ?_); (case hh => exact rfl); (case e0 => ktr_rel); (case b0 => ktn_open); (case b1 => ktn_open); (case b2 => ktn_open); (case b3 => ktn_open); (case b4 => ktn_open); (case b5 => ktn_open); (case b6 => ktn_open); (try dsimp only)
  (repeat' ((fail_if_success (with_reducible show wpAny _ _ (call (Value.builtin "math.floor") [Value.float (D _ _) _]) _ _ _)); (fail_if_success (with_reducible show wpAny _ _ (binaryOp Operator.Mod (Value.float _ _) (Value.int _ _)) _ _ _)); (first | (k_unfold; (try dsimp only)) | (k_end; wrow_close) | (walk1 <;> (try dsimp only)) | (dsimp only; walk1) | (leave1; walk_say "STEP leave1"; try dsimp only) | fail "no step")))
  (with_reducible refine' vfloor_D qu ?hh ?b0 ?b1 ?b2 ?b3 ?b4 ?b5 ?_); (case hh => exact rfl); (case b0 => ktn_open); (case b1 => ktn_open); (case b2 => ktn_open); (case b3 => ktn_open); (case b4 => ktn_open); (case b5 => ktn_open); (try dsimp only)
  (repeat' ((fail_if_success (with_reducible show wpAny _ _ (call (Value.builtin "math.floor") [Value.float (D _ _) _]) _ _ _)); (fail_if_success (with_reducible show wpAny _ _ (binaryOp Operator.Mod (Value.float _ _) (Value.int _ _)) _ _ _)); (first | (k_unfold; (try dsimp only)) | (k_end; wrow_close) | (walk1 <;> (try dsimp only)) | (dsimp only; walk1) | (leave1; walk_say "STEP leave1"; try dsimp only) | fail "no step")))
  (with_reducible refine' vmod_fi (2 * r3) qu ?hh ?e0 ?b0 ?b1 ?b2 ?b3 ?b4 ?b5 ?b6 ?_); (case hh => exact rfl); (case e0 => ktr_rel); (case b0 => ktn_open); (case b1 => ktn_open); (case b2 => ktn_open); (case b3 => ktn_open); (case b4 => ktn_open); (case b5 => ktn_open); (case b6 => ktn_open); (try dsimp only)
  (repeat' ((fail_if_success (with_reducible show wpAny _ _ (call (Value.builtin "math.floor") [Value.float (D _ _) _]) _ _ _)); (fail_if_success (with_reducible show wpAny _ _ (binaryOp Operator.Mod (Value.float _ _) (Value.int _ _)) _ _ _)); (first | (k_unfold; (try dsimp only)) | (k_end; wrow_close) | (walk1 <;> (try dsimp only)) | (dsimp only; walk1) | (leave1; walk_say "STEP leave1"; try dsimp only) | fail "no step")))
  (with_reducible refine' vfloor_D yi ?hh ?b0 ?b1 ?b2 ?b3 ?b4 ?b5 ?_); (case hh => exact rfl); (case b0 => ktn_open); (case b1 => ktn_open); (case b2 => ktn_open); (case b3 => ktn_open); (case b4 => ktn_open); (case b5 => ktn_open); (try dsimp only)
  (repeat' ((fail_if_success (with_reducible show wpAny _ _ (exec (Stmt.If _ _ _ _) _) _ _ _)); (first | (k_unfold; (try dsimp only)) | (k_end; wrow_close) | (walk1 <;> (try dsimp only)) | (dsimp only; walk1) | (leave1; walk_say "STEP leave1"; try dsimp only) | fail "no step")))
  rename Fr _ _ _ _ => FJ
  rename News _ _ _ _ => NJ
  (with_reducible refine' join_int (PySem.Str.ofString "year") Y ?jF ?jN ?_ ?_); (case jF => exact FJ); (case jN => exact NJ)
  · rcases hy with ⟨hy, hY⟩ | ⟨hy1, hy2, hY⟩
    all_goals (
      (repeat' ((first | (k_unfold; (try dsimp only)) | (k_end; wrow_close) | (walk1 <;> (try dsimp only)) | (dsimp only; walk1) | (leave1; walk_say "STEP leave1"; try dsimp only) | fail "no step")))
      all_goals (
        rename Fr _ _ _ _ => FK
        rename News _ _ _ _ => NK
        first
        | exact ji_end1 FK NK (by law_clear; omega) rfl
        | exact ji_end2 FK NK rfl (by law_clear; omega) rfl
        | (exfalso; law_clear; omega)))
  have hNb : 1721426 ≤ N ∧ N ≤ 8000000000 := by omega
  clear hy FJ NJ f1 f2 f13 f14 f3 f4 f5 f6 f7 f8 f9 f10 f11 f12 f15 f16 f17 f18 f19 f20
  intro tJ hJ kJ FJ NJ
  (try dsimp only)
  (repeat' ((fail_if_success (with_reducible show wpAny _ _ (exec (Stmt.If _ _ _ _) _) _ _ _)); (first | (k_unfold; (try dsimp only)) | (k_end; wrow_close) | (walk1 <;> (try dsimp only)) | (dsimp only; walk1) | (leave1; walk_say "STEP leave1"; try dsimp only) | fail "no step")))
  (try clear FJ); (try clear NJ)
  rename Fr _ _ _ _ => FJ
  rename News _ _ _ _ => NJ
  (with_reducible refine' join_int (PySem.Str.ofString "leap_adj") lj ?jF ?jN ?_ ?_); (case jF => exact FJ); (case jN => exact NJ)
  · have hlB : isLeap Y = true ∧ lp Y = 1 ∨ isLeap Y = false ∧ lp Y = 0 := by
      cases hl : isLeap Y
      · exact .inr ⟨rfl, isLeap_lp0 hl⟩
      · exact .inl ⟨rfl, isLeap_lp hl⟩
    have hif : (if isLeap Y = true then (1 : Int) else 0) = lp Y := by
      rcases hlB with ⟨h1, h2⟩ | ⟨h1, h2⟩ <;> rw [h1, h2] <;> rfl
    (repeat' ((first | (k_unfold; (try dsimp only)) | (k_end; wrow_close) | (walk1 <;> (try dsimp only)) | (dsimp only; walk1) | (leave1; walk_say "STEP leave1"; try dsimp only) | fail "no step")))
    all_goals (
      rename Fr _ _ _ _ => FK
      rename News _ _ _ _ => NK
      refine ji_end1 FK NK ?_ rfl
      law_clear
      rcases hlB with ⟨hl, hz⟩ | ⟨hl, hz⟩ <;> first | omega | (exfalso; simp_all; done))
  clear hM2; (try clear FJ); (try clear NJ)
  intro tJ2 hJ2 kJ2 FJ NJ
  (try dsimp only)
  (repeat' ((fail_if_success (with_reducible show wpAny _ _ (call (Value.builtin "math.floor") [Value.float (D _ _) _]) _ _ _)); (first | (k_unfold; (try dsimp only)) | (k_end; wrow_close) | (walk1 <;> (try dsimp only)) | (dsimp only; walk1) | (leave1; walk_say "STEP leave1"; try dsimp only) | fail "no step")))
  (with_reducible refine' vfloor_D M ?hh ?b0 ?b1 ?b2 ?b3 ?b4 ?b5 ?_); (case hh => exact rfl); (case b0 => ktn_open); (case b1 => ktn_open); (case b2 => ktn_open); (case b3 => ktn_open); (case b4 => ktn_open); (case b5 => ktn_open); (try dsimp only)
  (repeat' ((first | (k_unfold; (try dsimp only)) | (k_end; wrow_close) | (walk1 <;> (try dsimp only)) | (dsimp only; walk1) | (leave1; walk_say "STEP leave1"; try dsimp only) | fail "no step")))
  refine' retT hret ?e1 ?e2 ?e3 ?F ?NM ?hn ?hl
  case NM => exact ⟨by k_asm, List.Mem.head _⟩
  case hn => exact fun _ h => List.Mem.tail _ h
  case hl => first | exact allLt_of (by assumption) | kcu_lt
  case F => k_asm
  case e1 => rfl
  case e2 => rfl
  case e3 => law_clear; omega
end

end
section
local macro_rules | `(tactic| walk_at "eval Name") => `(tactic| (k_here; (with_reducible rename Fr _ _ _ _ => kF); name_kind "globalImplicit"; k_dflt (refine' name_K kF ?k1 ?k2 ?k3 ?_; (case k1 => k_asm); (case k2 => k_asm); (case k3 => with_reducible (first | exact gl_floor _ | exact gl_trunc _ | exact gl_EPOCH_gregorian _ | exact gl_INTERCALATION_CYCLE_YEARS _ | exact gl_INTERCALATION_CYCLE_DAYS _ | exact gl_LEAP_SUPPRESSION_YEARS _ | exact gl_LEAP_SUPPRESSION_DAYS _ | exact gl_LEAP_CYCLE_YEARS_gregorian _ | exact gl_LEAP_CYCLE_DAYS_gregorian _ | exact gl_YEAR_DAYS _ | exact gl_HAVE_30_DAYS _ | exact gl_isleap _ | exact gl_legal_date _ | exact gl_to_jd_gregorian _ | exact gl_from_jd_gregorian _ | exact gl_EPOCH_french_republican _ | exact gl_DAYS_IN_YEAR _ | exact gl_LEAP_CYCLE_DAYS_french_republican _ | exact gl_LEAP_CYCLE_YEARS_french_republican _ | exact gl_leap _ | exact gl_to_jd_french_republican _ | exact gl_to_jd_schematic _ | exact gl_from_jd_french_republican _ | exact gl_from_jd_schematic _ | exact gl_from_gregorian _ | exact gl_to_gregorian _ | exact gl_law_long _ | exact gl_law_first _ | exact gl_law_asked _)); k_whole)))

theorem c_leap (w : World) (mean : ExcName → Option Value) (mg mb : Str → Option Value) (way y : Int) (t : Tok) (nv : Value) (hN : IsNm way nv) (hw : 0 ≤ way ∧ way ≤ 2) (hy : 1 ≤ y) :
    Claim w mean mg mb 1 79 [.int y t, nv] (RV fun _ => .bool (long way y)) := by
  dsimp only [Claim]
  intro dp un gd cn cs a ccd cl outer A₀ base h₀ L m news s Q E hB hF hK hNw hT hk hd hu hret
  refine wpAny_call ?_
  k_dflt cell_enter
  (repeat' ((first | (k_unfold; (try dsimp only)) | (k_end; wrow_close) | (walk1 <;> (try dsimp only)) | (dsimp only; walk1) | (leave1; walk_say "STEP leave1"; try dsimp only) | fail "no step")))
  all_goals (refine' retB hret (long_eq ?e) ?F ?N ?hn; (case F => k_asm); (case N => k_asm); (case hn => kcj_all); (case e => (law_clear; simp only [Lg, decide_eq_true_eq, ne_eq, Bool.false_eq_true, true_iff, false_iff]; omega)))
theorem c_law_long (w : World) (mean : ExcName → Option Value) (mg mb : Str → Option Value) (way y : Int) (t u : Tok) (hw : 0 ≤ way ∧ way ≤ 2) (hy : 1 ≤ y) :
    Claim w mean mg mb 1 132 [.int way u, .int y t] (RV fun _ => .bool (long way y)) := by
  dsimp only [Claim]
  intro dp un gd cn cs a ccd cl outer A₀ base h₀ L m news s Q E hB hF hK hNw hT hk hd hu hret
  refine wpAny_call ?_
  k_dflt cell_enter
  (repeat' ((first | (k_unfold; (try dsimp only)) | (k_end; wrow_close) | (walk1 <;> (try dsimp only)) | (dsimp only; walk1) | (leave1; walk_say "STEP leave1"; try dsimp only) | fail "no step")))
  all_goals (refine' retB hret (long_eq ?e) ?F ?N ?hn; (case F => k_asm); (case N => k_asm); (case hn => kcj_all); (case e => (law_clear; simp only [Lg, decide_eq_true_eq, ne_eq, Bool.false_eq_true, true_iff, false_iff]; omega)))

end
section
local macro_rules | `(tactic| walk_at "zz0") => `(tactic| skip)
local macro_rules | `(tactic| walk_at "zz1") => `(tactic| skip)
local macro_rules | `(tactic| walk_at "zz2") => `(tactic| skip)
local macro_rules | `(tactic| walk_at "zz3") => `(tactic| skip)
local macro_rules | `(tactic| walk_at "zz4") => `(tactic| skip)
local macro_rules | `(tactic| walk_at "zz5") => `(tactic| skip)
local macro_rules | `(tactic| walk_at "zz6") => `(tactic| skip)
local macro_rules | `(tactic| walk_at "zz7") => `(tactic| skip)
local macro_rules | `(tactic| walk_at "zz8") => `(tactic| skip)
local macro_rules | `(tactic| walk_at "zz9") => `(tactic| skip)
local macro_rules | `(tactic| walk_at "zz10") => `(tactic| skip)
local macro_rules | `(tactic| walk_at "zz11") => `(tactic| skip)
local macro_rules | `(tactic| walk_at "zz12") => `(tactic| skip)
local macro_rules | `(tactic| walk_at "zz13") => `(tactic| skip)
local macro_rules | `(tactic| walk_at "zz14") => `(tactic| skip)
local macro_rules | `(tactic| walk_at "zz15") => `(tactic| skip)
local macro_rules | `(tactic| walk_at "zz16") => `(tactic| skip)
local macro_rules | `(tactic| walk_at "zz17") => `(tactic| skip)
local macro_rules | `(tactic| walk_at "zz18") => `(tactic| skip)
local macro_rules | `(tactic| walk_at "zz19") => `(tactic| skip)
local macro_rules | `(tactic| walk_at "zz20") => `(tactic| skip)
local macro_rules | `(tactic| walk_at "zz21") => `(tactic| skip)
local macro_rules | `(tactic| walk_at "zz22") => `(tactic| skip)
local macro_rules | `(tactic| walk_at "zz23") => `(tactic| skip)
local macro_rules | `(tactic| walk_at "zz24") => `(tactic| skip)
local macro_rules | `(tactic| walk_at "zz25") => `(tactic| skip)
local macro_rules | `(tactic| walk_at "zz26") => `(tactic| skip)
local macro_rules | `(tactic| walk_at "zz27") => `(tactic| skip)
local macro_rules | `(tactic| walk_at "zz28") => `(tactic| skip)
local macro_rules | `(tactic| walk_at "zz29") => `(tactic| skip)
local macro_rules | `(tactic| walk_at "zz30") => `(tactic| skip)
local macro_rules | `(tactic| walk_at "zz31") => `(tactic| skip)
local macro_rules | `(tactic| walk_at "zz32") => `(tactic| skip)
local macro_rules | `(tactic| walk_at "zz33") => `(tactic| skip)
local macro_rules | `(tactic| walk_at "zz34") => `(tactic| skip)
local macro_rules | `(tactic| walk_at "zz35") => `(tactic| skip)
local macro_rules | `(tactic| walk_at "zz36") => `(tactic| skip)
local macro_rules | `(tactic| walk_at "zz37") => `(tactic| skip)
local macro_rules | `(tactic| walk_at "zz38") => `(tactic| skip)
local macro_rules | `(tactic| walk_at "zz39") => `(tactic| skip)
local macro_rules | `(tactic| walk_at "eval Name") => `(tactic| (k_here; (with_reducible rename Fr _ _ _ _ => kF); name_kind "globalImplicit"; k_dflt (refine' name_K kF ?k1 ?k2 ?k3 ?_; (case k1 => k_asm); (case k2 => k_asm); (case k3 => with_reducible (first | exact gl_floor _ | exact gl_trunc _ | exact gl_EPOCH_gregorian _ | exact gl_INTERCALATION_CYCLE_YEARS _ | exact gl_INTERCALATION_CYCLE_DAYS _ | exact gl_LEAP_SUPPRESSION_YEARS _ | exact gl_LEAP_SUPPRESSION_DAYS _ | exact gl_LEAP_CYCLE_YEARS_gregorian _ | exact gl_LEAP_CYCLE_DAYS_gregorian _ | exact gl_YEAR_DAYS _ | exact gl_HAVE_30_DAYS _ | exact gl_isleap _ | exact gl_legal_date _ | exact gl_to_jd_gregorian _ | exact gl_from_jd_gregorian _ | exact gl_EPOCH_french_republican _ | exact gl_DAYS_IN_YEAR _ | exact gl_LEAP_CYCLE_DAYS_french_republican _ | exact gl_LEAP_CYCLE_YEARS_french_republican _ | exact gl_leap _ | exact gl_to_jd_french_republican _ | exact gl_to_jd_schematic _ | exact gl_from_jd_french_republican _ | exact gl_from_jd_schematic _ | exact gl_from_gregorian _ | exact gl_to_gregorian _ | exact gl_law_long _ | exact gl_law_first _ | exact gl_law_asked _)); k_whole)))

theorem c_sch0 (w : World) (mean : ExcName → Option Value) (mg mb : Str → Option Value) (y mo d : Int) (t u v : Tok) (nv : Value) (hN : IsNm 0 nv) (hy : 1 ≤ y ∧ y ≤ 10000100) (hm : 1 ≤ mo ∧ mo ≤ 13) (hd1 : 1 ≤ d ∧ d ≤ 30) :
    Claim w mean mg mb 1 94 [.int y t, .int mo u, .int d v, nv] (RV fun t => .float (H (2 * (F 0 y + 30 * (mo - 1) + d - 1) - 1)) t) := by
  dsimp only [Claim]
  intro dp un gd cn cs a ccd cl outer A₀ base h₀ L m news s Q E hB hF hK hNw hT hk hd hu hret
  obtain ⟨hy1, hy2⟩ := hy
  refine wpAny_call ?_
  k_dflt cell_enter
  (repeat' ((first | (k_unfold; (try dsimp only)) | (k_end; wrow_close) | (walk1 <;> (try dsimp only)) | (dsimp only; walk1) | (leave1; walk_say "STEP leave1"; try dsimp only) | fail "no step")))
  refine' retH hret ?e ?F ?N ?hn
  case F => k_asm
  case N => k_asm
  case hn => kcj_all
  case e => (have hC := C0 y; unfold F; law_clear; omega)

end
section
local macro_rules | `(tactic| walk_at "eval Name") => `(tactic| (k_here; (with_reducible rename Fr _ _ _ _ => kF); name_kind "globalImplicit"; k_dflt (refine' name_K kF ?k1 ?k2 ?k3 ?_; (case k1 => k_asm); (case k2 => k_asm); (case k3 => with_reducible (first | exact gl_floor _ | exact gl_trunc _ | exact gl_EPOCH_gregorian _ | exact gl_INTERCALATION_CYCLE_YEARS _ | exact gl_INTERCALATION_CYCLE_DAYS _ | exact gl_LEAP_SUPPRESSION_YEARS _ | exact gl_LEAP_SUPPRESSION_DAYS _ | exact gl_LEAP_CYCLE_YEARS_gregorian _ | exact gl_LEAP_CYCLE_DAYS_gregorian _ | exact gl_YEAR_DAYS _ | exact gl_HAVE_30_DAYS _ | exact gl_isleap _ | exact gl_legal_date _ | exact gl_to_jd_gregorian _ | exact gl_from_jd_gregorian _ | exact gl_EPOCH_french_republican _ | exact gl_DAYS_IN_YEAR _ | exact gl_LEAP_CYCLE_DAYS_french_republican _ | exact gl_LEAP_CYCLE_YEARS_french_republican _ | exact gl_leap _ | exact gl_to_jd_french_republican _ | exact gl_to_jd_schematic _ | exact gl_from_jd_french_republican _ | exact gl_from_jd_schematic _ | exact gl_from_gregorian _ | exact gl_to_gregorian _ | exact gl_law_long _ | exact gl_law_first _ | exact gl_law_asked _)); k_whole)))

theorem c_sch1a (w : World) (mean : ExcName → Option Value) (mg mb : Str → Option Value) (y mo d : Int) (t u v : Tok) (nv : Value) (hN : IsNm 1 nv) (hy : 1 ≤ y ∧ y ≤ 14) (hm : 1 ≤ mo ∧ mo ≤ 13) (hd1 : 1 ≤ d ∧ d ≤ 30) :
    Claim w mean mg mb 1 94 [.int y t, .int mo u, .int d v, nv] (RV fun t => .float (H (2 * (F 1 y + 30 * (mo - 1) + d - 1) - 1)) t) := by
  dsimp only [Claim]
  intro dp un gd cn cs a ccd cl outer A₀ base h₀ L m news s Q E hB hF hK hNw hT hk hd hu hret
  obtain ⟨hy1, hy2⟩ := hy
  refine wpAny_call ?_
  k_dflt cell_enter
  (repeat' ((first | (k_unfold; (try dsimp only)) | (k_end; wrow_close) | (walk1 <;> (try dsimp only)) | (dsimp only; walk1) | (leave1; walk_say "STEP leave1"; try dsimp only) | fail "no step")))
  refine' retH hret ?e ?F ?N ?hn
  case F => k_asm
  case N => k_asm
  case hn => kcj_all
  case e => (have hC := C1 y; unfold F; law_clear; omega)

end
section
local macro_rules | `(tactic| walk_at "zz0") => `(tactic| skip)
local macro_rules | `(tactic| walk_at "zz1") => `(tactic| skip)
local macro_rules | `(tactic| walk_at "zz2") => `(tactic| skip)
local macro_rules | `(tactic| walk_at "zz3") => `(tactic| skip)
local macro_rules | `(tactic| walk_at "zz4") => `(tactic| skip)
local macro_rules | `(tactic| walk_at "zz5") => `(tactic| skip)
local macro_rules | `(tactic| walk_at "zz6") => `(tactic| skip)
local macro_rules | `(tactic| walk_at "zz7") => `(tactic| skip)
local macro_rules | `(tactic| walk_at "zz8") => `(tactic| skip)
local macro_rules | `(tactic| walk_at "zz9") => `(tactic| skip)
local macro_rules | `(tactic| walk_at "zz10") => `(tactic| skip)
local macro_rules | `(tactic| walk_at "zz11") => `(tactic| skip)
local macro_rules | `(tactic| walk_at "zz12") => `(tactic| skip)
local macro_rules | `(tactic| walk_at "zz13") => `(tactic| skip)
local macro_rules | `(tactic| walk_at "zz14") => `(tactic| skip)
local macro_rules | `(tactic| walk_at "zz15") => `(tactic| skip)
local macro_rules | `(tactic| walk_at "zz16") => `(tactic| skip)
local macro_rules | `(tactic| walk_at "zz17") => `(tactic| skip)
local macro_rules | `(tactic| walk_at "zz18") => `(tactic| skip)
local macro_rules | `(tactic| walk_at "zz19") => `(tactic| skip)
local macro_rules | `(tactic| walk_at "zz20") => `(tactic| skip)
local macro_rules | `(tactic| walk_at "zz21") => `(tactic| skip)
local macro_rules | `(tactic| walk_at "zz22") => `(tactic| skip)
local macro_rules | `(tactic| walk_at "zz23") => `(tactic| skip)
local macro_rules | `(tactic| walk_at "zz24") => `(tactic| skip)
local macro_rules | `(tactic| walk_at "zz25") => `(tactic| skip)
local macro_rules | `(tactic| walk_at "zz26") => `(tactic| skip)
local macro_rules | `(tactic| walk_at "zz27") => `(tactic| skip)
local macro_rules | `(tactic| walk_at "zz28") => `(tactic| skip)
local macro_rules | `(tactic| walk_at "zz29") => `(tactic| skip)
local macro_rules | `(tactic| walk_at "zz30") => `(tactic| skip)
local macro_rules | `(tactic| walk_at "zz31") => `(tactic| skip)
local macro_rules | `(tactic| walk_at "zz32") => `(tactic| skip)
local macro_rules | `(tactic| walk_at "zz33") => `(tactic| skip)
local macro_rules | `(tactic| walk_at "zz34") => `(tactic| skip)
local macro_rules | `(tactic| walk_at "zz35") => `(tactic| skip)
local macro_rules | `(tactic| walk_at "zz36") => `(tactic| skip)
local macro_rules | `(tactic| walk_at "zz37") => `(tactic| skip)
local macro_rules | `(tactic| walk_at "zz38") => `(tactic| skip)
local macro_rules | `(tactic| walk_at "zz39") => `(tactic| skip)
local macro_rules | `(tactic| walk_at "eval Name") => `(tactic| (k_here; (with_reducible rename Fr _ _ _ _ => kF); name_kind "globalImplicit"; k_dflt (refine' name_K kF ?k1 ?k2 ?k3 ?_; (case k1 => k_asm); (case k2 => k_asm); (case k3 => with_reducible (first | exact gl_floor _ | exact gl_trunc _ | exact gl_EPOCH_gregorian _ | exact gl_INTERCALATION_CYCLE_YEARS _ | exact gl_INTERCALATION_CYCLE_DAYS _ | exact gl_LEAP_SUPPRESSION_YEARS _ | exact gl_LEAP_SUPPRESSION_DAYS _ | exact gl_LEAP_CYCLE_YEARS_gregorian _ | exact gl_LEAP_CYCLE_DAYS_gregorian _ | exact gl_YEAR_DAYS _ | exact gl_HAVE_30_DAYS _ | exact gl_isleap _ | exact gl_legal_date _ | exact gl_to_jd_gregorian _ | exact gl_from_jd_gregorian _ | exact gl_EPOCH_french_republican _ | exact gl_DAYS_IN_YEAR _ | exact gl_LEAP_CYCLE_DAYS_french_republican _ | exact gl_LEAP_CYCLE_YEARS_french_republican _ | exact gl_leap _ | exact gl_to_jd_french_republican _ | exact gl_to_jd_schematic _ | exact gl_from_jd_french_republican _ | exact gl_from_jd_schematic _ | exact gl_from_gregorian _ | exact gl_to_gregorian _ | exact gl_law_long _ | exact gl_law_first _ | exact gl_law_asked _)); k_whole)))

theorem c_sch1b (w : World) (mean : ExcName → Option Value) (mg mb : Str → Option Value) (y mo d : Int) (t u v : Tok) (nv : Value) (hN : IsNm 1 nv) (hy : 15 ≤ y ∧ y ≤ 4000 ∧ ((y - 1) % 100 < 12 → (y - 1) / 100 % 4 = 0)) (hm : 1 ≤ mo ∧ mo ≤ 13) (hd1 : 1 ≤ d ∧ d ≤ 30) :
    Claim w mean mg mb 1 94 [.int y t, .int mo u, .int d v, nv] (RV fun t => .float (H (2 * (F 1 y + 30 * (mo - 1) + d - 1) - 1)) t) := by
  dsimp only [Claim]
  intro dp un gd cn cs a ccd cl outer A₀ base h₀ L m news s Q E hB hF hK hNw hT hk hd hu hret
  obtain ⟨hy1, hy2, hy3⟩ := hy
  have hy4 : (y - 1) % 100 ≥ 12 ∨ (y - 1) / 100 % 4 = 0 := by omega
  clear hy3
  refine wpAny_call ?_
  k_dflt cell_enter
  (repeat' ((first | (k_unfold; (try dsimp only)) | (k_end; wrow_close) | (walk1 <;> (try dsimp only)) | (dsimp only; walk1) | (leave1; walk_say "STEP leave1"; try dsimp only) | fail "no step")))
  refine' retH hret ?e ?F ?N ?hn
  case F => k_asm
  case N => k_asm
  case hn => kcj_all
  case e => (have hC := C1 y; unfold F; law_clear; omega)

end
section
local macro_rules | `(tactic| walk_at "eval Name") => `(tactic| (k_here; (with_reducible rename Fr _ _ _ _ => kF); name_kind "globalImplicit"; k_dflt (refine' name_K kF ?k1 ?k2 ?k3 ?_; (case k1 => k_asm); (case k2 => k_asm); (case k3 => with_reducible (first | exact gl_floor _ | exact gl_trunc _ | exact gl_EPOCH_gregorian _ | exact gl_INTERCALATION_CYCLE_YEARS _ | exact gl_INTERCALATION_CYCLE_DAYS _ | exact gl_LEAP_SUPPRESSION_YEARS _ | exact gl_LEAP_SUPPRESSION_DAYS _ | exact gl_LEAP_CYCLE_YEARS_gregorian _ | exact gl_LEAP_CYCLE_DAYS_gregorian _ | exact gl_YEAR_DAYS _ | exact gl_HAVE_30_DAYS _ | exact gl_isleap _ | exact gl_legal_date _ | exact gl_to_jd_gregorian _ | exact gl_from_jd_gregorian _ | exact gl_EPOCH_french_republican _ | exact gl_DAYS_IN_YEAR _ | exact gl_LEAP_CYCLE_DAYS_french_republican _ | exact gl_LEAP_CYCLE_YEARS_french_republican _ | exact gl_leap _ | exact gl_to_jd_french_republican _ | exact gl_to_jd_schematic _ | exact gl_from_jd_french_republican _ | exact gl_from_jd_schematic _ | exact gl_from_gregorian _ | exact gl_to_gregorian _ | exact gl_law_long _ | exact gl_law_first _ | exact gl_law_asked _)); k_whole)))

theorem c_sch2a (w : World) (mean : ExcName → Option Value) (mg mb : Str → Option Value) (y mo d : Int) (t u v : Tok) (nv : Value) (hN : IsNm 2 nv) (hy : 1 ≤ y ∧ y ≤ 16) (hm : 1 ≤ mo ∧ mo ≤ 13) (hd1 : 1 ≤ d ∧ d ≤ 30) :
    Claim w mean mg mb 1 94 [.int y t, .int mo u, .int d v, nv] (RV fun t => .float (H (2 * (F 2 y + 30 * (mo - 1) + d - 1) - 1)) t) := by
  dsimp only [Claim]
  intro dp un gd cn cs a ccd cl outer A₀ base h₀ L m news s Q E hB hF hK hNw hT hk hd hu hret
  obtain ⟨hy1, hy2⟩ := hy
  refine wpAny_call ?_
  k_dflt cell_enter
  (repeat' ((first | (k_unfold; (try dsimp only)) | (k_end; wrow_close) | (walk1 <;> (try dsimp only)) | (dsimp only; walk1) | (leave1; walk_say "STEP leave1"; try dsimp only) | fail "no step")))
  refine' retH hret ?e ?F ?N ?hn
  case F => k_asm
  case N => k_asm
  case hn => kcj_all
  case e => (have hC := C2 y; unfold F; law_clear; omega)

end
section
local macro_rules | `(tactic| walk_at "zz0") => `(tactic| skip)
local macro_rules | `(tactic| walk_at "zz1") => `(tactic| skip)
local macro_rules | `(tactic| walk_at "zz2") => `(tactic| skip)
local macro_rules | `(tactic| walk_at "zz3") => `(tactic| skip)
local macro_rules | `(tactic| walk_at "zz4") => `(tactic| skip)
local macro_rules | `(tactic| walk_at "zz5") => `(tactic| skip)
local macro_rules | `(tactic| walk_at "zz6") => `(tactic| skip)
local macro_rules | `(tactic| walk_at "zz7") => `(tactic| skip)
local macro_rules | `(tactic| walk_at "zz8") => `(tactic| skip)
local macro_rules | `(tactic| walk_at "zz9") => `(tactic| skip)
local macro_rules | `(tactic| walk_at "zz10") => `(tactic| skip)
local macro_rules | `(tactic| walk_at "zz11") => `(tactic| skip)
local macro_rules | `(tactic| walk_at "zz12") => `(tactic| skip)
local macro_rules | `(tactic| walk_at "zz13") => `(tactic| skip)
local macro_rules | `(tactic| walk_at "zz14") => `(tactic| skip)
local macro_rules | `(tactic| walk_at "zz15") => `(tactic| skip)
local macro_rules | `(tactic| walk_at "zz16") => `(tactic| skip)
local macro_rules | `(tactic| walk_at "zz17") => `(tactic| skip)
local macro_rules | `(tactic| walk_at "zz18") => `(tactic| skip)
local macro_rules | `(tactic| walk_at "zz19") => `(tactic| skip)
local macro_rules | `(tactic| walk_at "zz20") => `(tactic| skip)
local macro_rules | `(tactic| walk_at "zz21") => `(tactic| skip)
local macro_rules | `(tactic| walk_at "zz22") => `(tactic| skip)
local macro_rules | `(tactic| walk_at "zz23") => `(tactic| skip)
local macro_rules | `(tactic| walk_at "zz24") => `(tactic| skip)
local macro_rules | `(tactic| walk_at "zz25") => `(tactic| skip)
local macro_rules | `(tactic| walk_at "zz26") => `(tactic| skip)
local macro_rules | `(tactic| walk_at "zz27") => `(tactic| skip)
local macro_rules | `(tactic| walk_at "zz28") => `(tactic| skip)
local macro_rules | `(tactic| walk_at "zz29") => `(tactic| skip)
local macro_rules | `(tactic| walk_at "zz30") => `(tactic| skip)
local macro_rules | `(tactic| walk_at "zz31") => `(tactic| skip)
local macro_rules | `(tactic| walk_at "zz32") => `(tactic| skip)
local macro_rules | `(tactic| walk_at "zz33") => `(tactic| skip)
local macro_rules | `(tactic| walk_at "zz34") => `(tactic| skip)
local macro_rules | `(tactic| walk_at "zz35") => `(tactic| skip)
local macro_rules | `(tactic| walk_at "zz36") => `(tactic| skip)
local macro_rules | `(tactic| walk_at "zz37") => `(tactic| skip)
local macro_rules | `(tactic| walk_at "zz38") => `(tactic| skip)
local macro_rules | `(tactic| walk_at "zz39") => `(tactic| skip)
local macro_rules | `(tactic| walk_at "eval Name") => `(tactic| (k_here; (with_reducible rename Fr _ _ _ _ => kF); name_kind "globalImplicit"; k_dflt (refine' name_K kF ?k1 ?k2 ?k3 ?_; (case k1 => k_asm); (case k2 => k_asm); (case k3 => with_reducible (first | exact gl_floor _ | exact gl_trunc _ | exact gl_EPOCH_gregorian _ | exact gl_INTERCALATION_CYCLE_YEARS _ | exact gl_INTERCALATION_CYCLE_DAYS _ | exact gl_LEAP_SUPPRESSION_YEARS _ | exact gl_LEAP_SUPPRESSION_DAYS _ | exact gl_LEAP_CYCLE_YEARS_gregorian _ | exact gl_LEAP_CYCLE_DAYS_gregorian _ | exact gl_YEAR_DAYS _ | exact gl_HAVE_30_DAYS _ | exact gl_isleap _ | exact gl_legal_date _ | exact gl_to_jd_gregorian _ | exact gl_from_jd_gregorian _ | exact gl_EPOCH_french_republican _ | exact gl_DAYS_IN_YEAR _ | exact gl_LEAP_CYCLE_DAYS_french_republican _ | exact gl_LEAP_CYCLE_YEARS_french_republican _ | exact gl_leap _ | exact gl_to_jd_french_republican _ | exact gl_to_jd_schematic _ | exact gl_from_jd_french_republican _ | exact gl_from_jd_schematic _ | exact gl_from_gregorian _ | exact gl_to_gregorian _ | exact gl_law_long _ | exact gl_law_first _ | exact gl_law_asked _)); k_whole)))

theorem c_sch2b (w : World) (mean : ExcName → Option Value) (mg mb : Str → Option Value) (y mo d : Int) (t u v : Tok) (nv : Value) (hN : IsNm 2 nv) (hy : 17 ≤ y ∧ y ≤ 10000100 ∧ 16 ≤ (y - 1) % 128) (hm : 1 ≤ mo ∧ mo ≤ 13) (hd1 : 1 ≤ d ∧ d ≤ 30) :
    Claim w mean mg mb 1 94 [.int y t, .int mo u, .int d v, nv] (RV fun t => .float (H (2 * (F 2 y + 30 * (mo - 1) + d - 1) - 1)) t) := by
  dsimp only [Claim]
  intro dp un gd cn cs a ccd cl outer A₀ base h₀ L m news s Q E hB hF hK hNw hT hk hd hu hret
  obtain ⟨hy1, hy2, hy3⟩ := hy
  refine wpAny_call ?_
  k_dflt cell_enter
  (repeat' ((first | (k_unfold; (try dsimp only)) | (k_end; wrow_close) | (walk1 <;> (try dsimp only)) | (dsimp only; walk1) | (leave1; walk_say "STEP leave1"; try dsimp only) | fail "no step")))
  refine' retH hret ?e ?F ?N ?hn
  case F => k_asm
  case N => k_asm
  case hn => kcj_all
  case e => (have hC := C2 y; unfold F; law_clear; omega)

end
section
local macro_rules | `(tactic| walk_at "eval Name") => `(tactic| (k_here; (with_reducible rename Fr _ _ _ _ => kF); name_kind "globalImplicit"; k_dflt (refine' name_K kF ?k1 ?k2 ?k3 ?_; (case k1 => k_asm); (case k2 => k_asm); (case k3 => with_reducible (first | exact gl_floor _ | exact gl_trunc _ | exact gl_EPOCH_gregorian _ | exact gl_INTERCALATION_CYCLE_YEARS _ | exact gl_INTERCALATION_CYCLE_DAYS _ | exact gl_LEAP_SUPPRESSION_YEARS _ | exact gl_LEAP_SUPPRESSION_DAYS _ | exact gl_LEAP_CYCLE_YEARS_gregorian _ | exact gl_LEAP_CYCLE_DAYS_gregorian _ | exact gl_YEAR_DAYS _ | exact gl_HAVE_30_DAYS _ | exact gl_isleap _ | exact gl_legal_date _ | exact gl_to_jd_gregorian _ | exact gl_from_jd_gregorian _ | exact gl_EPOCH_french_republican _ | exact gl_DAYS_IN_YEAR _ | exact gl_LEAP_CYCLE_DAYS_french_republican _ | exact gl_LEAP_CYCLE_YEARS_french_republican _ | exact gl_leap _ | exact gl_to_jd_french_republican _ | exact gl_to_jd_schematic _ | exact gl_from_jd_french_republican _ | exact gl_from_jd_schematic _ | exact gl_from_gregorian _ | exact gl_to_gregorian _ | exact gl_law_long _ | exact gl_law_first _ | exact gl_law_asked _)); k_whole)))

theorem c_sch (w : World) (mean : ExcName → Option Value) (mg mb : Str → Option Value) (way y mo d : Int) (t u v : Tok) (nv : Value) (hN : IsNm way nv) (hw : 0 ≤ way ∧ way ≤ 2) (hg : Good way y) (hm : 1 ≤ mo ∧ mo ≤ 13) (hd1 : 1 ≤ d ∧ d ≤ 30) :
    Claim w mean mg mb 1 94 [.int y t, .int mo u, .int d v, nv] (RV fun t => .float (H (2 * (F way y + 30 * (mo - 1) + d - 1) - 1)) t) := by
  obtain ⟨g1, g2, g3, g4⟩ := hg
  have h : way = 0 ∨ way = 1 ∨ way = 2 := by omega
  rcases h with rfl | rfl | rfl
  · exact c_sch0 w mean mg mb y mo d t u v nv hN ⟨g1, g2⟩ hm hd1
  · by_cases h : y ≤ 14
    · exact c_sch1a w mean mg mb y mo d t u v nv hN ⟨g1, h⟩ hm hd1
    · exact c_sch1b w mean mg mb y mo d t u v nv hN ⟨by omega, (g3 rfl).1, (g3 rfl).2⟩ hm hd1
  · by_cases h : y ≤ 16
    · exact c_sch2a w mean mg mb y mo d t u v nv hN ⟨g1, h⟩ hm hd1
    · exact c_sch2b w mean mg mb y mo d t u v nv hN ⟨by omega, g2, g4 rfl (by omega)⟩ hm hd1
theorem c_leapK (w : World) (mean : ExcName → Option Value) (mg mb : Str → Option Value) (way y : Int) (t : Tok) (nv : Value) (hN : IsNm way nv) (hw : 0 ≤ way ∧ way ≤ 2) (hy : 1 ≤ y) :
    ClaimK w mean mg mb 1 79 [.int y t] [(Str.ofString "method", nv)] (RV fun _ => .bool (long way y)) := by
  dsimp only [ClaimK]
  intro dp un gd cn cs a ccd cl outer A₀ base h₀ L m news s Q E hB hF hK hNw hT hk hd hu hret
  refine wpAny_call ?_
  k_dflt cell_enter
  (repeat' ((first | (k_unfold; (try dsimp only)) | (k_end; wrow_close) | (walk1 <;> (try dsimp only)) | (dsimp only; walk1) | (leave1; walk_say "STEP leave1"; try dsimp only) | fail "no step")))
  all_goals (refine' retB hret (long_eq ?e) ?F ?N ?hn; (case F => k_asm); (case N => k_asm); (case hn => kcj_all); (case e => (law_clear; simp only [Lg, decide_eq_true_eq, ne_eq, Bool.false_eq_true, true_iff, false_iff]; omega)))
local macro_rules | `(tactic| walk_at "call ref") => `(tactic| (k_here; (with_reducible show wpAny _ _ (call (Value.ref 79) _ _) _ _ _); k_dflt (refine' useK (c_leapK _ _ _ _ _ _ _ _ ?pn ?pw ?py) ?k1 ?k2 ?k3 ?k4 ?k5 ?kK ?kd ?ku ?_); (case k1 => k_asm); (case k2 => k_asm); (case k3 => k_asm); (case k4 => k_asm); (case k5 => k_asm); (case kK => first | exact rfl | assumption); (case kd => ktr_room); (case ku => ktr_units); (case pn => with_reducible assumption); (case pw => ktn_open); (case py => ktn_open); k_whole; intro t9 h9 tk9 F9 N9; (try dsimp only); (try k_sweep); walk_say "CLAIM 79"))
local macro_rules | `(tactic| walk_at "call ref") => `(tactic| (k_here; (with_reducible show wpAny _ _ (call (Value.ref 94) _) _ _ _); k_dflt (refine' use (c_sch _ _ _ _ _ _ _ _ _ _ _ _ ?pn ?pw ?pg ?pm ?pd) ?k1 ?k2 ?k3 ?k4 ?k5 ?kK ?kd ?ku ?_); (case k1 => k_asm); (case k2 => k_asm); (case k3 => k_asm); (case k4 => k_asm); (case k5 => k_asm); (case kK => first | exact rfl | assumption); (case kd => ktr_room); (case ku => ktr_units); (case pn => with_reducible assumption); (case pw => ktn_open); (case pg => with_reducible assumption); (case pm => ktn_open); (case pd => ktn_open); k_whole; intro t9 h9 tk9 F9 N9; (try dsimp only); (try k_sweep); walk_say "CLAIM 94"))
theorem c_to_jd (w : World) (mean : ExcName → Option Value) (mg mb : Str → Option Value) (way n y mo d : Int) (t u v : Tok) (nv : Value) (hN : IsNm way nv) (hw : 0 ≤ way ∧ way ≤ 2) (hv : FD way n y mo d) :
    Claim w mean mg mb 2 87 [.int y t, .int mo u, .int d v, nv] (RV fun t => .float (H (2 * n - 1)) t) := by
  dsimp only [Claim]
  intro dp un gd cn cs a ccd cl outer A₀ base h₀ L m news s Q E hB hF hK hNw hT hk hd hu hret
  obtain ⟨hg, v1, v2, v3, v4, v5, v6⟩ := hv
  have hg1 := hg.1
  have v7 : mo ≠ 13 ∨ d ≤ 5 + lo way y := by omega
  refine wpAny_call ?_
  k_dflt cell_enter
  (repeat' ((first | (k_unfold; (try dsimp only)) | (k_end; wrow_close) | (walk1 <;> (try dsimp only)) | (dsimp only; walk1) | (leave1; walk_say "STEP leave1"; try dsimp only) | fail "no step")))
  all_goals (refine' retH hret ?e ?F ?N ?hn; (case F => k_asm); (case N => k_asm); (case hn => kcj_all); (case e => (law_clear; omega)))
theorem c_to_jdK (w : World) (mean : ExcName → Option Value) (mg mb : Str → Option Value) (way n y mo d : Int) (t u v : Tok) (nv : Value) (hN : IsNm way nv) (hw : 0 ≤ way ∧ way ≤ 2) (hv : FD way n y mo d) :
    ClaimK w mean mg mb 2 87 [.int y t, .int mo u, .int d v] [(Str.ofString "method", nv)] (RV fun t => .float (H (2 * n - 1)) t) := by
  dsimp only [ClaimK]
  intro dp un gd cn cs a ccd cl outer A₀ base h₀ L m news s Q E hB hF hK hNw hT hk hd hu hret
  obtain ⟨hg, v1, v2, v3, v4, v5, v6⟩ := hv
  have hg1 := hg.1
  have v7 : mo ≠ 13 ∨ d ≤ 5 + lo way y := by omega
  refine wpAny_call ?_
  k_dflt cell_enter
  (repeat' ((first | (k_unfold; (try dsimp only)) | (k_end; wrow_close) | (walk1 <;> (try dsimp only)) | (dsimp only; walk1) | (leave1; walk_say "STEP leave1"; try dsimp only) | fail "no step")))
  all_goals (refine' retH hret ?e ?F ?N ?hn; (case F => k_asm); (case N => k_asm); (case hn => kcj_all); (case e => (law_clear; omega)))

end
section
local macro_rules | `(tactic| walk_at "zz0") => `(tactic| skip)
local macro_rules | `(tactic| walk_at "zz1") => `(tactic| skip)
local macro_rules | `(tactic| walk_at "zz2") => `(tactic| skip)
local macro_rules | `(tactic| walk_at "zz3") => `(tactic| skip)
local macro_rules | `(tactic| walk_at "zz4") => `(tactic| skip)
local macro_rules | `(tactic| walk_at "zz5") => `(tactic| skip)
local macro_rules | `(tactic| walk_at "zz6") => `(tactic| skip)
local macro_rules | `(tactic| walk_at "zz7") => `(tactic| skip)
local macro_rules | `(tactic| walk_at "zz8") => `(tactic| skip)
local macro_rules | `(tactic| walk_at "zz9") => `(tactic| skip)
local macro_rules | `(tactic| walk_at "zz10") => `(tactic| skip)
local macro_rules | `(tactic| walk_at "zz11") => `(tactic| skip)
local macro_rules | `(tactic| walk_at "zz12") => `(tactic| skip)
local macro_rules | `(tactic| walk_at "zz13") => `(tactic| skip)
local macro_rules | `(tactic| walk_at "zz14") => `(tactic| skip)
local macro_rules | `(tactic| walk_at "zz15") => `(tactic| skip)
local macro_rules | `(tactic| walk_at "zz16") => `(tactic| skip)
local macro_rules | `(tactic| walk_at "zz17") => `(tactic| skip)
local macro_rules | `(tactic| walk_at "zz18") => `(tactic| skip)
local macro_rules | `(tactic| walk_at "zz19") => `(tactic| skip)
local macro_rules | `(tactic| walk_at "zz20") => `(tactic| skip)
local macro_rules | `(tactic| walk_at "zz21") => `(tactic| skip)
local macro_rules | `(tactic| walk_at "zz22") => `(tactic| skip)
local macro_rules | `(tactic| walk_at "zz23") => `(tactic| skip)
local macro_rules | `(tactic| walk_at "zz24") => `(tactic| skip)
local macro_rules | `(tactic| walk_at "zz25") => `(tactic| skip)
local macro_rules | `(tactic| walk_at "zz26") => `(tactic| skip)
local macro_rules | `(tactic| walk_at "zz27") => `(tactic| skip)
local macro_rules | `(tactic| walk_at "zz28") => `(tactic| skip)
local macro_rules | `(tactic| walk_at "zz29") => `(tactic| skip)
local macro_rules | `(tactic| walk_at "zz30") => `(tactic| skip)
local macro_rules | `(tactic| walk_at "zz31") => `(tactic| skip)
local macro_rules | `(tactic| walk_at "zz32") => `(tactic| skip)
local macro_rules | `(tactic| walk_at "zz33") => `(tactic| skip)
local macro_rules | `(tactic| walk_at "zz34") => `(tactic| skip)
local macro_rules | `(tactic| walk_at "zz35") => `(tactic| skip)
local macro_rules | `(tactic| walk_at "zz36") => `(tactic| skip)
local macro_rules | `(tactic| walk_at "zz37") => `(tactic| skip)
local macro_rules | `(tactic| walk_at "zz38") => `(tactic| skip)
local macro_rules | `(tactic| walk_at "zz39") => `(tactic| skip)
local macro_rules | `(tactic| walk_at "eval Name") => `(tactic| (k_here; (with_reducible rename Fr _ _ _ _ => kF); name_kind "globalImplicit"; k_dflt (refine' name_K kF ?k1 ?k2 ?k3 ?_; (case k1 => k_asm); (case k2 => k_asm); (case k3 => with_reducible (first | exact gl_floor _ | exact gl_trunc _ | exact gl_EPOCH_gregorian _ | exact gl_INTERCALATION_CYCLE_YEARS _ | exact gl_INTERCALATION_CYCLE_DAYS _ | exact gl_LEAP_SUPPRESSION_YEARS _ | exact gl_LEAP_SUPPRESSION_DAYS _ | exact gl_LEAP_CYCLE_YEARS_gregorian _ | exact gl_LEAP_CYCLE_DAYS_gregorian _ | exact gl_YEAR_DAYS _ | exact gl_HAVE_30_DAYS _ | exact gl_isleap _ | exact gl_legal_date _ | exact gl_to_jd_gregorian _ | exact gl_from_jd_gregorian _ | exact gl_EPOCH_french_republican _ | exact gl_DAYS_IN_YEAR _ | exact gl_LEAP_CYCLE_DAYS_french_republican _ | exact gl_LEAP_CYCLE_YEARS_french_republican _ | exact gl_leap _ | exact gl_to_jd_french_republican _ | exact gl_to_jd_schematic _ | exact gl_from_jd_french_republican _ | exact gl_from_jd_schematic _ | exact gl_from_gregorian _ | exact gl_to_gregorian _ | exact gl_law_long _ | exact gl_law_first _ | exact gl_law_asked _)); k_whole)))

theorem c_fsS (w : World) (mean : ExcName → Option Value) (mg mb : Str → Option Value) (way q r p n y m d : Int) (t : Tok) (nv : Value) (hN : IsNm way nv) (hw : 0 ≤ way ∧ way ≤ 2) (hy : y = 4 * q + r) (hr : 0 ≤ r ∧ r ≤ 3) (hq : 0 ≤ q ∧ q ≤ 2600000) (hJ : n - 2375840 + 365 = 1461 * q + 365 * r + p) (hn0 : 2375840 ≤ n) (hp : 0 ≤ p ∧ p ≤ 365) (hp2 : p ≠ 365 ∨ r = 3) (hp3 : p = 30 * (m - 1) + d - 1) (hs : way = 0 ∨ (way = 1 ∧ n - 2375840 ≤ 4383) ∨ (way = 2 ∧ n - 2375840 ≤ 6209)) (hm : 1 ≤ m ∧ m ≤ 13) (hd0 : 1 ≤ d ∧ d ≤ 30) :
    Claim w mean mg mb 1 109 [.float (H (2 * n - 1)) t, nv] (RT y m d) := by
  dsimp only [Claim]
  intro dp un gd cn cs a₀ ccd cl outer A₀ base h₀ L mm news s Q E hB hF hK hNw hT hk hd hu hret
  refine wpAny_call ?_
  k_dflt cell_enter
  (repeat' ((fail_if_success (with_reducible show wpAny _ _ (exec (Stmt.If (Expr.BoolOp _ _ _) _ _ _) _) _ _ _)); (first | (k_unfold; (try dsimp only)) | (k_end; wrow_close) | (walk1 <;> (try dsimp only)) | (dsimp only; walk1) | (leave1; walk_say "STEP leave1"; try dsimp only) | fail "no step")))
  rename Fr _ _ _ _ => FJ
  rename News _ _ _ _ => NJ
  refine join_nm FJ NJ ?_ ?_
  · rcases hs with rfl | ⟨rfl, hs⟩ | ⟨rfl, hs⟩
    all_goals (
      (repeat' ((first | (k_unfold; (try dsimp only)) | (k_end; wrow_close) | (walk1 <;> (try dsimp only)) | (dsimp only; walk1) | (leave1; walk_say "STEP leave1"; try dsimp only) | fail "no step")))
      all_goals (
        rename Fr _ _ _ _ => FK
        rename News _ _ _ _ => NK
        first
        | exact jn_end1 FK NK (by kcj_all) (isNm4 _) rfl
        | exact jn_end2 FK NK (by kcj_all) rfl (by assumption) rfl
        | (exfalso; law_clear; omega)))
  clear hN hs hw
  (try clear FJ); (try clear NJ)
  intro nv2 hJ2 kJ hN FJ NJ
  (try dsimp only)
  (repeat' ((fail_if_success (with_reducible show wpAny _ _ (call (Value.builtin "math.trunc") [Value.float (D _ _) _]) _ _ _)); (fail_if_success (with_reducible show wpAny _ _ (binaryOp Operator.Mod (Value.float _ _) (Value.float _ _)) _ _ _)); (fail_if_success (with_reducible show wpAny _ _ (binaryOp Operator.Mod (Value.float _ _) (Value.int _ _)) _ _ _)); (first | (k_unfold; (try dsimp only)) | (k_end; wrow_close) | (walk1 <;> (try dsimp only)) | (dsimp only; walk1) | (leave1; walk_say "STEP leave1"; try dsimp only) | fail "no step")))
  (with_reducible refine' vtrunc_D (q) ?hh ?b0 ?b1 ?b2 ?b3 ?b4 ?b5 ?_); (case hh => exact rfl); (case b0 => ktn_open); (case b1 => ktn_open); (case b2 => ktn_open); (case b3 => ktn_open); (case b4 => ktn_open); (case b5 => ktn_open); (try dsimp only)
  have hpp : p = 365 ∧ r = 3 ∨ p ≤ 364 := by omega
  (repeat' ((fail_if_success (with_reducible show wpAny _ _ (call (Value.builtin "math.trunc") [Value.float (D _ _) _]) _ _ _)); (fail_if_success (with_reducible show wpAny _ _ (binaryOp Operator.Mod (Value.float _ _) (Value.float _ _)) _ _ _)); (fail_if_success (with_reducible show wpAny _ _ (binaryOp Operator.Mod (Value.float _ _) (Value.int _ _)) _ _ _)); (first | (k_unfold; (try dsimp only)) | (k_end; wrow_close) | (walk1 <;> (try dsimp only)) | (dsimp only; walk1) | (leave1; walk_say "STEP leave1"; try dsimp only) | fail "no step")))
  (with_reducible refine' vmod_ff (2 * (365 * r + p)) (q) ?hh ?e0 ?e1 ?b0 ?b1 ?b2 ?b3 ?b4 ?b5 ?b6 ?_); (case hh => exact rfl); (case e0 => ktr_rel); (case e1 => ktr_rel); (case b0 => ktn_open); (case b1 => ktn_open); (case b2 => ktn_open); (case b3 => ktn_open); (case b4 => ktn_open); (case b5 => ktn_open); (case b6 => ktn_open); (try dsimp only)
  rcases hpp with ⟨hp4, hp5⟩ | hp4
  · skip
    (repeat' ((fail_if_success (with_reducible show wpAny _ _ (call (Value.builtin "math.trunc") [Value.float (D _ _) _]) _ _ _)); (fail_if_success (with_reducible show wpAny _ _ (binaryOp Operator.Mod (Value.float _ _) (Value.float _ _)) _ _ _)); (fail_if_success (with_reducible show wpAny _ _ (binaryOp Operator.Mod (Value.float _ _) (Value.int _ _)) _ _ _)); (first | (k_unfold; (try dsimp only)) | (k_end; wrow_close) | (walk1 <;> (try dsimp only)) | (dsimp only; walk1) | (leave1; walk_say "STEP leave1"; try dsimp only) | fail "no step")))
    (with_reducible refine' vtrunc_D (4) ?hh ?b0 ?b1 ?b2 ?b3 ?b4 ?b5 ?_); (case hh => exact rfl); (case b0 => ktn_open); (case b1 => ktn_open); (case b2 => ktn_open); (case b3 => ktn_open); (case b4 => ktn_open); (case b5 => ktn_open); (try dsimp only)
    (repeat' ((fail_if_success (with_reducible show wpAny _ _ (call (Value.builtin "math.trunc") [Value.float (D _ _) _]) _ _ _)); (fail_if_success (with_reducible show wpAny _ _ (binaryOp Operator.Mod (Value.float _ _) (Value.float _ _)) _ _ _)); (fail_if_success (with_reducible show wpAny _ _ (binaryOp Operator.Mod (Value.float _ _) (Value.int _ _)) _ _ _)); (first | (k_unfold; (try dsimp only)) | (k_end; wrow_close) | (walk1 <;> (try dsimp only)) | (dsimp only; walk1) | (leave1; walk_say "STEP leave1"; try dsimp only) | fail "no step")))
    (with_reducible refine' vtrunc_D (m - 1) ?hh ?b0 ?b1 ?b2 ?b3 ?b4 ?b5 ?_); (case hh => exact rfl); (case b0 => ktn_open); (case b1 => ktn_open); (case b2 => ktn_open); (case b3 => ktn_open); (case b4 => ktn_open); (case b5 => ktn_open); (try dsimp only)
    (repeat' ((first | (k_unfold; (try dsimp only)) | (k_end; wrow_close) | (walk1 <;> (try dsimp only)) | (dsimp only; walk1) | (leave1; walk_say "STEP leave1"; try dsimp only) | fail "no step")))
    refine' retT hret ?e1 ?e2 ?e3 ?F ?NM ?hn ?hl
    case NM => exact ⟨by k_asm, List.Mem.head _⟩
    case hn => exact fun x h => List.Mem.tail _ (by revert x h; kcj_all)
    case hl => first | exact allLt_of (by assumption) | assumption | exact (‹_ ∧ AllLt _ news›).2 | exact (‹_ ∧ _ ∧ AllLt _ news›).2.2 | exact (‹_ ∧ _ ∧ _ ∧ AllLt _ news›).2.2.2 | exact (‹_ ∧ _ ∧ _ ∧ _ ∧ AllLt _ news›).2.2.2.2 | exact (‹_ ∧ _ ∧ _ ∧ _ ∧ _ ∧ AllLt _ news›).2.2.2.2.2 | exact (‹_ ∧ _ ∧ _ ∧ _ ∧ _ ∧ _ ∧ AllLt _ news›).2.2.2.2.2.2 | exact (‹_ ∧ _ ∧ _ ∧ _ ∧ _ ∧ _ ∧ _ ∧ AllLt _ news›).2.2.2.2.2.2.2 | exact (‹_ ∧ _ ∧ _ ∧ _ ∧ _ ∧ _ ∧ _ ∧ _ ∧ AllLt _ news›).2.2.2.2.2.2.2.2 | exact (‹_ ∧ _ ∧ _ ∧ _ ∧ _ ∧ _ ∧ _ ∧ _ ∧ _ ∧ AllLt _ news›).2.2.2.2.2.2.2.2.2 
    case F => k_asm
    case e1 => (law_clear; omega)
    case e2 => (law_clear; omega)
    case e3 => (law_clear; omega)
  · skip
    (repeat' ((fail_if_success (with_reducible show wpAny _ _ (call (Value.builtin "math.trunc") [Value.float (D _ _) _]) _ _ _)); (fail_if_success (with_reducible show wpAny _ _ (binaryOp Operator.Mod (Value.float _ _) (Value.float _ _)) _ _ _)); (fail_if_success (with_reducible show wpAny _ _ (binaryOp Operator.Mod (Value.float _ _) (Value.int _ _)) _ _ _)); (first | (k_unfold; (try dsimp only)) | (k_end; wrow_close) | (walk1 <;> (try dsimp only)) | (dsimp only; walk1) | (leave1; walk_say "STEP leave1"; try dsimp only) | fail "no step")))
    (with_reducible refine' vmod_ff (2 * (365 * r + p)) (q) ?hh ?e0 ?e1 ?b0 ?b1 ?b2 ?b3 ?b4 ?b5 ?b6 ?_); (case hh => exact rfl); (case e0 => ktr_rel); (case e1 => ktr_rel); (case b0 => ktn_open); (case b1 => ktn_open); (case b2 => ktn_open); (case b3 => ktn_open); (case b4 => ktn_open); (case b5 => ktn_open); (case b6 => ktn_open); (try dsimp only)
    (repeat' ((fail_if_success (with_reducible show wpAny _ _ (call (Value.builtin "math.trunc") [Value.float (D _ _) _]) _ _ _)); (fail_if_success (with_reducible show wpAny _ _ (binaryOp Operator.Mod (Value.float _ _) (Value.float _ _)) _ _ _)); (fail_if_success (with_reducible show wpAny _ _ (binaryOp Operator.Mod (Value.float _ _) (Value.int _ _)) _ _ _)); (first | (k_unfold; (try dsimp only)) | (k_end; wrow_close) | (walk1 <;> (try dsimp only)) | (dsimp only; walk1) | (leave1; walk_say "STEP leave1"; try dsimp only) | fail "no step")))
    (with_reducible refine' vtrunc_D (r) ?hh ?b0 ?b1 ?b2 ?b3 ?b4 ?b5 ?_); (case hh => exact rfl); (case b0 => ktn_open); (case b1 => ktn_open); (case b2 => ktn_open); (case b3 => ktn_open); (case b4 => ktn_open); (case b5 => ktn_open); (try dsimp only)
    (repeat' ((fail_if_success (with_reducible show wpAny _ _ (call (Value.builtin "math.trunc") [Value.float (D _ _) _]) _ _ _)); (fail_if_success (with_reducible show wpAny _ _ (binaryOp Operator.Mod (Value.float _ _) (Value.float _ _)) _ _ _)); (fail_if_success (with_reducible show wpAny _ _ (binaryOp Operator.Mod (Value.float _ _) (Value.int _ _)) _ _ _)); (first | (k_unfold; (try dsimp only)) | (k_end; wrow_close) | (walk1 <;> (try dsimp only)) | (dsimp only; walk1) | (leave1; walk_say "STEP leave1"; try dsimp only) | fail "no step")))
    (with_reducible refine' vmod_ff (2 * p) (r) ?hh ?e0 ?e1 ?b0 ?b1 ?b2 ?b3 ?b4 ?b5 ?b6 ?_); (case hh => exact rfl); (case e0 => ktr_rel); (case e1 => ktr_rel); (case b0 => ktn_open); (case b1 => ktn_open); (case b2 => ktn_open); (case b3 => ktn_open); (case b4 => ktn_open); (case b5 => ktn_open); (case b6 => ktn_open); (try dsimp only)
    (repeat' ((fail_if_success (with_reducible show wpAny _ _ (call (Value.builtin "math.trunc") [Value.float (D _ _) _]) _ _ _)); (fail_if_success (with_reducible show wpAny _ _ (binaryOp Operator.Mod (Value.float _ _) (Value.float _ _)) _ _ _)); (fail_if_success (with_reducible show wpAny _ _ (binaryOp Operator.Mod (Value.float _ _) (Value.int _ _)) _ _ _)); (first | (k_unfold; (try dsimp only)) | (k_end; wrow_close) | (walk1 <;> (try dsimp only)) | (dsimp only; walk1) | (leave1; walk_say "STEP leave1"; try dsimp only) | fail "no step")))
    (with_reducible refine' vtrunc_D (m - 1) ?hh ?b0 ?b1 ?b2 ?b3 ?b4 ?b5 ?_); (case hh => exact rfl); (case b0 => ktn_open); (case b1 => ktn_open); (case b2 => ktn_open); (case b3 => ktn_open); (case b4 => ktn_open); (case b5 => ktn_open); (try dsimp only)
    (repeat' ((first | (k_unfold; (try dsimp only)) | (k_end; wrow_close) | (walk1 <;> (try dsimp only)) | (dsimp only; walk1) | (leave1; walk_say "STEP leave1"; try dsimp only) | fail "no step")))
    refine' retT hret ?e1 ?e2 ?e3 ?F ?NM ?hn ?hl
    case NM => exact ⟨by k_asm, List.Mem.head _⟩
    case hn => exact fun x h => List.Mem.tail _ (by revert x h; kcj_all)
    case hl => first | exact allLt_of (by assumption) | assumption | exact (‹_ ∧ AllLt _ news›).2 | exact (‹_ ∧ _ ∧ AllLt _ news›).2.2 | exact (‹_ ∧ _ ∧ _ ∧ AllLt _ news›).2.2.2 | exact (‹_ ∧ _ ∧ _ ∧ _ ∧ AllLt _ news›).2.2.2.2 | exact (‹_ ∧ _ ∧ _ ∧ _ ∧ _ ∧ AllLt _ news›).2.2.2.2.2 | exact (‹_ ∧ _ ∧ _ ∧ _ ∧ _ ∧ _ ∧ AllLt _ news›).2.2.2.2.2.2 | exact (‹_ ∧ _ ∧ _ ∧ _ ∧ _ ∧ _ ∧ _ ∧ AllLt _ news›).2.2.2.2.2.2.2 | exact (‹_ ∧ _ ∧ _ ∧ _ ∧ _ ∧ _ ∧ _ ∧ _ ∧ AllLt _ news›).2.2.2.2.2.2.2.2 | exact (‹_ ∧ _ ∧ _ ∧ _ ∧ _ ∧ _ ∧ _ ∧ _ ∧ _ ∧ AllLt _ news›).2.2.2.2.2.2.2.2.2 
    case F => k_asm
    case e1 => (law_clear; omega)
    case e2 => (law_clear; omega)
    case e3 => (law_clear; omega)

end
section
local macro_rules | `(tactic| walk_at "eval Name") => `(tactic| (k_here; (with_reducible rename Fr _ _ _ _ => kF); name_kind "globalImplicit"; k_dflt (refine' name_K kF ?k1 ?k2 ?k3 ?_; (case k1 => k_asm); (case k2 => k_asm); (case k3 => with_reducible (first | exact gl_floor _ | exact gl_trunc _ | exact gl_EPOCH_gregorian _ | exact gl_INTERCALATION_CYCLE_YEARS _ | exact gl_INTERCALATION_CYCLE_DAYS _ | exact gl_LEAP_SUPPRESSION_YEARS _ | exact gl_LEAP_SUPPRESSION_DAYS _ | exact gl_LEAP_CYCLE_YEARS_gregorian _ | exact gl_LEAP_CYCLE_DAYS_gregorian _ | exact gl_YEAR_DAYS _ | exact gl_HAVE_30_DAYS _ | exact gl_isleap _ | exact gl_legal_date _ | exact gl_to_jd_gregorian _ | exact gl_from_jd_gregorian _ | exact gl_EPOCH_french_republican _ | exact gl_DAYS_IN_YEAR _ | exact gl_LEAP_CYCLE_DAYS_french_republican _ | exact gl_LEAP_CYCLE_YEARS_french_republican _ | exact gl_leap _ | exact gl_to_jd_french_republican _ | exact gl_to_jd_schematic _ | exact gl_from_jd_french_republican _ | exact gl_from_jd_schematic _ | exact gl_from_gregorian _ | exact gl_to_gregorian _ | exact gl_law_long _ | exact gl_law_first _ | exact gl_law_asked _)); k_whole)))

theorem c_fsR (w : World) (mean : ExcName → Option Value) (mg mb : Str → Option Value) (a b c e p n y m d : Int) (t : Tok) (nv : Value) (hN : IsNm 1 nv) (hy : y = 400 * a + 100 * b + 4 * c + e + 13) (ha : 0 ≤ a ∧ a ≤ 9) (hb : 0 ≤ b ∧ b ≤ 3) (hc : 0 ≤ c ∧ c ≤ 24) (hr : 0 ≤ e ∧ e ≤ 3) (hJ : n - 2375840 - 4383 = 146097 * a + 36524 * b + 1461 * c + 365 * e + p) (hn0 : 2375840 + 4383 < n) (hp : 0 ≤ p ∧ p ≤ 365) (hp2 : p ≠ 365 ∨ e = 3) (hp1 : 1461 * c + 365 * e + p < 36524) (hp3 : p = 30 * (m - 1) + d - 1) (hm : 1 ≤ m ∧ m ≤ 13) (hd0 : 1 ≤ d ∧ d ≤ 30) :
    Claim w mean mg mb 1 109 [.float (H (2 * n - 1)) t, nv] (RT y m d) := by
  dsimp only [Claim]
  intro dp un gd cn cs a₀ ccd cl outer A₀ base h₀ L mm news s Q E hB hF hK hNw hT hk hd hu hret
  refine wpAny_call ?_
  k_dflt cell_enter
  (repeat' ((fail_if_success (with_reducible show wpAny _ _ (exec (Stmt.If (Expr.BoolOp _ _ _) _ _ _) _) _ _ _)); (first | (k_unfold; (try dsimp only)) | (k_end; wrow_close) | (walk1 <;> (try dsimp only)) | (dsimp only; walk1) | (leave1; walk_say "STEP leave1"; try dsimp only) | fail "no step")))
  rename Fr _ _ _ _ => FJ
  rename News _ _ _ _ => NJ
  refine join_skip FJ NJ ?_ ?_
  · k_steps
    all_goals (
      rename Fr _ _ _ _ => FK
      rename News _ _ _ _ => NK
      exact js_end FK NK (by kcj_all) rfl)
  (try clear FJ); (try clear NJ)
  intro hJ2 kJ FJ NJ
  (try dsimp only)
  (repeat' ((fail_if_success (with_reducible show wpAny _ _ (call (Value.builtin "math.trunc") [Value.float (D _ _) _]) _ _ _)); (fail_if_success (with_reducible show wpAny _ _ (binaryOp Operator.Mod (Value.float _ _) (Value.float _ _)) _ _ _)); (fail_if_success (with_reducible show wpAny _ _ (binaryOp Operator.Mod (Value.float _ _) (Value.int _ _)) _ _ _)); (first | (k_unfold; (try dsimp only)) | (k_end; wrow_close) | (walk1 <;> (try dsimp only)) | (dsimp only; walk1) | (leave1; walk_say "STEP leave1"; try dsimp only) | fail "no step")))
  (with_reducible refine' vtrunc_D (0) ?hh ?b0 ?b1 ?b2 ?b3 ?b4 ?b5 ?_); (case hh => exact rfl); (case b0 => ktn_open); (case b1 => ktn_open); (case b2 => ktn_open); (case b3 => ktn_open); (case b4 => ktn_open); (case b5 => ktn_open); (try dsimp only)
  (repeat' ((fail_if_success (with_reducible show wpAny _ _ (call (Value.builtin "math.trunc") [Value.float (D _ _) _]) _ _ _)); (fail_if_success (with_reducible show wpAny _ _ (binaryOp Operator.Mod (Value.float _ _) (Value.float _ _)) _ _ _)); (fail_if_success (with_reducible show wpAny _ _ (binaryOp Operator.Mod (Value.float _ _) (Value.int _ _)) _ _ _)); (first | (k_unfold; (try dsimp only)) | (k_end; wrow_close) | (walk1 <;> (try dsimp only)) | (dsimp only; walk1) | (leave1; walk_say "STEP leave1"; try dsimp only) | fail "no step")))
  (with_reducible refine' vmod_fi (2 * (n - 2375840 - 4383)) (0) ?hh ?e0 ?b0 ?b1 ?b2 ?b3 ?b4 ?b5 ?b6 ?_); (case hh => exact rfl); (case e0 => ktr_rel); (case b0 => ktn_open); (case b1 => ktn_open); (case b2 => ktn_open); (case b3 => ktn_open); (case b4 => ktn_open); (case b5 => ktn_open); (case b6 => ktn_open); (try dsimp only)
  (repeat' ((fail_if_success (with_reducible show wpAny _ _ (call (Value.builtin "math.trunc") [Value.float (D _ _) _]) _ _ _)); (fail_if_success (with_reducible show wpAny _ _ (binaryOp Operator.Mod (Value.float _ _) (Value.float _ _)) _ _ _)); (fail_if_success (with_reducible show wpAny _ _ (binaryOp Operator.Mod (Value.float _ _) (Value.int _ _)) _ _ _)); (first | (k_unfold; (try dsimp only)) | (k_end; wrow_close) | (walk1 <;> (try dsimp only)) | (dsimp only; walk1) | (leave1; walk_say "STEP leave1"; try dsimp only) | fail "no step")))
  (with_reducible refine' vtrunc_D (a) ?hh ?b0 ?b1 ?b2 ?b3 ?b4 ?b5 ?_); (case hh => exact rfl); (case b0 => ktn_open); (case b1 => ktn_open); (case b2 => ktn_open); (case b3 => ktn_open); (case b4 => ktn_open); (case b5 => ktn_open); (try dsimp only)
  (repeat' ((fail_if_success (with_reducible show wpAny _ _ (call (Value.builtin "math.trunc") [Value.float (D _ _) _]) _ _ _)); (fail_if_success (with_reducible show wpAny _ _ (binaryOp Operator.Mod (Value.float _ _) (Value.float _ _)) _ _ _)); (fail_if_success (with_reducible show wpAny _ _ (binaryOp Operator.Mod (Value.float _ _) (Value.int _ _)) _ _ _)); (first | (k_unfold; (try dsimp only)) | (k_end; wrow_close) | (walk1 <;> (try dsimp only)) | (dsimp only; walk1) | (leave1; walk_say "STEP leave1"; try dsimp only) | fail "no step")))
  (with_reducible refine' vmod_fi (2 * (36524 * b + 1461 * c + 365 * e + p)) (a) ?hh ?e0 ?b0 ?b1 ?b2 ?b3 ?b4 ?b5 ?b6 ?_); (case hh => exact rfl); (case e0 => ktr_rel); (case b0 => ktn_open); (case b1 => ktn_open); (case b2 => ktn_open); (case b3 => ktn_open); (case b4 => ktn_open); (case b5 => ktn_open); (case b6 => ktn_open); (try dsimp only)
  (repeat' ((fail_if_success (with_reducible show wpAny _ _ (call (Value.builtin "math.trunc") [Value.float (D _ _) _]) _ _ _)); (fail_if_success (with_reducible show wpAny _ _ (binaryOp Operator.Mod (Value.float _ _) (Value.float _ _)) _ _ _)); (fail_if_success (with_reducible show wpAny _ _ (binaryOp Operator.Mod (Value.float _ _) (Value.int _ _)) _ _ _)); (first | (k_unfold; (try dsimp only)) | (k_end; wrow_close) | (walk1 <;> (try dsimp only)) | (dsimp only; walk1) | (leave1; walk_say "STEP leave1"; try dsimp only) | fail "no step")))
  (with_reducible refine' vtrunc_D (b) ?hh ?b0 ?b1 ?b2 ?b3 ?b4 ?b5 ?_); (case hh => exact rfl); (case b0 => ktn_open); (case b1 => ktn_open); (case b2 => ktn_open); (case b3 => ktn_open); (case b4 => ktn_open); (case b5 => ktn_open); (try dsimp only)
  (repeat' ((fail_if_success (with_reducible show wpAny _ _ (call (Value.builtin "math.trunc") [Value.float (D _ _) _]) _ _ _)); (fail_if_success (with_reducible show wpAny _ _ (binaryOp Operator.Mod (Value.float _ _) (Value.float _ _)) _ _ _)); (fail_if_success (with_reducible show wpAny _ _ (binaryOp Operator.Mod (Value.float _ _) (Value.int _ _)) _ _ _)); (first | (k_unfold; (try dsimp only)) | (k_end; wrow_close) | (walk1 <;> (try dsimp only)) | (dsimp only; walk1) | (leave1; walk_say "STEP leave1"; try dsimp only) | fail "no step")))
  (with_reducible refine' vmod_fi (2 * (1461 * c + 365 * e + p)) (b) ?hh ?e0 ?b0 ?b1 ?b2 ?b3 ?b4 ?b5 ?b6 ?_); (case hh => exact rfl); (case e0 => ktr_rel); (case b0 => ktn_open); (case b1 => ktn_open); (case b2 => ktn_open); (case b3 => ktn_open); (case b4 => ktn_open); (case b5 => ktn_open); (case b6 => ktn_open); (try dsimp only)
  (repeat' ((fail_if_success (with_reducible show wpAny _ _ (call (Value.builtin "math.trunc") [Value.float (D _ _) _]) _ _ _)); (fail_if_success (with_reducible show wpAny _ _ (binaryOp Operator.Mod (Value.float _ _) (Value.float _ _)) _ _ _)); (fail_if_success (with_reducible show wpAny _ _ (binaryOp Operator.Mod (Value.float _ _) (Value.int _ _)) _ _ _)); (first | (k_unfold; (try dsimp only)) | (k_end; wrow_close) | (walk1 <;> (try dsimp only)) | (dsimp only; walk1) | (leave1; walk_say "STEP leave1"; try dsimp only) | fail "no step")))
  (with_reducible refine' vtrunc_D (c) ?hh ?b0 ?b1 ?b2 ?b3 ?b4 ?b5 ?_); (case hh => exact rfl); (case b0 => ktn_open); (case b1 => ktn_open); (case b2 => ktn_open); (case b3 => ktn_open); (case b4 => ktn_open); (case b5 => ktn_open); (try dsimp only)
  have hpp : p = 365 ∧ e = 3 ∨ p ≤ 364 := by omega
  (repeat' ((fail_if_success (with_reducible show wpAny _ _ (call (Value.builtin "math.trunc") [Value.float (D _ _) _]) _ _ _)); (fail_if_success (with_reducible show wpAny _ _ (binaryOp Operator.Mod (Value.float _ _) (Value.float _ _)) _ _ _)); (fail_if_success (with_reducible show wpAny _ _ (binaryOp Operator.Mod (Value.float _ _) (Value.int _ _)) _ _ _)); (first | (k_unfold; (try dsimp only)) | (k_end; wrow_close) | (walk1 <;> (try dsimp only)) | (dsimp only; walk1) | (leave1; walk_say "STEP leave1"; try dsimp only) | fail "no step")))
  (with_reducible refine' vmod_ff (2 * (365 * e + p)) (c) ?hh ?e0 ?e1 ?b0 ?b1 ?b2 ?b3 ?b4 ?b5 ?b6 ?_); (case hh => exact rfl); (case e0 => ktr_rel); (case e1 => ktr_rel); (case b0 => ktn_open); (case b1 => ktn_open); (case b2 => ktn_open); (case b3 => ktn_open); (case b4 => ktn_open); (case b5 => ktn_open); (case b6 => ktn_open); (try dsimp only)
  rcases hpp with ⟨hp4, hp5⟩ | hp4
  · skip
    (repeat' ((fail_if_success (with_reducible show wpAny _ _ (call (Value.builtin "math.trunc") [Value.float (D _ _) _]) _ _ _)); (fail_if_success (with_reducible show wpAny _ _ (binaryOp Operator.Mod (Value.float _ _) (Value.float _ _)) _ _ _)); (fail_if_success (with_reducible show wpAny _ _ (binaryOp Operator.Mod (Value.float _ _) (Value.int _ _)) _ _ _)); (first | (k_unfold; (try dsimp only)) | (k_end; wrow_close) | (walk1 <;> (try dsimp only)) | (dsimp only; walk1) | (leave1; walk_say "STEP leave1"; try dsimp only) | fail "no step")))
    (with_reducible refine' vtrunc_D (4) ?hh ?b0 ?b1 ?b2 ?b3 ?b4 ?b5 ?_); (case hh => exact rfl); (case b0 => ktn_open); (case b1 => ktn_open); (case b2 => ktn_open); (case b3 => ktn_open); (case b4 => ktn_open); (case b5 => ktn_open); (try dsimp only)
    (repeat' ((fail_if_success (with_reducible show wpAny _ _ (call (Value.builtin "math.trunc") [Value.float (D _ _) _]) _ _ _)); (fail_if_success (with_reducible show wpAny _ _ (binaryOp Operator.Mod (Value.float _ _) (Value.float _ _)) _ _ _)); (fail_if_success (with_reducible show wpAny _ _ (binaryOp Operator.Mod (Value.float _ _) (Value.int _ _)) _ _ _)); (first | (k_unfold; (try dsimp only)) | (k_end; wrow_close) | (walk1 <;> (try dsimp only)) | (dsimp only; walk1) | (leave1; walk_say "STEP leave1"; try dsimp only) | fail "no step")))
    (with_reducible refine' vtrunc_D (m - 1) ?hh ?b0 ?b1 ?b2 ?b3 ?b4 ?b5 ?_); (case hh => exact rfl); (case b0 => ktn_open); (case b1 => ktn_open); (case b2 => ktn_open); (case b3 => ktn_open); (case b4 => ktn_open); (case b5 => ktn_open); (try dsimp only)
    (repeat' ((first | (k_unfold; (try dsimp only)) | (k_end; wrow_close) | (walk1 <;> (try dsimp only)) | (dsimp only; walk1) | (leave1; walk_say "STEP leave1"; try dsimp only) | fail "no step")))
    refine' retT hret ?e1 ?e2 ?e3 ?F ?NM ?hn ?hl
    case NM => exact ⟨by k_asm, List.Mem.head _⟩
    case hn => exact fun x h => List.Mem.tail _ (by revert x h; kcj_all)
    case hl => first | exact allLt_of (by assumption) | assumption | exact (‹_ ∧ AllLt _ news›).2 | exact (‹_ ∧ _ ∧ AllLt _ news›).2.2 | exact (‹_ ∧ _ ∧ _ ∧ AllLt _ news›).2.2.2 | exact (‹_ ∧ _ ∧ _ ∧ _ ∧ AllLt _ news›).2.2.2.2 | exact (‹_ ∧ _ ∧ _ ∧ _ ∧ _ ∧ AllLt _ news›).2.2.2.2.2 | exact (‹_ ∧ _ ∧ _ ∧ _ ∧ _ ∧ _ ∧ AllLt _ news›).2.2.2.2.2.2 | exact (‹_ ∧ _ ∧ _ ∧ _ ∧ _ ∧ _ ∧ _ ∧ AllLt _ news›).2.2.2.2.2.2.2 | exact (‹_ ∧ _ ∧ _ ∧ _ ∧ _ ∧ _ ∧ _ ∧ _ ∧ AllLt _ news›).2.2.2.2.2.2.2.2 | exact (‹_ ∧ _ ∧ _ ∧ _ ∧ _ ∧ _ ∧ _ ∧ _ ∧ _ ∧ AllLt _ news›).2.2.2.2.2.2.2.2.2 
    case F => k_asm
    case e1 => (law_clear; omega)
    case e2 => (law_clear; omega)
    case e3 => (law_clear; omega)
  · skip
    (repeat' ((fail_if_success (with_reducible show wpAny _ _ (call (Value.builtin "math.trunc") [Value.float (D _ _) _]) _ _ _)); (fail_if_success (with_reducible show wpAny _ _ (binaryOp Operator.Mod (Value.float _ _) (Value.float _ _)) _ _ _)); (fail_if_success (with_reducible show wpAny _ _ (binaryOp Operator.Mod (Value.float _ _) (Value.int _ _)) _ _ _)); (first | (k_unfold; (try dsimp only)) | (k_end; wrow_close) | (walk1 <;> (try dsimp only)) | (dsimp only; walk1) | (leave1; walk_say "STEP leave1"; try dsimp only) | fail "no step")))
    (with_reducible refine' vmod_ff (2 * (365 * e + p)) (c) ?hh ?e0 ?e1 ?b0 ?b1 ?b2 ?b3 ?b4 ?b5 ?b6 ?_); (case hh => exact rfl); (case e0 => ktr_rel); (case e1 => ktr_rel); (case b0 => ktn_open); (case b1 => ktn_open); (case b2 => ktn_open); (case b3 => ktn_open); (case b4 => ktn_open); (case b5 => ktn_open); (case b6 => ktn_open); (try dsimp only)
    (repeat' ((fail_if_success (with_reducible show wpAny _ _ (call (Value.builtin "math.trunc") [Value.float (D _ _) _]) _ _ _)); (fail_if_success (with_reducible show wpAny _ _ (binaryOp Operator.Mod (Value.float _ _) (Value.float _ _)) _ _ _)); (fail_if_success (with_reducible show wpAny _ _ (binaryOp Operator.Mod (Value.float _ _) (Value.int _ _)) _ _ _)); (first | (k_unfold; (try dsimp only)) | (k_end; wrow_close) | (walk1 <;> (try dsimp only)) | (dsimp only; walk1) | (leave1; walk_say "STEP leave1"; try dsimp only) | fail "no step")))
    (with_reducible refine' vtrunc_D (e) ?hh ?b0 ?b1 ?b2 ?b3 ?b4 ?b5 ?_); (case hh => exact rfl); (case b0 => ktn_open); (case b1 => ktn_open); (case b2 => ktn_open); (case b3 => ktn_open); (case b4 => ktn_open); (case b5 => ktn_open); (try dsimp only)
    (repeat' ((fail_if_success (with_reducible show wpAny _ _ (call (Value.builtin "math.trunc") [Value.float (D _ _) _]) _ _ _)); (fail_if_success (with_reducible show wpAny _ _ (binaryOp Operator.Mod (Value.float _ _) (Value.float _ _)) _ _ _)); (fail_if_success (with_reducible show wpAny _ _ (binaryOp Operator.Mod (Value.float _ _) (Value.int _ _)) _ _ _)); (first | (k_unfold; (try dsimp only)) | (k_end; wrow_close) | (walk1 <;> (try dsimp only)) | (dsimp only; walk1) | (leave1; walk_say "STEP leave1"; try dsimp only) | fail "no step")))
    (with_reducible refine' vmod_ff (2 * p) (e) ?hh ?e0 ?e1 ?b0 ?b1 ?b2 ?b3 ?b4 ?b5 ?b6 ?_); (case hh => exact rfl); (case e0 => ktr_rel); (case e1 => ktr_rel); (case b0 => ktn_open); (case b1 => ktn_open); (case b2 => ktn_open); (case b3 => ktn_open); (case b4 => ktn_open); (case b5 => ktn_open); (case b6 => ktn_open); (try dsimp only)
    (repeat' ((fail_if_success (with_reducible show wpAny _ _ (call (Value.builtin "math.trunc") [Value.float (D _ _) _]) _ _ _)); (fail_if_success (with_reducible show wpAny _ _ (binaryOp Operator.Mod (Value.float _ _) (Value.float _ _)) _ _ _)); (fail_if_success (with_reducible show wpAny _ _ (binaryOp Operator.Mod (Value.float _ _) (Value.int _ _)) _ _ _)); (first | (k_unfold; (try dsimp only)) | (k_end; wrow_close) | (walk1 <;> (try dsimp only)) | (dsimp only; walk1) | (leave1; walk_say "STEP leave1"; try dsimp only) | fail "no step")))
    (with_reducible refine' vtrunc_D (m - 1) ?hh ?b0 ?b1 ?b2 ?b3 ?b4 ?b5 ?_); (case hh => exact rfl); (case b0 => ktn_open); (case b1 => ktn_open); (case b2 => ktn_open); (case b3 => ktn_open); (case b4 => ktn_open); (case b5 => ktn_open); (try dsimp only)
    (repeat' ((first | (k_unfold; (try dsimp only)) | (k_end; wrow_close) | (walk1 <;> (try dsimp only)) | (dsimp only; walk1) | (leave1; walk_say "STEP leave1"; try dsimp only) | fail "no step")))
    refine' retT hret ?e1 ?e2 ?e3 ?F ?NM ?hn ?hl
    case NM => exact ⟨by k_asm, List.Mem.head _⟩
    case hn => exact fun x h => List.Mem.tail _ (by revert x h; kcj_all)
    case hl => first | exact allLt_of (by assumption) | assumption | exact (‹_ ∧ AllLt _ news›).2 | exact (‹_ ∧ _ ∧ AllLt _ news›).2.2 | exact (‹_ ∧ _ ∧ _ ∧ AllLt _ news›).2.2.2 | exact (‹_ ∧ _ ∧ _ ∧ _ ∧ AllLt _ news›).2.2.2.2 | exact (‹_ ∧ _ ∧ _ ∧ _ ∧ _ ∧ AllLt _ news›).2.2.2.2.2 | exact (‹_ ∧ _ ∧ _ ∧ _ ∧ _ ∧ _ ∧ AllLt _ news›).2.2.2.2.2.2 | exact (‹_ ∧ _ ∧ _ ∧ _ ∧ _ ∧ _ ∧ _ ∧ AllLt _ news›).2.2.2.2.2.2.2 | exact (‹_ ∧ _ ∧ _ ∧ _ ∧ _ ∧ _ ∧ _ ∧ _ ∧ AllLt _ news›).2.2.2.2.2.2.2.2 | exact (‹_ ∧ _ ∧ _ ∧ _ ∧ _ ∧ _ ∧ _ ∧ _ ∧ _ ∧ AllLt _ news›).2.2.2.2.2.2.2.2.2 
    case F => k_asm
    case e1 => (law_clear; omega)
    case e2 => (law_clear; omega)
    case e3 => (law_clear; omega)

end
section
local macro_rules | `(tactic| walk_at "zz0") => `(tactic| skip)
local macro_rules | `(tactic| walk_at "zz1") => `(tactic| skip)
local macro_rules | `(tactic| walk_at "zz2") => `(tactic| skip)
local macro_rules | `(tactic| walk_at "zz3") => `(tactic| skip)
local macro_rules | `(tactic| walk_at "zz4") => `(tactic| skip)
local macro_rules | `(tactic| walk_at "zz5") => `(tactic| skip)
local macro_rules | `(tactic| walk_at "zz6") => `(tactic| skip)
local macro_rules | `(tactic| walk_at "zz7") => `(tactic| skip)
local macro_rules | `(tactic| walk_at "zz8") => `(tactic| skip)
local macro_rules | `(tactic| walk_at "zz9") => `(tactic| skip)
local macro_rules | `(tactic| walk_at "zz10") => `(tactic| skip)
local macro_rules | `(tactic| walk_at "zz11") => `(tactic| skip)
local macro_rules | `(tactic| walk_at "zz12") => `(tactic| skip)
local macro_rules | `(tactic| walk_at "zz13") => `(tactic| skip)
local macro_rules | `(tactic| walk_at "zz14") => `(tactic| skip)
local macro_rules | `(tactic| walk_at "zz15") => `(tactic| skip)
local macro_rules | `(tactic| walk_at "zz16") => `(tactic| skip)
local macro_rules | `(tactic| walk_at "zz17") => `(tactic| skip)
local macro_rules | `(tactic| walk_at "zz18") => `(tactic| skip)
local macro_rules | `(tactic| walk_at "zz19") => `(tactic| skip)
local macro_rules | `(tactic| walk_at "zz20") => `(tactic| skip)
local macro_rules | `(tactic| walk_at "zz21") => `(tactic| skip)
local macro_rules | `(tactic| walk_at "zz22") => `(tactic| skip)
local macro_rules | `(tactic| walk_at "zz23") => `(tactic| skip)
local macro_rules | `(tactic| walk_at "zz24") => `(tactic| skip)
local macro_rules | `(tactic| walk_at "zz25") => `(tactic| skip)
local macro_rules | `(tactic| walk_at "zz26") => `(tactic| skip)
local macro_rules | `(tactic| walk_at "zz27") => `(tactic| skip)
local macro_rules | `(tactic| walk_at "zz28") => `(tactic| skip)
local macro_rules | `(tactic| walk_at "zz29") => `(tactic| skip)
local macro_rules | `(tactic| walk_at "zz30") => `(tactic| skip)
local macro_rules | `(tactic| walk_at "zz31") => `(tactic| skip)
local macro_rules | `(tactic| walk_at "zz32") => `(tactic| skip)
local macro_rules | `(tactic| walk_at "zz33") => `(tactic| skip)
local macro_rules | `(tactic| walk_at "zz34") => `(tactic| skip)
local macro_rules | `(tactic| walk_at "zz35") => `(tactic| skip)
local macro_rules | `(tactic| walk_at "zz36") => `(tactic| skip)
local macro_rules | `(tactic| walk_at "zz37") => `(tactic| skip)
local macro_rules | `(tactic| walk_at "zz38") => `(tactic| skip)
local macro_rules | `(tactic| walk_at "zz39") => `(tactic| skip)
local macro_rules | `(tactic| walk_at "eval Name") => `(tactic| (k_here; (with_reducible rename Fr _ _ _ _ => kF); name_kind "globalImplicit"; k_dflt (refine' name_K kF ?k1 ?k2 ?k3 ?_; (case k1 => k_asm); (case k2 => k_asm); (case k3 => with_reducible (first | exact gl_floor _ | exact gl_trunc _ | exact gl_EPOCH_gregorian _ | exact gl_INTERCALATION_CYCLE_YEARS _ | exact gl_INTERCALATION_CYCLE_DAYS _ | exact gl_LEAP_SUPPRESSION_YEARS _ | exact gl_LEAP_SUPPRESSION_DAYS _ | exact gl_LEAP_CYCLE_YEARS_gregorian _ | exact gl_LEAP_CYCLE_DAYS_gregorian _ | exact gl_YEAR_DAYS _ | exact gl_HAVE_30_DAYS _ | exact gl_isleap _ | exact gl_legal_date _ | exact gl_to_jd_gregorian _ | exact gl_from_jd_gregorian _ | exact gl_EPOCH_french_republican _ | exact gl_DAYS_IN_YEAR _ | exact gl_LEAP_CYCLE_DAYS_french_republican _ | exact gl_LEAP_CYCLE_YEARS_french_republican _ | exact gl_leap _ | exact gl_to_jd_french_republican _ | exact gl_to_jd_schematic _ | exact gl_from_jd_french_republican _ | exact gl_from_jd_schematic _ | exact gl_from_gregorian _ | exact gl_to_gregorian _ | exact gl_law_long _ | exact gl_law_first _ | exact gl_law_asked _)); k_whole)))

theorem c_fsM (w : World) (mean : ExcName → Option Value) (mg mb : Str → Option Value) (a c e p n y m d : Int) (t : Tok) (nv : Value) (hN : IsNm 2 nv) (hy : y = 128 * a + 4 * c + e + 17) (ha : 0 ≤ a ∧ a ≤ 90000) (hc : 0 ≤ c ∧ c ≤ 31) (hr : 0 ≤ e ∧ e ≤ 3) (hJ : n - 2375840 - 5844 = 46751 * a + 1461 * c + 365 * e + p) (hn0 : 2375840 + 6209 < n) (hp : 0 ≤ p ∧ p ≤ 365) (hp2 : p ≠ 365 ∨ e = 3) (hp1 : 1461 * c + 365 * e + p < 46751) (hp3 : p = 30 * (m - 1) + d - 1) (hm : 1 ≤ m ∧ m ≤ 13) (hd0 : 1 ≤ d ∧ d ≤ 30) :
    Claim w mean mg mb 1 109 [.float (H (2 * n - 1)) t, nv] (RT y m d) := by
  dsimp only [Claim]
  intro dp un gd cn cs a₀ ccd cl outer A₀ base h₀ L mm news s Q E hB hF hK hNw hT hk hd hu hret
  refine wpAny_call ?_
  k_dflt cell_enter
  (repeat' ((fail_if_success (with_reducible show wpAny _ _ (call (Value.builtin "math.trunc") [Value.float (D _ _) _]) _ _ _)); (fail_if_success (with_reducible show wpAny _ _ (binaryOp Operator.Mod (Value.float _ _) (Value.float _ _)) _ _ _)); (fail_if_success (with_reducible show wpAny _ _ (binaryOp Operator.Mod (Value.float _ _) (Value.int _ _)) _ _ _)); (first | (k_unfold; (try dsimp only)) | (k_end; wrow_close) | (walk1 <;> (try dsimp only)) | (dsimp only; walk1) | (leave1; walk_say "STEP leave1"; try dsimp only) | fail "no step")))
  (with_reducible refine' vtrunc_D (a) ?hh ?b0 ?b1 ?b2 ?b3 ?b4 ?b5 ?_); (case hh => exact rfl); (case b0 => ktn_open); (case b1 => ktn_open); (case b2 => ktn_open); (case b3 => ktn_open); (case b4 => ktn_open); (case b5 => ktn_open); (try dsimp only)
  (repeat' ((fail_if_success (with_reducible show wpAny _ _ (call (Value.builtin "math.trunc") [Value.float (D _ _) _]) _ _ _)); (fail_if_success (with_reducible show wpAny _ _ (binaryOp Operator.Mod (Value.float _ _) (Value.float _ _)) _ _ _)); (fail_if_success (with_reducible show wpAny _ _ (binaryOp Operator.Mod (Value.float _ _) (Value.int _ _)) _ _ _)); (first | (k_unfold; (try dsimp only)) | (k_end; wrow_close) | (walk1 <;> (try dsimp only)) | (dsimp only; walk1) | (leave1; walk_say "STEP leave1"; try dsimp only) | fail "no step")))
  (with_reducible refine' vmod_fi (2 * (1461 * c + 365 * e + p)) (a) ?hh ?e0 ?b0 ?b1 ?b2 ?b3 ?b4 ?b5 ?b6 ?_); (case hh => exact rfl); (case e0 => ktr_rel); (case b0 => ktn_open); (case b1 => ktn_open); (case b2 => ktn_open); (case b3 => ktn_open); (case b4 => ktn_open); (case b5 => ktn_open); (case b6 => ktn_open); (try dsimp only)
  (repeat' ((fail_if_success (with_reducible show wpAny _ _ (call (Value.builtin "math.trunc") [Value.float (D _ _) _]) _ _ _)); (fail_if_success (with_reducible show wpAny _ _ (binaryOp Operator.Mod (Value.float _ _) (Value.float _ _)) _ _ _)); (fail_if_success (with_reducible show wpAny _ _ (binaryOp Operator.Mod (Value.float _ _) (Value.int _ _)) _ _ _)); (first | (k_unfold; (try dsimp only)) | (k_end; wrow_close) | (walk1 <;> (try dsimp only)) | (dsimp only; walk1) | (leave1; walk_say "STEP leave1"; try dsimp only) | fail "no step")))
  (with_reducible refine' vtrunc_D (c) ?hh ?b0 ?b1 ?b2 ?b3 ?b4 ?b5 ?_); (case hh => exact rfl); (case b0 => ktn_open); (case b1 => ktn_open); (case b2 => ktn_open); (case b3 => ktn_open); (case b4 => ktn_open); (case b5 => ktn_open); (try dsimp only)
  have hpp : p = 365 ∧ e = 3 ∨ p ≤ 364 := by omega
  (repeat' ((fail_if_success (with_reducible show wpAny _ _ (call (Value.builtin "math.trunc") [Value.float (D _ _) _]) _ _ _)); (fail_if_success (with_reducible show wpAny _ _ (binaryOp Operator.Mod (Value.float _ _) (Value.float _ _)) _ _ _)); (fail_if_success (with_reducible show wpAny _ _ (binaryOp Operator.Mod (Value.float _ _) (Value.int _ _)) _ _ _)); (first | (k_unfold; (try dsimp only)) | (k_end; wrow_close) | (walk1 <;> (try dsimp only)) | (dsimp only; walk1) | (leave1; walk_say "STEP leave1"; try dsimp only) | fail "no step")))
  (with_reducible refine' vmod_ff (2 * (365 * e + p)) (c) ?hh ?e0 ?e1 ?b0 ?b1 ?b2 ?b3 ?b4 ?b5 ?b6 ?_); (case hh => exact rfl); (case e0 => ktr_rel); (case e1 => ktr_rel); (case b0 => ktn_open); (case b1 => ktn_open); (case b2 => ktn_open); (case b3 => ktn_open); (case b4 => ktn_open); (case b5 => ktn_open); (case b6 => ktn_open); (try dsimp only)
  rcases hpp with ⟨hp4, hp5⟩ | hp4
  · skip
    (repeat' ((fail_if_success (with_reducible show wpAny _ _ (call (Value.builtin "math.trunc") [Value.float (D _ _) _]) _ _ _)); (fail_if_success (with_reducible show wpAny _ _ (binaryOp Operator.Mod (Value.float _ _) (Value.float _ _)) _ _ _)); (fail_if_success (with_reducible show wpAny _ _ (binaryOp Operator.Mod (Value.float _ _) (Value.int _ _)) _ _ _)); (first | (k_unfold; (try dsimp only)) | (k_end; wrow_close) | (walk1 <;> (try dsimp only)) | (dsimp only; walk1) | (leave1; walk_say "STEP leave1"; try dsimp only) | fail "no step")))
    (with_reducible refine' vtrunc_D (4) ?hh ?b0 ?b1 ?b2 ?b3 ?b4 ?b5 ?_); (case hh => exact rfl); (case b0 => ktn_open); (case b1 => ktn_open); (case b2 => ktn_open); (case b3 => ktn_open); (case b4 => ktn_open); (case b5 => ktn_open); (try dsimp only)
    (repeat' ((fail_if_success (with_reducible show wpAny _ _ (call (Value.builtin "math.trunc") [Value.float (D _ _) _]) _ _ _)); (fail_if_success (with_reducible show wpAny _ _ (binaryOp Operator.Mod (Value.float _ _) (Value.float _ _)) _ _ _)); (fail_if_success (with_reducible show wpAny _ _ (binaryOp Operator.Mod (Value.float _ _) (Value.int _ _)) _ _ _)); (first | (k_unfold; (try dsimp only)) | (k_end; wrow_close) | (walk1 <;> (try dsimp only)) | (dsimp only; walk1) | (leave1; walk_say "STEP leave1"; try dsimp only) | fail "no step")))
    (with_reducible refine' vtrunc_D (m - 1) ?hh ?b0 ?b1 ?b2 ?b3 ?b4 ?b5 ?_); (case hh => exact rfl); (case b0 => ktn_open); (case b1 => ktn_open); (case b2 => ktn_open); (case b3 => ktn_open); (case b4 => ktn_open); (case b5 => ktn_open); (try dsimp only)
    (repeat' ((first | (k_unfold; (try dsimp only)) | (k_end; wrow_close) | (walk1 <;> (try dsimp only)) | (dsimp only; walk1) | (leave1; walk_say "STEP leave1"; try dsimp only) | fail "no step")))
    refine' retT hret ?e1 ?e2 ?e3 ?F ?NM ?hn ?hl
    case NM => exact ⟨by k_asm, List.Mem.head _⟩
    case hn => exact fun x h => List.Mem.tail _ (by revert x h; kcj_all)
    case hl => first | exact allLt_of (by assumption) | assumption | exact (‹_ ∧ AllLt _ news›).2 | exact (‹_ ∧ _ ∧ AllLt _ news›).2.2 | exact (‹_ ∧ _ ∧ _ ∧ AllLt _ news›).2.2.2 | exact (‹_ ∧ _ ∧ _ ∧ _ ∧ AllLt _ news›).2.2.2.2 | exact (‹_ ∧ _ ∧ _ ∧ _ ∧ _ ∧ AllLt _ news›).2.2.2.2.2 | exact (‹_ ∧ _ ∧ _ ∧ _ ∧ _ ∧ _ ∧ AllLt _ news›).2.2.2.2.2.2 | exact (‹_ ∧ _ ∧ _ ∧ _ ∧ _ ∧ _ ∧ _ ∧ AllLt _ news›).2.2.2.2.2.2.2 | exact (‹_ ∧ _ ∧ _ ∧ _ ∧ _ ∧ _ ∧ _ ∧ _ ∧ AllLt _ news›).2.2.2.2.2.2.2.2 | exact (‹_ ∧ _ ∧ _ ∧ _ ∧ _ ∧ _ ∧ _ ∧ _ ∧ _ ∧ AllLt _ news›).2.2.2.2.2.2.2.2.2 
    case F => k_asm
    case e1 => (law_clear; omega)
    case e2 => (law_clear; omega)
    case e3 => (law_clear; omega)
  · skip
    (repeat' ((fail_if_success (with_reducible show wpAny _ _ (call (Value.builtin "math.trunc") [Value.float (D _ _) _]) _ _ _)); (fail_if_success (with_reducible show wpAny _ _ (binaryOp Operator.Mod (Value.float _ _) (Value.float _ _)) _ _ _)); (fail_if_success (with_reducible show wpAny _ _ (binaryOp Operator.Mod (Value.float _ _) (Value.int _ _)) _ _ _)); (first | (k_unfold; (try dsimp only)) | (k_end; wrow_close) | (walk1 <;> (try dsimp only)) | (dsimp only; walk1) | (leave1; walk_say "STEP leave1"; try dsimp only) | fail "no step")))
    (with_reducible refine' vmod_ff (2 * (365 * e + p)) (c) ?hh ?e0 ?e1 ?b0 ?b1 ?b2 ?b3 ?b4 ?b5 ?b6 ?_); (case hh => exact rfl); (case e0 => ktr_rel); (case e1 => ktr_rel); (case b0 => ktn_open); (case b1 => ktn_open); (case b2 => ktn_open); (case b3 => ktn_open); (case b4 => ktn_open); (case b5 => ktn_open); (case b6 => ktn_open); (try dsimp only)
    (repeat' ((fail_if_success (with_reducible show wpAny _ _ (call (Value.builtin "math.trunc") [Value.float (D _ _) _]) _ _ _)); (fail_if_success (with_reducible show wpAny _ _ (binaryOp Operator.Mod (Value.float _ _) (Value.float _ _)) _ _ _)); (fail_if_success (with_reducible show wpAny _ _ (binaryOp Operator.Mod (Value.float _ _) (Value.int _ _)) _ _ _)); (first | (k_unfold; (try dsimp only)) | (k_end; wrow_close) | (walk1 <;> (try dsimp only)) | (dsimp only; walk1) | (leave1; walk_say "STEP leave1"; try dsimp only) | fail "no step")))
    (with_reducible refine' vtrunc_D (e) ?hh ?b0 ?b1 ?b2 ?b3 ?b4 ?b5 ?_); (case hh => exact rfl); (case b0 => ktn_open); (case b1 => ktn_open); (case b2 => ktn_open); (case b3 => ktn_open); (case b4 => ktn_open); (case b5 => ktn_open); (try dsimp only)
    (repeat' ((fail_if_success (with_reducible show wpAny _ _ (call (Value.builtin "math.trunc") [Value.float (D _ _) _]) _ _ _)); (fail_if_success (with_reducible show wpAny _ _ (binaryOp Operator.Mod (Value.float _ _) (Value.float _ _)) _ _ _)); (fail_if_success (with_reducible show wpAny _ _ (binaryOp Operator.Mod (Value.float _ _) (Value.int _ _)) _ _ _)); (first | (k_unfold; (try dsimp only)) | (k_end; wrow_close) | (walk1 <;> (try dsimp only)) | (dsimp only; walk1) | (leave1; walk_say "STEP leave1"; try dsimp only) | fail "no step")))
    (with_reducible refine' vmod_ff (2 * p) (e) ?hh ?e0 ?e1 ?b0 ?b1 ?b2 ?b3 ?b4 ?b5 ?b6 ?_); (case hh => exact rfl); (case e0 => ktr_rel); (case e1 => ktr_rel); (case b0 => ktn_open); (case b1 => ktn_open); (case b2 => ktn_open); (case b3 => ktn_open); (case b4 => ktn_open); (case b5 => ktn_open); (case b6 => ktn_open); (try dsimp only)
    (repeat' ((fail_if_success (with_reducible show wpAny _ _ (call (Value.builtin "math.trunc") [Value.float (D _ _) _]) _ _ _)); (fail_if_success (with_reducible show wpAny _ _ (binaryOp Operator.Mod (Value.float _ _) (Value.float _ _)) _ _ _)); (fail_if_success (with_reducible show wpAny _ _ (binaryOp Operator.Mod (Value.float _ _) (Value.int _ _)) _ _ _)); (first | (k_unfold; (try dsimp only)) | (k_end; wrow_close) | (walk1 <;> (try dsimp only)) | (dsimp only; walk1) | (leave1; walk_say "STEP leave1"; try dsimp only) | fail "no step")))
    (with_reducible refine' vtrunc_D (m - 1) ?hh ?b0 ?b1 ?b2 ?b3 ?b4 ?b5 ?_); (case hh => exact rfl); (case b0 => ktn_open); (case b1 => ktn_open); (case b2 => ktn_open); (case b3 => ktn_open); (case b4 => ktn_open); (case b5 => ktn_open); (try dsimp only)
    (repeat' ((first | (k_unfold; (try dsimp only)) | (k_end; wrow_close) | (walk1 <;> (try dsimp only)) | (dsimp only; walk1) | (leave1; walk_say "STEP leave1"; try dsimp only) | fail "no step")))
    refine' retT hret ?e1 ?e2 ?e3 ?F ?NM ?hn ?hl
    case NM => exact ⟨by k_asm, List.Mem.head _⟩
    case hn => exact fun x h => List.Mem.tail _ (by revert x h; kcj_all)
    case hl => first | exact allLt_of (by assumption) | assumption | exact (‹_ ∧ AllLt _ news›).2 | exact (‹_ ∧ _ ∧ AllLt _ news›).2.2 | exact (‹_ ∧ _ ∧ _ ∧ AllLt _ news›).2.2.2 | exact (‹_ ∧ _ ∧ _ ∧ _ ∧ AllLt _ news›).2.2.2.2 | exact (‹_ ∧ _ ∧ _ ∧ _ ∧ _ ∧ AllLt _ news›).2.2.2.2.2 | exact (‹_ ∧ _ ∧ _ ∧ _ ∧ _ ∧ _ ∧ AllLt _ news›).2.2.2.2.2.2 | exact (‹_ ∧ _ ∧ _ ∧ _ ∧ _ ∧ _ ∧ _ ∧ AllLt _ news›).2.2.2.2.2.2.2 | exact (‹_ ∧ _ ∧ _ ∧ _ ∧ _ ∧ _ ∧ _ ∧ _ ∧ AllLt _ news›).2.2.2.2.2.2.2.2 | exact (‹_ ∧ _ ∧ _ ∧ _ ∧ _ ∧ _ ∧ _ ∧ _ ∧ _ ∧ AllLt _ news›).2.2.2.2.2.2.2.2.2 
    case F => k_asm
    case e1 => (law_clear; omega)
    case e2 => (law_clear; omega)
    case e3 => (law_clear; omega)

end
section
local macro_rules | `(tactic| walk_at "eval Name") => `(tactic| (k_here; (with_reducible rename Fr _ _ _ _ => kF); name_kind "globalImplicit"; k_dflt (refine' name_K kF ?k1 ?k2 ?k3 ?_; (case k1 => k_asm); (case k2 => k_asm); (case k3 => with_reducible (first | exact gl_floor _ | exact gl_trunc _ | exact gl_EPOCH_gregorian _ | exact gl_INTERCALATION_CYCLE_YEARS _ | exact gl_INTERCALATION_CYCLE_DAYS _ | exact gl_LEAP_SUPPRESSION_YEARS _ | exact gl_LEAP_SUPPRESSION_DAYS _ | exact gl_LEAP_CYCLE_YEARS_gregorian _ | exact gl_LEAP_CYCLE_DAYS_gregorian _ | exact gl_YEAR_DAYS _ | exact gl_HAVE_30_DAYS _ | exact gl_isleap _ | exact gl_legal_date _ | exact gl_to_jd_gregorian _ | exact gl_from_jd_gregorian _ | exact gl_EPOCH_french_republican _ | exact gl_DAYS_IN_YEAR _ | exact gl_LEAP_CYCLE_DAYS_french_republican _ | exact gl_LEAP_CYCLE_YEARS_french_republican _ | exact gl_leap _ | exact gl_to_jd_french_republican _ | exact gl_to_jd_schematic _ | exact gl_from_jd_french_republican _ | exact gl_from_jd_schematic _ | exact gl_from_gregorian _ | exact gl_to_gregorian _ | exact gl_law_long _ | exact gl_law_first _ | exact gl_law_asked _)); k_whole)))

theorem c_to_jd_gG (w : World) (mean : ExcName → Option Value) (mg mb : Str → Option Value) (n y mo d : Int) (t u v : Tok) (hG : GD n y mo d) :
    Claim w mean mg mb 3 64 [.int y t, .int mo u, .int d v] (RV fun t => .float (H (2 * n - 1)) t) := by
  have h := c_to_jd_g w mean mg mb y mo d t u v hG.1
  rw [← hG.2] at h; exact h
theorem lg_day {way y m d p : Int} (hm : 1 ≤ m ∧ m ≤ 13) (hd : 1 ≤ d ∧ d ≤ 30) (h13 : m = 13 → d ≤ 5 + lo way y) (hp : p = 30 * (m - 1) + d - 1) : 0 ≤ p ∧ p ≤ 365 ∧ (p ≠ 365 ∨ Lg way y ∧ m = 13 ∧ d = 6) := by
  have h := lo_cases way y
  refine ⟨by omega, by omega, ?_⟩
  by_cases h1 : p = 365
  · rcases h with ⟨h2, h3, _⟩ | ⟨h2, _, _⟩
    · exact .inr ⟨h3, by omega, by omega⟩
    · exact absurd h1 (by omega)
  · exact .inl h1
theorem c_fsch (w : World) (mean : ExcName → Option Value) (mg mb : Str → Option Value) (way n y m d : Int) (t : Tok) (nv : Value) (hN : IsNm way nv) (hw : 0 ≤ way ∧ way ≤ 2) (hv : FD way n y m d) (ht : Told way y m d) :
    Claim w mean mg mb 1 109 [.float (H (2 * n - 1)) t, nv] (RT y m d) := by
  obtain ⟨⟨g1, g2, g3, g4⟩, v1, v2, v3, v4, v5, v6⟩ := hv
  obtain ⟨p, hp⟩ : ∃ p, p = 30 * (m - 1) + d - 1 := ⟨_, rfl⟩
  obtain ⟨hp0, hp1, hp2⟩ := lg_day ⟨v1, v2⟩ ⟨v3, v4⟩ v5 hp
  have hn : n = F way y + p := by omega
  clear v5 v6
  have h : way = 0 ∨ way = 1 ∨ way = 2 := by omega
  rcases h with rfl | rfl | rfl
  · have hC := C0 y
    unfold F at hn
    have hp3 : p ≠ 365 ∨ y % 4 = 3 := by
      rcases hp2 with h | ⟨h, _⟩
      · exact .inl h
      · unfold Lg at h; omega
    exact c_fsS w mean mg mb 0 (y / 4) (y % 4) p n y m d t nv hN hw (by omega) (by omega) (by omega) (by omega) (by omega) ⟨hp0, hp1⟩ hp3 hp (.inl rfl) ⟨v1, v2⟩ ⟨v3, v4⟩
  · obtain ⟨g5, g6⟩ := g3 rfl
    have hC := C1 y
    unfold F at hn
    by_cases hs : n - 2375840 ≤ 4383
    · have hy : y ≤ 13 := by omega
      have hp3 : p ≠ 365 ∨ y % 4 = 3 := by
        rcases hp2 with h | ⟨h, _⟩
        · exact .inl h
        · unfold Lg at h; omega
      exact c_fsS w mean mg mb 1 (y / 4) (y % 4) p n y m d t nv hN hw (by omega) (by omega) (by omega) (by omega) (by omega) ⟨hp0, hp1⟩ hp3 hp (.inr (.inl ⟨rfl, hs⟩)) ⟨v1, v2⟩ ⟨v3, v4⟩
    · have hy : 13 ≤ y := by omega
      have hp3 : p ≠ 365 ∨ ((y - 13) % 4 = 3 ∧ (y % 100 ≠ 12)) := by
        rcases hp2 with h | ⟨h, h7, h8⟩
        · exact .inl h
        · refine .inr ?_
          have h9 : y % 400 ≠ 12 := fun h => by have := ht rfl h h7; omega
          unfold Lg at h
          omega
      have hC' : C 1 y = (y - 1) / 4 - (y - 1) / 100 + (y - 1) / 400 := by omega
      obtain ⟨a, b, c, e, ha, hb1, hc1, he1⟩ : ∃ a b c e : Int, y = 400 * a + 100 * b + 4 * c + e + 13 ∧ (0 ≤ b ∧ b ≤ 3) ∧ (0 ≤ c ∧ c ≤ 24) ∧ (0 ≤ e ∧ e ≤ 3) :=
        ⟨(y - 13) / 400, (y - 13) % 400 / 100, (y - 13) % 100 / 4, (y - 13) % 4, by omega, by omega, by omega, by omega⟩
      have ha1 : 0 ≤ a ∧ a ≤ 9 := by omega
      have h4 : (y - 1) / 4 = 100 * a + 25 * b + c + 3 := by omega
      have hK : (y - 1) / 100 - (y - 1) / 400 = 3 * a + b := by omega
      have hp4 : p ≠ 365 ∨ e = 3 := by omega
      have hp5 : 1461 * c + 365 * e + p < 36524 := by omega
      exact c_fsR w mean mg mb a b c e p n y m d t nv hN ha ha1 hb1 hc1 he1 (by omega) (by omega) ⟨hp0, hp1⟩ hp4 hp5 hp ⟨v1, v2⟩ ⟨v3, v4⟩
  · have hC := C2 y
    unfold F at hn
    by_cases hs : n - 2375840 ≤ 6209
    · have hy : y ≤ 18 := by omega
      have hp3 : p ≠ 365 ∨ y % 4 = 3 := by
        rcases hp2 with h | ⟨h, _⟩
        · exact .inl h
        · unfold Lg at h; omega
      exact c_fsS w mean mg mb 2 (y / 4) (y % 4) p n y m d t nv hN hw (by omega) (by omega) (by omega) (by omega) (by omega) ⟨hp0, hp1⟩ hp3 hp (.inr (.inr ⟨rfl, hs⟩)) ⟨v1, v2⟩ ⟨v3, v4⟩
    · have hy : 18 ≤ y := by omega
      have g5 := g4 rfl (by omega)
      have hp3 : p ≠ 365 ∨ (y - 17) % 4 = 3 := by
        rcases hp2 with h | ⟨h, h7, h8⟩
        · exact .inl h
        · refine .inr ?_
          unfold Lg at h
          omega
      have hC' : C 2 y = (y - 1) / 4 - (y - 1) / 128 := by omega
      obtain ⟨a, c, e, ha, hc1, he1⟩ : ∃ a c e : Int, y = 128 * a + 4 * c + e + 17 ∧ (0 ≤ c ∧ c ≤ 31) ∧ (0 ≤ e ∧ e ≤ 3) :=
        ⟨(y - 17) / 128, (y - 17) % 128 / 4, (y - 17) % 4, by omega, by omega, by omega⟩
      have ha1 : 0 ≤ a ∧ a ≤ 90000 := by omega
      have h4 : (y - 1) / 4 = 32 * a + c + 4 := by omega
      have hK : (y - 1) / 128 = a := by omega
      have hc2 : c ≤ 27 := by omega
      have hp4 : p ≠ 365 ∨ e = 3 := by omega
      have hp5 : 1461 * c + 365 * e + p < 46751 := by omega
      exact c_fsM w mean mg mb a c e p n y m d t nv hN ha ha1 hc1 he1 (by omega) (by omega) ⟨hp0, hp1⟩ hp4 hp5 hp ⟨v1, v2⟩ ⟨v3, v4⟩
local macro_rules | `(tactic| walk_at "call ref") => `(tactic| (k_here; (with_reducible show wpAny _ _ (call (Value.ref 109) _) _ _ _); k_dflt (refine' use (c_fsch _ _ _ _ _ _ _ _ _ _ _ ?pn ?pw ?pv ?pt) ?k1 ?k2 ?k3 ?k4 ?k5 ?kK ?kd ?ku ?_); (case k1 => k_asm); (case k2 => k_asm); (case k3 => k_asm); (case k4 => k_asm); (case k5 => k_asm); (case kK => first | exact rfl | assumption); (case kd => ktr_room); (case ku => ktr_units); (case pn => with_reducible assumption); (case pv => with_reducible assumption); (case pw => ktn_open); (case pt => with_reducible assumption); k_whole; intro D9 t9 u9 v9 c9 h9 tk9 F9 N9 l9; (try simp only [AllLt, and_true] at l9); (try dsimp only); (try k_sweep); walk_say "CLAIM 109"))
local macro_rules | `(tactic| walk_at "call ref") => `(tactic| (k_here; (with_reducible show wpAny _ _ (call (Value.ref 64) _) _ _ _); k_dflt (refine' use (c_to_jd_gG _ _ _ _ _ _ _ _ _ _ _ ?pv) ?k1 ?k2 ?k3 ?k4 ?k5 ?kK ?kd ?ku ?_); (case k1 => k_asm); (case k2 => k_asm); (case k3 => k_asm); (case k4 => k_asm); (case k5 => k_asm); (case kK => first | exact rfl | assumption); (case kd => ktr_room); (case ku => ktr_units); (case pv => with_reducible assumption); k_whole; intro t9 h9 tk9 F9 N9; (try dsimp only); (try k_sweep); walk_say "CLAIM 64"))
theorem c_from_jd (w : World) (mean : ExcName → Option Value) (mg mb : Str → Option Value) (way n y m d : Int) (t : Tok) (nv : Value) (hN : IsNm way nv) (hw : 0 ≤ way ∧ way ≤ 2) (hv : FD way n y m d) (ht : Told way y m d) :
    Claim w mean mg mb 2 102 [.float (H (2 * n - 1)) t, nv] (RT y m d) := by
  dsimp only [Claim]
  intro dp un gd cn cs a₀ ccd cl outer A₀ base h₀ L mm news s Q E hB hF hK hNw hT hk hd hu hret
  refine wpAny_call ?_
  k_dflt cell_enter
  (repeat' ((first | (k_unfold; (try dsimp only)) | (k_end; wrow_close) | (walk1 <;> (try dsimp only)) | (dsimp only; walk1) | (leave1; walk_say "STEP leave1"; try dsimp only) | fail "no step")))
  refine' retT hret rfl rfl rfl ?F ?NM ?hn ?hl
  case NM => exact ⟨by k_asm, List.Mem.head _⟩
  case hn => exact fun x h => List.Mem.tail _ (by revert x h; kcj_all)
  case hl => first | exact allLt_of (by assumption) | assumption | exact (‹_ ∧ AllLt _ news›).2
  case F => k_asm
theorem c_from_jdK (w : World) (mean : ExcName → Option Value) (mg mb : Str → Option Value) (way n y m d : Int) (t : Tok) (nv : Value) (hN : IsNm way nv) (hw : 0 ≤ way ∧ way ≤ 2) (hv : FD way n y m d) (ht : Told way y m d) :
    ClaimK w mean mg mb 2 102 [.float (H (2 * n - 1)) t] [(Str.ofString "method", nv)] (RT y m d) := by
  dsimp only [ClaimK]
  intro dp un gd cn cs a₀ ccd cl outer A₀ base h₀ L mm news s Q E hB hF hK hNw hT hk hd hu hret
  refine wpAny_call ?_
  k_dflt cell_enter
  (repeat' ((first | (k_unfold; (try dsimp only)) | (k_end; wrow_close) | (walk1 <;> (try dsimp only)) | (dsimp only; walk1) | (leave1; walk_say "STEP leave1"; try dsimp only) | fail "no step")))
  refine' retT hret rfl rfl rfl ?F ?NM ?hn ?hl
  case NM => exact ⟨by k_asm, List.Mem.head _⟩
  case hn => exact fun x h => List.Mem.tail _ (by revert x h; kcj_all)
  case hl => first | exact allLt_of (by assumption) | assumption | exact (‹_ ∧ AllLt _ news›).2
  case F => k_asm
local macro_rules | `(tactic| walk_at "call ref") => `(tactic| (k_here; (with_reducible show wpAny _ _ (call (Value.ref 102) _ _) _ _ _); k_dflt (refine' useK (c_from_jdK _ _ _ _ _ _ _ _ _ _ _ ?pn ?pw ?pv ?pt) ?k1 ?k2 ?k3 ?k4 ?k5 ?kK ?kd ?ku ?_); (case k1 => k_asm); (case k2 => k_asm); (case k3 => k_asm); (case k4 => k_asm); (case k5 => k_asm); (case kK => first | exact rfl | assumption); (case kd => ktr_room); (case ku => ktr_units); (case pn => with_reducible assumption); (case pv => with_reducible assumption); (case pw => ktn_open); (case pt => with_reducible assumption); k_whole; intro D9 t9 u9 v9 c9 h9 tk9 F9 N9 l9; (try simp only [AllLt, and_true] at l9); (try dsimp only); (try k_sweep); walk_say "CLAIM 102"))
local macro_rules | `(tactic| walk_at "call ref") => `(tactic| (k_here; (with_reducible show wpAny _ _ (call (Value.ref 87) _ _) _ _ _); k_dflt (refine' useK (c_to_jdK _ _ _ _ _ _ _ _ _ _ _ _ _ ?pn ?pw ?pv) ?k1 ?k2 ?k3 ?k4 ?k5 ?kK ?kd ?ku ?_); (case k1 => k_asm); (case k2 => k_asm); (case k3 => k_asm); (case k4 => k_asm); (case k5 => k_asm); (case kK => first | exact rfl | assumption); (case kd => ktr_room); (case ku => ktr_units); (case pn => with_reducible assumption); (case pv => with_reducible assumption); (case pw => ktn_open); k_whole; intro t9 h9 tk9 F9 N9; (try dsimp only); (try k_sweep); walk_say "CLAIM 87"))
local macro_rules | `(tactic| walk_at "call ref") => `(tactic| (k_here; (with_reducible show wpAny _ _ (call (Value.ref 71) _) _ _ _); k_dflt (refine' use (c_from_jd_g _ _ _ _ _ _ _ _ _ ?pv) ?k1 ?k2 ?k3 ?k4 ?k5 ?kK ?kd ?ku ?_); (case k1 => k_asm); (case k2 => k_asm); (case k3 => k_asm); (case k4 => k_asm); (case k5 => k_asm); (case kK => first | exact rfl | assumption); (case kd => ktr_room); (case ku => ktr_units); (case pv => with_reducible assumption); k_whole; intro D9 t9 u9 v9 c9 h9 tk9 F9 N9 l9; (try simp only [AllLt, and_true] at l9); (try dsimp only); (try k_sweep); walk_say "CLAIM 71"))
theorem c_from_greg (w : World) (mean : ExcName → Option Value) (mg mb : Str → Option Value) (way n y m d Y M Z : Int) (t u v : Tok) (nv : Value) (hN : IsNm way nv) (hw : 0 ≤ way ∧ way ≤ 2) (hv : FD way n y m d) (ht : Told way y m d) (hG : GD n Y M Z) :
    Claim w mean mg mb 5 117 [.int Y t, .int M u, .int Z v, nv] (RT y m d) := by
  dsimp only [Claim]
  intro dp un gd cn cs a₀ ccd cl outer A₀ base h₀ L mm news s Q E hB hF hK hNw hT hk hd hu hret
  refine wpAny_call ?_
  k_dflt cell_enter
  (repeat' ((first | (k_unfold; (try dsimp only)) | (k_end; wrow_close) | (walk1 <;> (try dsimp only)) | (dsimp only; walk1) | (leave1; walk_say "STEP leave1"; try dsimp only) | fail "no step")))
  refine' retT hret rfl rfl rfl ?F ?NM ?hn ?hl
  case NM => exact ⟨by k_asm, List.Mem.head _⟩
  case hn => exact fun x h => List.Mem.tail _ (by revert x h; kcj_all)
  case hl => first | exact allLt_of (by assumption) | assumption | exact (‹_ ∧ AllLt _ news›).2
  case F => k_asm
theorem c_to_greg (w : World) (mean : ExcName → Option Value) (mg mb : Str → Option Value) (way n y m d Y M Z : Int) (t u v : Tok) (nv : Value) (hN : IsNm way nv) (hw : 0 ≤ way ∧ way ≤ 2) (hv : FD way n y m d) (hG : GD n Y M Z) :
    Claim w mean mg mb 5 125 [.int y t, .int m u, .int d v, nv] (RT Y M Z) := by
  dsimp only [Claim]
  intro dp un gd cn cs a₀ ccd cl outer A₀ base h₀ L mm news s Q E hB hF hK hNw hT hk hd hu hret
  refine wpAny_call ?_
  k_dflt cell_enter
  (repeat' ((first | (k_unfold; (try dsimp only)) | (k_end; wrow_close) | (walk1 <;> (try dsimp only)) | (dsimp only; walk1) | (leave1; walk_say "STEP leave1"; try dsimp only) | fail "no step")))
  refine' retT hret rfl rfl rfl ?F ?NM ?hn ?hl
  case NM => exact ⟨by k_asm, List.Mem.head _⟩
  case hn => exact fun x h => List.Mem.tail _ (by revert x h; kcj_all)
  case hl => first | exact allLt_of (by assumption) | assumption | exact (‹_ ∧ AllLt _ news›).2
  case F => k_asm

end
section
local macro_rules | `(tactic| walk_at "zz0") => `(tactic| skip)
local macro_rules | `(tactic| walk_at "zz1") => `(tactic| skip)
local macro_rules | `(tactic| walk_at "zz2") => `(tactic| skip)
local macro_rules | `(tactic| walk_at "zz3") => `(tactic| skip)
local macro_rules | `(tactic| walk_at "zz4") => `(tactic| skip)
local macro_rules | `(tactic| walk_at "zz5") => `(tactic| skip)
local macro_rules | `(tactic| walk_at "zz6") => `(tactic| skip)
local macro_rules | `(tactic| walk_at "zz7") => `(tactic| skip)
local macro_rules | `(tactic| walk_at "zz8") => `(tactic| skip)
local macro_rules | `(tactic| walk_at "zz9") => `(tactic| skip)
local macro_rules | `(tactic| walk_at "zz10") => `(tactic| skip)
local macro_rules | `(tactic| walk_at "zz11") => `(tactic| skip)
local macro_rules | `(tactic| walk_at "zz12") => `(tactic| skip)
local macro_rules | `(tactic| walk_at "zz13") => `(tactic| skip)
local macro_rules | `(tactic| walk_at "zz14") => `(tactic| skip)
local macro_rules | `(tactic| walk_at "zz15") => `(tactic| skip)
local macro_rules | `(tactic| walk_at "zz16") => `(tactic| skip)
local macro_rules | `(tactic| walk_at "zz17") => `(tactic| skip)
local macro_rules | `(tactic| walk_at "zz18") => `(tactic| skip)
local macro_rules | `(tactic| walk_at "zz19") => `(tactic| skip)
local macro_rules | `(tactic| walk_at "zz20") => `(tactic| skip)
local macro_rules | `(tactic| walk_at "zz21") => `(tactic| skip)
local macro_rules | `(tactic| walk_at "zz22") => `(tactic| skip)
local macro_rules | `(tactic| walk_at "zz23") => `(tactic| skip)
local macro_rules | `(tactic| walk_at "zz24") => `(tactic| skip)
local macro_rules | `(tactic| walk_at "zz25") => `(tactic| skip)
local macro_rules | `(tactic| walk_at "zz26") => `(tactic| skip)
local macro_rules | `(tactic| walk_at "zz27") => `(tactic| skip)
local macro_rules | `(tactic| walk_at "zz28") => `(tactic| skip)
local macro_rules | `(tactic| walk_at "zz29") => `(tactic| skip)
local macro_rules | `(tactic| walk_at "zz30") => `(tactic| skip)
local macro_rules | `(tactic| walk_at "zz31") => `(tactic| skip)
local macro_rules | `(tactic| walk_at "zz32") => `(tactic| skip)
local macro_rules | `(tactic| walk_at "zz33") => `(tactic| skip)
local macro_rules | `(tactic| walk_at "zz34") => `(tactic| skip)
local macro_rules | `(tactic| walk_at "zz35") => `(tactic| skip)
local macro_rules | `(tactic| walk_at "zz36") => `(tactic| skip)
local macro_rules | `(tactic| walk_at "zz37") => `(tactic| skip)
local macro_rules | `(tactic| walk_at "zz38") => `(tactic| skip)
local macro_rules | `(tactic| walk_at "zz39") => `(tactic| skip)
local macro_rules | `(tactic| walk_at "eval Name") => `(tactic| (k_here; (with_reducible rename Fr _ _ _ _ => kF); name_kind "globalImplicit"; k_dflt (refine' name_K kF ?k1 ?k2 ?k3 ?_; (case k1 => k_asm); (case k2 => k_asm); (case k3 => with_reducible (first | exact gl_floor _ | exact gl_trunc _ | exact gl_EPOCH_gregorian _ | exact gl_INTERCALATION_CYCLE_YEARS _ | exact gl_INTERCALATION_CYCLE_DAYS _ | exact gl_LEAP_SUPPRESSION_YEARS _ | exact gl_LEAP_SUPPRESSION_DAYS _ | exact gl_LEAP_CYCLE_YEARS_gregorian _ | exact gl_LEAP_CYCLE_DAYS_gregorian _ | exact gl_YEAR_DAYS _ | exact gl_HAVE_30_DAYS _ | exact gl_isleap _ | exact gl_legal_date _ | exact gl_to_jd_gregorian _ | exact gl_from_jd_gregorian _ | exact gl_EPOCH_french_republican _ | exact gl_DAYS_IN_YEAR _ | exact gl_LEAP_CYCLE_DAYS_french_republican _ | exact gl_LEAP_CYCLE_YEARS_french_republican _ | exact gl_leap _ | exact gl_to_jd_french_republican _ | exact gl_to_jd_schematic _ | exact gl_from_jd_french_republican _ | exact gl_from_jd_schematic _ | exact gl_from_gregorian _ | exact gl_to_gregorian _ | exact gl_law_long _ | exact gl_law_first _ | exact gl_law_asked _)); k_whole)))

def lgG (way : Int) (l : List Int) (k : Int) : List Int := if long way k = true then l ++ [k] else l
def WayMark (_way : Int) : Prop := True
theorem lg_len (way : Int) (l : List Int) (k : Int) : (lgG way l k).length ≤ l.length + 1 := by unfold lgG; split <;> simp
theorem lg_count1 : ∀ k : Fin 126, ((rangeKs 3 k.val).foldl (lgG 1) []).length = (C 1 ((k.val : Int) + 3)).toNat := by decide +kernel
theorem lg_count2 : ∀ k : Fin 126, ((rangeKs 3 k.val).foldl (lgG 2) []).length = (C 2 ((k.val : Int) + 3)).toNat := by decide +kernel
theorem lg_count {way y : Int} (hw : 1 ≤ way ∧ way ≤ 2) (hy : 1 ≤ y ∧ y ≤ 128) : (((rangeKs 3 (y - 3).toNat).foldl (lgG way) []).length : Int) = C way y := by
  have h1 := C1 y
  have h2 := C2 y
  by_cases h3 : y < 3
  · have e : (y - 3).toNat = 0 := by omega
    rw [e]
    have e2 : ((rangeKs 3 0).foldl (lgG way) []).length = 0 := rfl
    rw [e2]
    rcases (by omega : way = 1 ∨ way = 2) with rfl | rfl <;> omega
  · have e : (((⟨(y - 3).toNat, by omega⟩ : Fin 126).val : Int)) + 3 = y := by simp only []; omega
    rcases (by omega : way = 1 ∨ way = 2) with rfl | rfl
    · have h := lg_count1 ⟨(y - 3).toNat, by omega⟩
      rw [e] at h
      simp only [] at h
      rw [h]; omega
    · have h := lg_count2 ⟨(y - 3).toNat, by omega⟩
      rw [e] at h
      simp only [] at h
      rw [h]; omega
section
variable {prog : Program} {w : World} {A : Around} {h₀ : Heap} {L : Addr} {m : Str → Option Value} {env : Env} {ct elt : PySem.Expr} {x : Str} {scope : Scope} {cl : List (Str × Addr)} {s : Shared} {S : List (Addr × Obj) → Prop} {Fin : List Value → List (Addr × Obj) → Prop} {news : List (Addr × Obj)} {n : Nat} {a way : Int}
theorem kci_lg (_hM : WayMark way)
    (turn : ∀ k t I oI C oC D m₂ ys l h tk (E' : Value → Shared → Prop), a ≤ k → k < a + (n : Int) → IntsAre ys l → LCg.NsObj oC m₂ → m₂ x = some (.int k t) → Fr h₀ L h m → News h₀ L h ((I, oI) :: (C, oC) :: (D, LCg.lst ys) :: news) → LCg.Off3 I C D news → ((@Ne Nat I C) ∧ (@Ne Nat I D) ∧ (@Ne Nat C D)) → KPfMark →
      wpAny (model prog w) A (isTrue ct (compEnvC scope cl C env) (eval ct (compEnvC scope cl C env))) (fun b s' => if b = true then wpAny (model prog w) A (eval elt (compEnvC scope cl C env)) (LCg.CompEnd h₀ L m { s with heap := h, toks := tk } I oI C oC D (LCg.lst ys) S (fun y news' => KCiEl news l (lgG way l k) y news')) E' s'
        else LCg.CompEnd h₀ L m { s with heap := h, toks := tk } I oI C oC D (LCg.lst ys) S (fun _ news' => KCiNo news l (lgG way l k) news') Value.none s') E' { s with heap := h, toks := tk })
    (fin : KPfDone (∀ ys, IntsAre ys ((rangeKs a n).foldl (lgG way) []) → ys.length ≤ n → Fin ys news)) : LCt.CompRestT prog w A h₀ L m env ct elt x scope cl s S (fun i v => ∃ t, v = .int (a + (i : Int)) t) Fin n 0 [] news :=
  kci_range (lgG way) turn fin (fun l k => lg_len way l k)
end
section
local macro_rules | `(tactic| walk_at "call ref") => `(tactic| (k_here; (with_reducible show wpAny _ _ (call (Value.ref 132) _) _ _ _); k_dflt (refine' use (c_law_long _ _ _ _ _ _ _ _ ?pw ?py) ?k1 ?k2 ?k3 ?k4 ?k5 ?kK ?kd ?ku ?_); (case k1 => k_asm); (case k2 => k_asm); (case k3 => k_asm); (case k4 => k_asm); (case k5 => k_asm); (case kK => first | exact rfl | assumption); (case kd => ktr_room); (case ku => ktr_units); (case pw => ktn_open); (case py => ktn_open); k_whole; intro t9 h9 tk9 F9 N9; (try dsimp only); (try k_sweep); walk_say "CLAIM 132"))
local macro_rules | `(tactic| walk_at "CompSrcT") => `(tactic| (k_here; k_dflt (refine LCt.CompSrcT.range (by rfl) (by k_asm) (by k_asm) (by assumption) (by first | decide | exact small_one (by l_bnd) (by l_bnd) (by l_bnd) (by l_bnd)) (by first | exact rangeSize_nat _ _ | rfl) (by first | exact Nat.le_of_ble_eq_true rfl | (rw [PySem.sizeLine_eq]; first | omega | ((have hb9 := len_ints_list (by lay_of)); omega)) | size_fits) ?_; intro g'; (refine' kci_lg (by assumption) (fun k' t' I' oI' C' oC' D' m' ys' l' h' tk' E' hlo' hhi' hI' hC' hx' F' N' off' ne' => ?_) ?_); (all_goals (try ((show KPfMark → _); intro hMark'))); kcf_last)))
local macro_rules | `(tactic| walk_at "CompEnd") => `(tactic| (k_dflt (refine' LCg.CompEnd.intro ?F ?N _ ?sub ?off ?S ?r; (case F => k_asm); (case N => k_asm); (case off => assumption); (case sub => kcj_all); (case S => trivial); k_whole)))
local macro_rules | `(tactic| walk_at "KCiEl") => `(tactic| (k_dflt ((refine kci_el ?e rfl rfl); (case e => exact if_pos (by assumption)))))
local macro_rules | `(tactic| walk_at "KCiNo") => `(tactic| (k_dflt ((refine kci_no ?e rfl); (case e => exact if_neg (by simp only [*]; decide)))))
theorem c_first1 (w : World) (mean : ExcName → Option Value) (mg mb : Str → Option Value) (way y : Int) (t u : Tok) (hw : 1 ≤ way ∧ way ≤ 2) (hy : 1 ≤ y ∧ y ≤ 128) :
    Claim w mean mg mb 2 137 [.int way t, .int y u] (RV fun t => .int (F way y) t) := by
  dsimp only [Claim]
  intro dp un gd cn cs a₀ ccd cl outer A₀ base h₀ L mm news s Q E hB hF hK hNw hT hk hd hu hret
  have hM : WayMark way := True.intro
  refine wpAny_call ?_
  k_dflt (refine' code_defC ?k1 ?k2 ?k3 ?k4 ?k5 ?kA ?kF ?kK ?k6 ?k7 ?k8 ?k9 ?kB ?kD ?_ ?c2 ?c3 ?c4; (case kA => exact rfl); (case kF => exact rfl); (case kK => assumption); (case k1 => k_asm); (case k2 => k_asm); (case k3 => k_asm); (case k4 => k_asm); (case k5 => k_asm); (case k6 => k_is); (case k7 => k_is); (case k8 => ktr_room); (case k9 => first | exact BindsTo.of_eq rfl | exact binds_K (by k_in) rfl (by k_is) rfl rfl rfl); (case kB => exact rfl); (case kD => decide +kernel); (case c2 => exact rfl); (case c3 => exact rfl); (case c4 => exact rfl); k_whole; intro g' L' h' tk' cells' FG' F' N' Y' B' X' T' l1; (try k_lt l1); k_cells Y'; (try simp only [List.cons_append, List.nil_append] at N'); (try dsimp only); (try k_lift B'); (try k_fold))
  (repeat' ((first | (k_unfold; (try dsimp only)) | (k_end; wrow_close) | (walk1 <;> (try dsimp only)) | (dsimp only; walk1) | (leave1; walk_say "STEP leave1"; try dsimp only) | fail "no step")))
  all_goals (try k_data)
  all_goals (
    first
    | (rename long way _ = false => hl
       exact LCg.CompEnd.intro (by k_asm) (by assumption) _ (by kcj_all) (by assumption) trivial (kci_no (by unfold lgG; rw [hl]; rfl) rfl))
    | (refine' retI hret ?e ?F ?N ?hn
       case F => k_asm
       case N => k_asm
       case hn => kcj_all
       case e => (have hc := lg_count hw hy; unfold F; omega)))
end

end
section
local macro_rules | `(tactic| walk_at "eval Name") => `(tactic| (k_here; (with_reducible rename Fr _ _ _ _ => kF); name_kind "globalImplicit"; k_dflt (refine' name_K kF ?k1 ?k2 ?k3 ?_; (case k1 => k_asm); (case k2 => k_asm); (case k3 => with_reducible (first | exact gl_floor _ | exact gl_trunc _ | exact gl_EPOCH_gregorian _ | exact gl_INTERCALATION_CYCLE_YEARS _ | exact gl_INTERCALATION_CYCLE_DAYS _ | exact gl_LEAP_SUPPRESSION_YEARS _ | exact gl_LEAP_SUPPRESSION_DAYS _ | exact gl_LEAP_CYCLE_YEARS_gregorian _ | exact gl_LEAP_CYCLE_DAYS_gregorian _ | exact gl_YEAR_DAYS _ | exact gl_HAVE_30_DAYS _ | exact gl_isleap _ | exact gl_legal_date _ | exact gl_to_jd_gregorian _ | exact gl_from_jd_gregorian _ | exact gl_EPOCH_french_republican _ | exact gl_DAYS_IN_YEAR _ | exact gl_LEAP_CYCLE_DAYS_french_republican _ | exact gl_LEAP_CYCLE_YEARS_french_republican _ | exact gl_leap _ | exact gl_to_jd_french_republican _ | exact gl_to_jd_schematic _ | exact gl_from_jd_french_republican _ | exact gl_from_jd_schematic _ | exact gl_from_gregorian _ | exact gl_to_gregorian _ | exact gl_law_long _ | exact gl_law_first _ | exact gl_law_asked _)); k_whole)))

theorem fd4 (x : Int) : x.fdiv 4 = x / 4 := Int.fdiv_eq_ediv_of_nonneg _ (by decide)
theorem fm4 (x : Int) : x.fmod 4 = x % 4 := Int.fmod_eq_emod_of_nonneg _ (by decide)
theorem c_first0 (w : World) (mean : ExcName → Option Value) (mg mb : Str → Option Value) (y : Int) (t u : Tok) (hy : 1 ≤ y ∧ y ≤ 10000100) :
    Claim w mean mg mb 2 137 [.int 0 t, .int y u] (RV fun t => .int (F 0 y) t) := by
  dsimp only [Claim]
  intro dp un gd cn cs a₀ ccd cl outer A₀ base h₀ L mm news s Q E hB hF hK hNw hT hk hd hu hret
  refine wpAny_call ?_
  k_dflt (refine' code_defC ?k1 ?k2 ?k3 ?k4 ?k5 ?kA ?kF ?kK ?k6 ?k7 ?k8 ?k9 ?kB ?kD ?_ ?c2 ?c3 ?c4; (case kA => exact rfl); (case kF => exact rfl); (case kK => assumption); (case k1 => k_asm); (case k2 => k_asm); (case k3 => k_asm); (case k4 => k_asm); (case k5 => k_asm); (case k6 => k_is); (case k7 => k_is); (case k8 => ktr_room); (case k9 => first | exact BindsTo.of_eq rfl | exact binds_K (by k_in) rfl (by k_is) rfl rfl rfl); (case kB => exact rfl); (case kD => decide +kernel); (case c2 => exact rfl); (case c3 => exact rfl); (case c4 => exact rfl); k_whole; intro g' L' h' tk' cells' FG' F' N' Y' B' X' T' l1; (try k_lt l1); k_cells Y'; (try simp only [List.cons_append, List.nil_append] at N'); (try dsimp only); (try k_lift B'); (try k_fold))
  (repeat' ((first | (k_unfold; (try dsimp only)) | (k_end; wrow_close) | (walk1 <;> (try dsimp only)) | (dsimp only; walk1) | (leave1; walk_say "STEP leave1"; try dsimp only) | fail "no step")))
  all_goals (
    refine' retI hret ?e ?F ?N ?hn
    case F => k_asm
    case N => k_asm
    case hn => kcj_all
    case e =>
      first | (rename Int.fmod _ _ = 3 => hq) | (rename ¬ Int.fmod _ _ = 3 => hq)
      rw [fm4] at hq
      rw [fm4, fd4]
      have hC := C0 y
      unfold F
      law_clear
      omega)
theorem c_first (w : World) (mean : ExcName → Option Value) (mg mb : Str → Option Value) (way y : Int) (t u : Tok) (hw : 0 ≤ way ∧ way ≤ 2) (hy : 1 ≤ y ∧ y ≤ 10000100) (hy2 : way = 0 ∨ y ≤ 128) :
    Claim w mean mg mb 2 137 [.int way t, .int y u] (RV fun t => .int (F way y) t) := by
  by_cases h : way = 0
  · subst h; exact c_first0 w mean mg mb y t u hy
  · exact c_first1 w mean mg mb way y t u (by omega) (by omega)

end
section
local macro_rules | `(tactic| walk_at "zz0") => `(tactic| skip)
local macro_rules | `(tactic| walk_at "zz1") => `(tactic| skip)
local macro_rules | `(tactic| walk_at "zz2") => `(tactic| skip)
local macro_rules | `(tactic| walk_at "zz3") => `(tactic| skip)
local macro_rules | `(tactic| walk_at "zz4") => `(tactic| skip)
local macro_rules | `(tactic| walk_at "zz5") => `(tactic| skip)
local macro_rules | `(tactic| walk_at "zz6") => `(tactic| skip)
local macro_rules | `(tactic| walk_at "zz7") => `(tactic| skip)
local macro_rules | `(tactic| walk_at "zz8") => `(tactic| skip)
local macro_rules | `(tactic| walk_at "zz9") => `(tactic| skip)
local macro_rules | `(tactic| walk_at "zz10") => `(tactic| skip)
local macro_rules | `(tactic| walk_at "zz11") => `(tactic| skip)
local macro_rules | `(tactic| walk_at "zz12") => `(tactic| skip)
local macro_rules | `(tactic| walk_at "zz13") => `(tactic| skip)
local macro_rules | `(tactic| walk_at "zz14") => `(tactic| skip)
local macro_rules | `(tactic| walk_at "zz15") => `(tactic| skip)
local macro_rules | `(tactic| walk_at "zz16") => `(tactic| skip)
local macro_rules | `(tactic| walk_at "zz17") => `(tactic| skip)
local macro_rules | `(tactic| walk_at "zz18") => `(tactic| skip)
local macro_rules | `(tactic| walk_at "zz19") => `(tactic| skip)
local macro_rules | `(tactic| walk_at "zz20") => `(tactic| skip)
local macro_rules | `(tactic| walk_at "zz21") => `(tactic| skip)
local macro_rules | `(tactic| walk_at "zz22") => `(tactic| skip)
local macro_rules | `(tactic| walk_at "zz23") => `(tactic| skip)
local macro_rules | `(tactic| walk_at "zz24") => `(tactic| skip)
local macro_rules | `(tactic| walk_at "zz25") => `(tactic| skip)
local macro_rules | `(tactic| walk_at "zz26") => `(tactic| skip)
local macro_rules | `(tactic| walk_at "zz27") => `(tactic| skip)
local macro_rules | `(tactic| walk_at "zz28") => `(tactic| skip)
local macro_rules | `(tactic| walk_at "zz29") => `(tactic| skip)
local macro_rules | `(tactic| walk_at "zz30") => `(tactic| skip)
local macro_rules | `(tactic| walk_at "zz31") => `(tactic| skip)
local macro_rules | `(tactic| walk_at "zz32") => `(tactic| skip)
local macro_rules | `(tactic| walk_at "zz33") => `(tactic| skip)
local macro_rules | `(tactic| walk_at "zz34") => `(tactic| skip)
local macro_rules | `(tactic| walk_at "zz35") => `(tactic| skip)
local macro_rules | `(tactic| walk_at "zz36") => `(tactic| skip)
local macro_rules | `(tactic| walk_at "zz37") => `(tactic| skip)
local macro_rules | `(tactic| walk_at "zz38") => `(tactic| skip)
local macro_rules | `(tactic| walk_at "zz39") => `(tactic| skip)
local macro_rules | `(tactic| walk_at "eval Name") => `(tactic| (k_here; (with_reducible rename Fr _ _ _ _ => kF); name_kind "globalImplicit"; k_dflt (refine' name_K kF ?k1 ?k2 ?k3 ?_; (case k1 => k_asm); (case k2 => k_asm); (case k3 => with_reducible (first | exact gl_floor _ | exact gl_trunc _ | exact gl_EPOCH_gregorian _ | exact gl_INTERCALATION_CYCLE_YEARS _ | exact gl_INTERCALATION_CYCLE_DAYS _ | exact gl_LEAP_SUPPRESSION_YEARS _ | exact gl_LEAP_SUPPRESSION_DAYS _ | exact gl_LEAP_CYCLE_YEARS_gregorian _ | exact gl_LEAP_CYCLE_DAYS_gregorian _ | exact gl_YEAR_DAYS _ | exact gl_HAVE_30_DAYS _ | exact gl_isleap _ | exact gl_legal_date _ | exact gl_to_jd_gregorian _ | exact gl_from_jd_gregorian _ | exact gl_EPOCH_french_republican _ | exact gl_DAYS_IN_YEAR _ | exact gl_LEAP_CYCLE_DAYS_french_republican _ | exact gl_LEAP_CYCLE_YEARS_french_republican _ | exact gl_leap _ | exact gl_to_jd_french_republican _ | exact gl_to_jd_schematic _ | exact gl_from_jd_french_republican _ | exact gl_from_jd_schematic _ | exact gl_from_gregorian _ | exact gl_to_gregorian _ | exact gl_law_long _ | exact gl_law_first _ | exact gl_law_asked _)); k_whole)))

section
variable {h₀ h' : Heap} {L : Addr} {m : Str → Option Value} {news news' : Led} {s : Shared} {Q : Value → Shared → Prop} {t : Tok} {tk' : Nat}
theorem retS {x y : Str} (hret : RV (fun t => .str x t) h₀ L m news s Q) (e : y = x) (F : Fr h₀ L h' m) (N : News h₀ L h' news') (hn : ∀ p ∈ news, p ∈ news') : Q (.str y t) { s with heap := h', toks := tk' } := by
  subst e
  exact hret t h' tk' F fun p hp => N p (hn p hp)
end
local macro_rules | `(tactic| walk_at "call ref") => `(tactic| (k_here; (with_reducible show wpAny _ _ (call (Value.ref 87) _) _ _ _); k_dflt (refine' use (c_to_jd _ _ _ _ _ _ _ _ _ _ _ _ _ ?pn ?pw ?pv) ?k1 ?k2 ?k3 ?k4 ?k5 ?kK ?kd ?ku ?_); (case k1 => k_asm); (case k2 => k_asm); (case k3 => k_asm); (case k4 => k_asm); (case k5 => k_asm); (case kK => first | exact rfl | assumption); (case kd => ktr_room); (case ku => ktr_units); (case pn => with_reducible assumption); (case pv => with_reducible assumption); (case pw => ktn_open); k_whole; intro t9 h9 tk9 F9 N9; (try dsimp only); (try k_sweep); walk_say "CLAIM 87"))
theorem c_asked1 (w : World) (mean : ExcName → Option Value) (mg mb : Str → Option Value) (way n y mo d : Int) (t u v t1 : Tok) (nv : Value) (hN : IsNm way nv) (hw : 0 ≤ way ∧ way ≤ 2) (hv : FD way n y mo d) :
    Claim w mean mg mb 3 144 [.int 1 t1, .int y t, .int mo u, .int d v, nv] (RV fun t => .float (H (2 * n - 1)) t) := by
  dsimp only [Claim]
  intro dp un gd cn cs a₀ ccd cl outer A₀ base h₀ L mm news s Q E hB hF hK hNw hT hk hd hu hret
  refine wpAny_call ?_
  k_dflt k_enter
  (repeat' ((first | (k_unfold; (try dsimp only)) | (k_end; wrow_close) | (walk1 <;> (try dsimp only)) | (dsimp only; walk1) | (leave1; walk_say "STEP leave1"; try dsimp only) | fail "no step")))
  all_goals (refine' retH hret rfl ?F ?N ?hn; (case F => k_asm); (case N => k_asm); (case hn => kcj_all))
section
local macro_rules | `(tactic| walk_at "call ref") => `(tactic| (k_here; (with_reducible show wpAny _ _ (call (Value.ref 79) _ _) _ _ _); k_dflt (refine' useK (c_leapK _ _ _ _ _ _ _ _ ?pn ?pw ?py) ?k1 ?k2 ?k3 ?k4 ?k5 ?kK ?kd ?ku ?_); (case k1 => k_asm); (case k2 => k_asm); (case k3 => k_asm); (case k4 => k_asm); (case k5 => k_asm); (case kK => first | exact rfl | assumption); (case kd => ktr_room); (case ku => ktr_units); (case pn => with_reducible assumption); (case pw => ktn_open); (case py => ktn_open); k_whole; intro t9 h9 tk9 F9 N9; (try dsimp only); (try k_sweep); walk_say "CLAIM 79"))
local macro_rules | `(tactic| k_room) => `(tactic| ktr_room)
theorem c_asked2a (w : World) (mean : ExcName → Option Value) (mg mb : Str → Option Value) (way y mo d : Int) (t u v t1 : Tok) (nv : Value) (hN : IsNm way nv) (hw : 0 ≤ way ∧ way ≤ 2) (hy : 1 ≤ y) (hd1 : d < 1) :
    ClaimL w mean mg mb 4 144 [.int 1 t1, .int y t, .int mo u, .int d v, nv] (RV fun t => .str (Str.ofString "refused") t) := by
  dsimp only [ClaimL]
  intro dp un gd cn cs a₀ ccd A₀ h₀ L mm news s Q E hB hF hK hNw hT hk hd hu hret
  refine wpAny_call ?_
  k_dflt (refine' code_defS0 ?k1 ?k2 ?k3 ?k4 ?k5 ?kA ?k6 ?k7 ?k8 ?k9 ?kB ?_ ?cK ?c2 ?c3 ?c4 ?c5; (case kA => exact rfl); (case k2 => k_asm); (case k1 => k_asm); (case k3 => k_asm); (case k4 => k_asm); (case k5 => k_asm); (case k6 => k_is); (case k7 => k_is); (case k8 => ktr_room); (case k9 => first | exact binds_K (by k_in) rfl (by k_is) rfl rfl rfl | exact BindsTo.of_eq rfl); (case kB => exact locs rfl); (case cK => first | exact rfl | assumption); (case c2 => exact rfl); (case c3 => exact rfl); (case c4 => exact rfl); (case c5 => decide); k_whole; intro g' L' h' FG' F' N' B' X' T' D'; (try dsimp only); (try k_lift B'); (try k_fold))
  (repeat' ((first | (k_unfold; (try dsimp only)) | (k_end; wrow_close) | (walk1 <;> (try dsimp only)) | (dsimp only; walk1) | (leave1; walk_say "STEP leave1"; try dsimp only) | fail "no step")))
  all_goals (try k_data)
  all_goals (refine' retS hret rfl ?F ?N ?hn; (case F => k_asm); (case N => k_asm); (case hn => kcj_all))
theorem c_asked2b (w : World) (mean : ExcName → Option Value) (mg mb : Str → Option Value) (way y mo d : Int) (t u v t1 : Tok) (nv : Value) (hN : IsNm way nv) (hw : 0 ≤ way ∧ way ≤ 2) (hy : 1 ≤ y) (hd0 : 1 ≤ d) (hd1 : 30 < d) :
    ClaimL w mean mg mb 4 144 [.int 1 t1, .int y t, .int mo u, .int d v, nv] (RV fun t => .str (Str.ofString "refused") t) := by
  dsimp only [ClaimL]
  intro dp un gd cn cs a₀ ccd A₀ h₀ L mm news s Q E hB hF hK hNw hT hk hd hu hret
  refine wpAny_call ?_
  k_dflt (refine' code_defS0 ?k1 ?k2 ?k3 ?k4 ?k5 ?kA ?k6 ?k7 ?k8 ?k9 ?kB ?_ ?cK ?c2 ?c3 ?c4 ?c5; (case kA => exact rfl); (case k2 => k_asm); (case k1 => k_asm); (case k3 => k_asm); (case k4 => k_asm); (case k5 => k_asm); (case k6 => k_is); (case k7 => k_is); (case k8 => ktr_room); (case k9 => first | exact binds_K (by k_in) rfl (by k_is) rfl rfl rfl | exact BindsTo.of_eq rfl); (case kB => exact locs rfl); (case cK => first | exact rfl | assumption); (case c2 => exact rfl); (case c3 => exact rfl); (case c4 => exact rfl); (case c5 => decide); k_whole; intro g' L' h' FG' F' N' B' X' T' D'; (try dsimp only); (try k_lift B'); (try k_fold))
  (repeat' ((first | (k_unfold; (try dsimp only)) | (k_end; wrow_close) | (walk1 <;> (try dsimp only)) | (dsimp only; walk1) | (leave1; walk_say "STEP leave1"; try dsimp only) | fail "no step")))
  all_goals (try k_data)
  all_goals (refine' retS hret rfl ?F ?N ?hn; (case F => k_asm); (case N => k_asm); (case hn => kcj_all))
theorem c_asked2c (w : World) (mean : ExcName → Option Value) (mg mb : Str → Option Value) (way y mo d : Int) (t u v t1 : Tok) (nv : Value) (hN : IsNm way nv) (hw : 0 ≤ way ∧ way ≤ 2) (hy : 1 ≤ y) (hd0 : 1 ≤ d) (hd1 : d ≤ 30) (hm : 13 < mo) :
    ClaimL w mean mg mb 4 144 [.int 1 t1, .int y t, .int mo u, .int d v, nv] (RV fun t => .str (Str.ofString "refused") t) := by
  dsimp only [ClaimL]
  intro dp un gd cn cs a₀ ccd A₀ h₀ L mm news s Q E hB hF hK hNw hT hk hd hu hret
  refine wpAny_call ?_
  k_dflt (refine' code_defS0 ?k1 ?k2 ?k3 ?k4 ?k5 ?kA ?k6 ?k7 ?k8 ?k9 ?kB ?_ ?cK ?c2 ?c3 ?c4 ?c5; (case kA => exact rfl); (case k2 => k_asm); (case k1 => k_asm); (case k3 => k_asm); (case k4 => k_asm); (case k5 => k_asm); (case k6 => k_is); (case k7 => k_is); (case k8 => ktr_room); (case k9 => first | exact binds_K (by k_in) rfl (by k_is) rfl rfl rfl | exact BindsTo.of_eq rfl); (case kB => exact locs rfl); (case cK => first | exact rfl | assumption); (case c2 => exact rfl); (case c3 => exact rfl); (case c4 => exact rfl); (case c5 => decide); k_whole; intro g' L' h' FG' F' N' B' X' T' D'; (try dsimp only); (try k_lift B'); (try k_fold))
  (repeat' ((first | (k_unfold; (try dsimp only)) | (k_end; wrow_close) | (walk1 <;> (try dsimp only)) | (dsimp only; walk1) | (leave1; walk_say "STEP leave1"; try dsimp only) | fail "no step")))
  all_goals (try k_data)
  all_goals (refine' retS hret rfl ?F ?N ?hn; (case F => k_asm); (case N => k_asm); (case hn => kcj_all))
theorem c_asked2d (w : World) (mean : ExcName → Option Value) (mg mb : Str → Option Value) (way y d : Int) (t u v t1 : Tok) (nv : Value) (hN : IsNm way nv) (hw : 0 ≤ way ∧ way ≤ 2) (hy : 1 ≤ y) (hd0 : 1 ≤ d) (hd1 : d ≤ 30) (hm : 5 + lo way y < d) :
    ClaimL w mean mg mb 4 144 [.int 1 t1, .int y t, .int 13 u, .int d v, nv] (RV fun t => .str (Str.ofString "refused") t) := by
  dsimp only [ClaimL]
  intro dp un gd cn cs a₀ ccd A₀ h₀ L mm news s Q E hB hF hK hNw hT hk hd hu hret
  refine wpAny_call ?_
  k_dflt (refine' code_defS0 ?k1 ?k2 ?k3 ?k4 ?k5 ?kA ?k6 ?k7 ?k8 ?k9 ?kB ?_ ?cK ?c2 ?c3 ?c4 ?c5; (case kA => exact rfl); (case k2 => k_asm); (case k1 => k_asm); (case k3 => k_asm); (case k4 => k_asm); (case k5 => k_asm); (case k6 => k_is); (case k7 => k_is); (case k8 => ktr_room); (case k9 => first | exact binds_K (by k_in) rfl (by k_is) rfl rfl rfl | exact BindsTo.of_eq rfl); (case kB => exact locs rfl); (case cK => first | exact rfl | assumption); (case c2 => exact rfl); (case c3 => exact rfl); (case c4 => exact rfl); (case c5 => decide); k_whole; intro g' L' h' FG' F' N' B' X' T' D'; (try dsimp only); (try k_lift B'); (try k_fold))
  (repeat' ((first | (k_unfold; (try dsimp only)) | (k_end; wrow_close) | (walk1 <;> (try dsimp only)) | (dsimp only; walk1) | (leave1; walk_say "STEP leave1"; try dsimp only) | fail "no step")))
  all_goals (try k_data)
  all_goals (refine' retS hret rfl ?F ?N ?hn; (case F => k_asm); (case N => k_asm); (case hn => kcj_all))
theorem c_asked3 (w : World) (mean : ExcName → Option Value) (mg mb : Str → Option Value) (way x mo d : Int) (t u v t1 : Tok) (nv : Value) (hN : IsNm way nv) (hx : -30000000 ≤ x ∧ x < 4751679) :
    ClaimL w mean mg mb 4 144 [.int 0 t1, .float (H x) t, .int mo u, .int d v, nv] (RV fun t => .str (Str.ofString "refused") t) := by
  dsimp only [ClaimL]
  intro dp un gd cn cs a₀ ccd A₀ h₀ L mm news s Q E hB hF hK hNw hT hk hd hu hret
  refine wpAny_call ?_
  k_dflt (refine' code_defS0 ?k1 ?k2 ?k3 ?k4 ?k5 ?kA ?k6 ?k7 ?k8 ?k9 ?kB ?_ ?cK ?c2 ?c3 ?c4 ?c5; (case kA => exact rfl); (case k2 => k_asm); (case k1 => k_asm); (case k3 => k_asm); (case k4 => k_asm); (case k5 => k_asm); (case k6 => k_is); (case k7 => k_is); (case k8 => ktr_room); (case k9 => first | exact binds_K (by k_in) rfl (by k_is) rfl rfl rfl | exact BindsTo.of_eq rfl); (case kB => exact locs rfl); (case cK => first | exact rfl | assumption); (case c2 => exact rfl); (case c3 => exact rfl); (case c4 => exact rfl); (case c5 => decide); k_whole; intro g' L' h' FG' F' N' B' X' T' D'; (try dsimp only); (try k_lift B'); (try k_fold))
  (repeat' ((first | (k_unfold; (try dsimp only)) | (k_end; wrow_close) | (walk1 <;> (try dsimp only)) | (dsimp only; walk1) | (leave1; walk_say "STEP leave1"; try dsimp only) | fail "no step")))
  all_goals (try k_data)
  all_goals (refine' retS hret rfl ?F ?N ?hn; (case F => k_asm); (case N => k_asm); (case hn => kcj_all))
theorem c_asked4 (w : World) (mean : ExcName → Option Value) (mg mb : Str → Option Value) (n mo d : Int) (t u v t1 : Tok) (nv : Value) (hN : IsNm 3 nv) (hx : 2375840 ≤ n ∧ n ≤ 100000000) :
    ClaimL w mean mg mb 4 144 [.int 0 t1, .float (H (2 * n - 1)) t, .int mo u, .int d v, nv] (RV fun t => .str (Str.ofString "refused") t) := by
  dsimp only [ClaimL]
  intro dp un gd cn cs a₀ ccd A₀ h₀ L mm news s Q E hB hF hK hNw hT hk hd hu hret
  refine wpAny_call ?_
  k_dflt (refine' code_defS0 ?k1 ?k2 ?k3 ?k4 ?k5 ?kA ?k6 ?k7 ?k8 ?k9 ?kB ?_ ?cK ?c2 ?c3 ?c4 ?c5; (case kA => exact rfl); (case k2 => k_asm); (case k1 => k_asm); (case k3 => k_asm); (case k4 => k_asm); (case k5 => k_asm); (case k6 => k_is); (case k7 => k_is); (case k8 => ktr_room); (case k9 => first | exact binds_K (by k_in) rfl (by k_is) rfl rfl rfl | exact BindsTo.of_eq rfl); (case kB => exact locs rfl); (case cK => first | exact rfl | assumption); (case c2 => exact rfl); (case c3 => exact rfl); (case c4 => exact rfl); (case c5 => decide); k_whole; intro g' L' h' FG' F' N' B' X' T' D'; (try dsimp only); (try k_lift B'); (try k_fold))
  (repeat' ((first | (k_unfold; (try dsimp only)) | (k_end; wrow_close) | (walk1 <;> (try dsimp only)) | (dsimp only; walk1) | (leave1; walk_say "STEP leave1"; try dsimp only) | fail "no step")))
  all_goals (try k_data)
  all_goals (refine' retS hret rfl ?F ?N ?hn; (case F => k_asm); (case N => k_asm); (case hn => kcj_all))
theorem c_asked5 (w : World) (mean : ExcName → Option Value) (mg mb : Str → Option Value) (y : Int) (t u v t1 : Tok) (nv : Value) (hN : IsNm 3 nv) (hy : 1 ≤ y) :
    ClaimL w mean mg mb 4 144 [.int 1 t1, .int y t, .int 1 u, .int 1 v, nv] (RV fun t => .str (Str.ofString "refused") t) := by
  dsimp only [ClaimL]
  intro dp un gd cn cs a₀ ccd A₀ h₀ L mm news s Q E hB hF hK hNw hT hk hd hu hret
  refine wpAny_call ?_
  k_dflt (refine' code_defS0 ?k1 ?k2 ?k3 ?k4 ?k5 ?kA ?k6 ?k7 ?k8 ?k9 ?kB ?_ ?cK ?c2 ?c3 ?c4 ?c5; (case kA => exact rfl); (case k2 => k_asm); (case k1 => k_asm); (case k3 => k_asm); (case k4 => k_asm); (case k5 => k_asm); (case k6 => k_is); (case k7 => k_is); (case k8 => ktr_room); (case k9 => first | exact binds_K (by k_in) rfl (by k_is) rfl rfl rfl | exact BindsTo.of_eq rfl); (case kB => exact locs rfl); (case cK => first | exact rfl | assumption); (case c2 => exact rfl); (case c3 => exact rfl); (case c4 => exact rfl); (case c5 => decide); k_whole; intro g' L' h' FG' F' N' B' X' T' D'; (try dsimp only); (try k_lift B'); (try k_fold))
  (repeat' ((first | (k_unfold; (try dsimp only)) | (k_end; wrow_close) | (walk1 <;> (try dsimp only)) | (dsimp only; walk1) | (leave1; walk_say "STEP leave1"; try dsimp only) | fail "no step")))
  all_goals (try k_data)
  all_goals (refine' retS hret rfl ?F ?N ?hn; (case F => k_asm); (case N => k_asm); (case hn => kcj_all))
end

end
section
local macro_rules | `(tactic| walk_at "eval Name") => `(tactic| (k_here; (with_reducible rename Fr _ _ _ _ => kF); name_kind "globalImplicit"; k_dflt (refine' name_K kF ?k1 ?k2 ?k3 ?_; (case k1 => k_asm); (case k2 => k_asm); (case k3 => with_reducible (first | exact gl_floor _ | exact gl_trunc _ | exact gl_EPOCH_gregorian _ | exact gl_INTERCALATION_CYCLE_YEARS _ | exact gl_INTERCALATION_CYCLE_DAYS _ | exact gl_LEAP_SUPPRESSION_YEARS _ | exact gl_LEAP_SUPPRESSION_DAYS _ | exact gl_LEAP_CYCLE_YEARS_gregorian _ | exact gl_LEAP_CYCLE_DAYS_gregorian _ | exact gl_YEAR_DAYS _ | exact gl_HAVE_30_DAYS _ | exact gl_isleap _ | exact gl_legal_date _ | exact gl_to_jd_gregorian _ | exact gl_from_jd_gregorian _ | exact gl_EPOCH_french_republican _ | exact gl_DAYS_IN_YEAR _ | exact gl_LEAP_CYCLE_DAYS_french_republican _ | exact gl_LEAP_CYCLE_YEARS_french_republican _ | exact gl_leap _ | exact gl_to_jd_french_republican _ | exact gl_to_jd_schematic _ | exact gl_from_jd_french_republican _ | exact gl_from_jd_schematic _ | exact gl_from_gregorian _ | exact gl_to_gregorian _ | exact gl_law_long _ | exact gl_law_first _ | exact gl_law_asked _)); k_whole)))

/-- a value of which P is so comes back -/
abbrev RX (P : Value → Prop) (h₀ : Heap) (L : Addr) (m : Str → Option Value) (news : Led) (s : Shared) (Q : Value → Shared → Prop) : Prop :=
  ∀ (v : Value) (h' : Heap) (tk' : Nat), P v → Fr h₀ L h' m → News h₀ L h' news → Q v { s with heap := h', toks := tk' }
theorem c_askedV (w : World) (mean : ExcName → Option Value) (mg mb : Str → Option Value) (way y mo d : Int) (t u v t1 : Tok) (nv : Value) (hN : IsNm way nv) (hw : 0 ≤ way ∧ way ≤ 2) (hg : Good way y) (hm : 1 ≤ mo) :
    ClaimL w mean mg mb 4 144 [.int 1 t1, .int y t, .int mo u, .int d v, nv] (RX (DueIs way y mo d)) := by
  have hlo := lo_cases way y
  by_cases hV : mo ≤ 13 ∧ 1 ≤ d ∧ d ≤ 30 ∧ (mo = 13 → d ≤ 5 + lo way y)
  · obtain ⟨h1, h2, h3, h4⟩ := hV
    have hF : FD way (F way y + 30 * (mo - 1) + d - 1) y mo d := ⟨hg, hm, h1, h2, h3, h4, rfl⟩
    have hc := c_asked1 w mean mg mb way _ y mo d t u v t1 nv hN hw hF
    dsimp only [ClaimL]
    intro dp un gd cn cs a₀ ccd A₀ h₀ L mm news s Q E hB hFr hK hNw hT hk hd hu hret
    exact hc dp un gd cn cs a₀ ccd [] [] A₀ h₀ h₀ L mm news s Q E hB hFr hK hNw hT hk (by omega) (by omega) (fun t h' tk' f n => hret _ h' tk' (.inl ⟨_, t, hF, rfl⟩) f n)
  · have hB : ∀ n, ¬ FD way n y mo d := by
      intro n h
      obtain ⟨_, _, h1, h2, h3, h4, _⟩ := h
      exact hV ⟨h1, h2, h3, h4⟩
    have hc : ClaimL w mean mg mb 4 144 [.int 1 t1, .int y t, .int mo u, .int d v, nv] (RV fun t => .str (Str.ofString "refused") t) := by
      by_cases h1 : d < 1
      · exact c_asked2a w mean mg mb way y mo d t u v t1 nv hN hw hg.1 h1
      · by_cases h2 : 30 < d
        · exact c_asked2b w mean mg mb way y mo d t u v t1 nv hN hw hg.1 (by omega) h2
        · by_cases h3 : 13 < mo
          · exact c_asked2c w mean mg mb way y mo d t u v t1 nv hN hw hg.1 (by omega) (by omega) h3
          · have h4 : mo = 13 := by omega
            subst h4
            exact c_asked2d w mean mg mb way y d t u v t1 nv hN hw hg.1 (by omega) (by omega) (by omega)
    intro dp un gd cn cs a₀ ccd A₀ h₀ L mm news s Q E hB' hFr hK hNw hT hk hd hu hret
    exact hc dp un gd cn cs a₀ ccd A₀ h₀ L mm news s Q E hB' hFr hK hNw hT hk hd hu (fun t h' tk' f n => hret _ h' tk' (.inr ⟨hB, t, rfl⟩) f n)
section
variable {prog : Program} {w : World} {A : Around} {E : Value → Shared → Prop} {s : Shared} {t u : Tok} {Q : Value → Shared → Prop} {x : Int}
theorem habs_int (h : ∀ (u : Tok) (tk : Nat), Q (.int (x.natAbs : Int) u) { s with toks := tk }) : wpAny (model prog w) A (call (.builtin "abs") [.int x t]) Q E s := by
  refine call_abs_int fun u tk => ?_
  have e : (if x < 0 then -x else x) = (x.natAbs : Int) := by split <;> omega
  rw [e]; exact h u tk
theorem eq_strS {a : Str} (h : Q (.bool true) s) : wpAny (model prog w) A (compareOp .Eq (.str a t) (.str a u)) Q E s := by
  refine eq_str ?_
  rw [beq_self_eq_true]; exact h
end
theorem post_true (ns : List Int) : PySem.Challenge.rw_ak5018_01.row.claim.post [ofPy (PyData.list (List.map PyData.int ns))] (.bool true) [ofPy (PyData.list (List.map PyData.int ns))] = true := postW_of (by wrow_shape) (by wtm_val) (by rfl)

end
section
local macro_rules | `(tactic| walk_at "eval Name") => `(tactic| (k_here; (with_reducible rename Fr _ _ _ _ => kF); name_kind "globalImplicit"; k_dflt (refine' name_K kF ?k1 ?k2 ?k3 ?_; (case k1 => k_asm); (case k2 => k_asm); (case k3 => with_reducible (first | exact gl_floor _ | exact gl_trunc _ | exact gl_EPOCH_gregorian _ | exact gl_INTERCALATION_CYCLE_YEARS _ | exact gl_INTERCALATION_CYCLE_DAYS _ | exact gl_LEAP_SUPPRESSION_YEARS _ | exact gl_LEAP_SUPPRESSION_DAYS _ | exact gl_LEAP_CYCLE_YEARS_gregorian _ | exact gl_LEAP_CYCLE_DAYS_gregorian _ | exact gl_YEAR_DAYS _ | exact gl_HAVE_30_DAYS _ | exact gl_isleap _ | exact gl_legal_date _ | exact gl_to_jd_gregorian _ | exact gl_from_jd_gregorian _ | exact gl_EPOCH_french_republican _ | exact gl_DAYS_IN_YEAR _ | exact gl_LEAP_CYCLE_DAYS_french_republican _ | exact gl_LEAP_CYCLE_YEARS_french_republican _ | exact gl_leap _ | exact gl_to_jd_french_republican _ | exact gl_to_jd_schematic _ | exact gl_from_jd_french_republican _ | exact gl_from_jd_schematic _ | exact gl_from_gregorian _ | exact gl_to_gregorian _ | exact gl_law_long _ | exact gl_law_first _ | exact gl_law_asked _)); k_whole)))

section
local macro_rules | `(tactic| walk_at "call ref") => `(tactic| (k_here; (with_reducible show wpAny _ _ (call (Value.ref 102) _) _ _ _); k_dflt (refine' use (c_from_jd _ _ _ _ _ _ _ _ _ _ _ ?pn ?pw ?pv ?pt) ?k1 ?k2 ?k3 ?k4 ?k5 ?kK ?kd ?ku ?_); (case k1 => k_asm); (case k2 => k_asm); (case k3 => k_asm); (case k4 => k_asm); (case k5 => k_asm); (case kK => first | exact rfl | assumption); (case kd => ktr_room); (case ku => ktr_units); (case pn => with_reducible assumption); (case pv => with_reducible assumption); (case pw => ktn_open); (case pt => with_reducible assumption); k_whole; intro D9 t9 u9 v9 c9 h9 tk9 F9 N9 l9; (try simp only [AllLt, and_true] at l9); (try dsimp only); (try k_sweep); walk_say "CLAIM 102"))
local macro_rules | `(tactic| walk_at "call ref") => `(tactic| (k_here; (with_reducible show wpAny _ _ (call (Value.ref 132) _) _ _ _); k_dflt (refine' use (c_law_long _ _ _ _ _ _ _ _ ?pw ?py) ?k1 ?k2 ?k3 ?k4 ?k5 ?kK ?kd ?ku ?_); (case k1 => k_asm); (case k2 => k_asm); (case k3 => k_asm); (case k4 => k_asm); (case k5 => k_asm); (case kK => first | exact rfl | assumption); (case kd => ktr_room); (case ku => ktr_units); (case pw => ktn_open); (case py => ktn_open); k_whole; intro t9 h9 tk9 F9 N9; (try dsimp only); (try k_sweep); walk_say "CLAIM 132"))
local macro_rules | `(tactic| walk_at "call ref") => `(tactic| (k_here; (with_reducible show wpAny _ _ (call (Value.ref 137) _) _ _ _); k_dflt (refine' use (c_first _ _ _ _ _ _ _ _ ?pw ?py ?pz) ?k1 ?k2 ?k3 ?k4 ?k5 ?kK ?kd ?ku ?_); (case k1 => k_asm); (case k2 => k_asm); (case k3 => k_asm); (case k4 => k_asm); (case k5 => k_asm); (case kK => first | exact rfl | assumption); (case kd => ktr_room); (case ku => ktr_units); (case pw => ktn_open); (case py => ktn_open); (case pz => ktn_open); k_whole; intro t9 h9 tk9 F9 N9; (try dsimp only); (try k_sweep); walk_say "CLAIM 137"))
local macro_rules | `(tactic| walk_at "call ref") => `(tactic| (k_here; (with_reducible show wpAny _ _ (call (Value.ref 87) _) _ _ _); k_dflt (refine' use (c_to_jd _ _ _ _ _ _ _ _ _ _ _ _ _ ?pn ?pw ?pv) ?k1 ?k2 ?k3 ?k4 ?k5 ?kK ?kd ?ku ?_); (case k1 => k_asm); (case k2 => k_asm); (case k3 => k_asm); (case k4 => k_asm); (case k5 => k_asm); (case kK => first | exact rfl | assumption); (case kd => ktr_room); (case ku => ktr_units); (case pn => with_reducible assumption); (case pv => with_reducible assumption); (case pw => ktn_open); k_whole; intro t9 h9 tk9 F9 N9; (try dsimp only); (try k_sweep); walk_say "CLAIM 87"))
local macro_rules | `(tactic| walk_at "call ref") => `(tactic| (k_here; (with_reducible show wpAny _ _ (call (Value.ref 71) _) _ _ _); k_dflt (refine' use (c_from_jd_g _ _ _ _ _ _ _ _ _ ?pv) ?k1 ?k2 ?k3 ?k4 ?k5 ?kK ?kd ?ku ?_); (case k1 => k_asm); (case k2 => k_asm); (case k3 => k_asm); (case k4 => k_asm); (case k5 => k_asm); (case kK => first | exact rfl | assumption); (case kd => ktr_room); (case ku => ktr_units); (case pv => with_reducible assumption); k_whole; intro D9 t9 u9 v9 c9 h9 tk9 F9 N9 l9; (try simp only [AllLt, and_true] at l9); (try dsimp only); (try k_sweep); walk_say "CLAIM 71"))
local macro_rules | `(tactic| walk_at "call ref") => `(tactic| (k_here; (with_reducible show wpAny _ _ (call (Value.ref 125) _) _ _ _); k_dflt (refine' use (c_to_greg _ _ _ _ _ _ _ _ _ _ _ _ _ _ _ _ ?pn ?pw ?pv ?pg) ?k1 ?k2 ?k3 ?k4 ?k5 ?kK ?kd ?ku ?_); (case k1 => k_asm); (case k2 => k_asm); (case k3 => k_asm); (case k4 => k_asm); (case k5 => k_asm); (case kK => first | exact rfl | assumption); (case kd => ktr_room); (case ku => ktr_units); (case pn => with_reducible assumption); (case pv => with_reducible assumption); (case pw => ktn_open); (case pg => with_reducible assumption); k_whole; intro D9 t9 u9 v9 c9 h9 tk9 F9 N9 l9; (try simp only [AllLt, and_true] at l9); (try dsimp only); (try k_sweep); walk_say "CLAIM 125"))
local macro_rules | `(tactic| walk_at "call ref") => `(tactic| (k_here; (with_reducible show wpAny _ _ (call (Value.ref 117) _) _ _ _); k_dflt (refine' use (c_from_greg _ _ _ _ _ _ _ _ _ _ _ _ _ _ _ _ ?pn ?pw ?pv ?pt ?pg) ?k1 ?k2 ?k3 ?k4 ?k5 ?kK ?kd ?ku ?_); (case k1 => k_asm); (case k2 => k_asm); (case k3 => k_asm); (case k4 => k_asm); (case k5 => k_asm); (case kK => first | exact rfl | assumption); (case kd => ktr_room); (case ku => ktr_units); (case pn => with_reducible assumption); (case pv => with_reducible assumption); (case pw => ktn_open); (case pt => with_reducible assumption); (case pg => with_reducible assumption); k_whole; intro D9 t9 u9 v9 c9 h9 tk9 F9 N9 l9; (try simp only [AllLt, and_true] at l9); (try dsimp only); (try k_sweep); walk_say "CLAIM 117"))
local macro_rules | `(tactic| walk_at "call ref") => `(tactic| (k_here; (with_reducible show wpAny _ _ (call (Value.ref 79) _) _ _ _); k_dflt (refine' use (c_leap _ _ _ _ _ _ _ _ ?pn ?pw ?py) ?k1 ?k2 ?k3 ?k4 ?k5 ?kK ?kd ?ku ?_); (case k1 => k_asm); (case k2 => k_asm); (case k3 => k_asm); (case k4 => k_asm); (case k5 => k_asm); (case kK => first | exact rfl | assumption); (case kd => ktr_room); (case ku => ktr_units); (case pn => with_reducible assumption); (case pw => ktn_open); (case py => ktn_open); k_whole; intro t9 h9 tk9 F9 N9; (try dsimp only); (try k_sweep); walk_say "CLAIM 79"))
local macro_rules | `(tactic| walk_at "call builtin:abs") => `(tactic| (k_here; (with_reducible refine' habs_int ?_); intro u9 tk9; try dsimp only))
local macro_rules | `(tactic| walk_at "compareOp NotEq bool bool") => `(tactic| (k_here; (with_reducible refine' ne_same ?_); try dsimp only))
local macro_rules | `(tactic| walk_at "compareOp NotEq") => `(tactic| (k_here; k_dflt (refine' ne_due ?w ?a ?b ?_; (case w => assumption); (case a => assumption); (case b => assumption); k_whole); try dsimp only))
local macro_rules | `(tactic| walk_at "compareOp NotEq float") => `(tactic| (k_here; k_dflt (refine' ne_due ?w ?a ?b ?_; (case w => assumption); (case a => assumption); (case b => assumption); k_whole); try dsimp only))
local macro_rules | `(tactic| walk_at "call ref") => `(tactic| (k_here; (with_reducible show wpAny _ _ (call (Value.ref 144) [Value.int 0 _, _, _, _, _]) _ _ _); k_dflt (refine' useL (c_asked3 _ _ _ _ _ _ _ _ _ _ _ _ _ ?pn ?px) ?k1 ?k2 ?k3 ?k4 ?k5 ?kK ?kd ?ku ?_); (case k1 => k_asm); (case k2 => k_asm); (case k3 => k_asm); (case k4 => k_asm); (case k5 => k_asm); (case kK => first | exact rfl | assumption); (case kd => ktr_room); (case ku => ktr_units); (case pn => with_reducible assumption); (case px => first | omega | (constructor <;> omega)); k_whole; intro t9 h9 tk9 F9 N9; (try dsimp only); (try k_sweep); walk_say "CLAIM 144"))
local macro_rules | `(tactic| walk_at "call ref") => `(tactic| (k_here; (with_reducible show wpAny _ _ (call (Value.ref 144) [Value.int 0 _, _, _, _, Value.str _ _]) _ _ _); k_dflt (refine' useL (c_asked4 _ _ _ _ _ _ _ _ _ _ _ _ ?pn ?px) ?k1 ?k2 ?k3 ?k4 ?k5 ?kK ?kd ?ku ?_); (case k1 => k_asm); (case k2 => k_asm); (case k3 => k_asm); (case k4 => k_asm); (case k5 => k_asm); (case kK => first | exact rfl | assumption); (case kd => ktr_room); (case ku => ktr_units); (case pn => exact isNmR _); (case px => first | omega | (constructor <;> omega)); k_whole; intro t9 h9 tk9 F9 N9; (try dsimp only); (try k_sweep); walk_say "CLAIM 144"))
local macro_rules | `(tactic| walk_at "call ref") => `(tactic| (k_here; (with_reducible show wpAny _ _ (call (Value.ref 144) [Value.int 1 _, _, _, _, Value.str _ _]) _ _ _); k_dflt (refine' useL (c_asked5 _ _ _ _ _ _ _ _ _ _ ?pn ?px) ?k1 ?k2 ?k3 ?k4 ?k5 ?kK ?kd ?ku ?_); (case k1 => k_asm); (case k2 => k_asm); (case k3 => k_asm); (case k4 => k_asm); (case k5 => k_asm); (case kK => first | exact rfl | assumption); (case kd => ktr_room); (case ku => ktr_units); (case pn => exact isNmR _); (case px => omega); k_whole; intro t9 h9 tk9 F9 N9; (try dsimp only); (try k_sweep); walk_say "CLAIM 144"))
local macro_rules | `(tactic| walk_at "call ref") => `(tactic| (k_here; (with_reducible show wpAny _ _ (call (Value.ref 144) [Value.int 1 _, _, _, _, _]) _ _ _); k_dflt (refine' useL (c_askedV _ _ _ _ _ _ _ _ _ _ _ _ _ ?pn ?pw ?pg ?pm) ?k1 ?k2 ?k3 ?k4 ?k5 ?kK ?kd ?ku ?_); (case k1 => k_asm); (case k2 => k_asm); (case k3 => k_asm); (case k4 => k_asm); (case k5 => k_asm); (case kK => first | exact rfl | assumption); (case kd => ktr_room); (case ku => ktr_units); (case pn => with_reducible assumption); (case pw => assumption); (case pg => assumption); (case pm => omega); k_whole; intro v9 h9 tk9 hD9 F9 N9; (try dsimp only); (try k_sweep); walk_say "CLAIM 144"))
local macro_rules | `(tactic| walk_at "compareOp Eq str str") => `(tactic| (k_here; (with_reducible refine' eq_strS ?_); try dsimp only))
local macro_rules | `(tactic| wrow_close) => `(tactic| (w_end; (show GoodW _ _ _ _ _ (Except.ok (Flow.ret (Value.bool true))) _); refine goodW_bool (by assumption) (by assumption) (raisesW_false ?_) ?_; (· wrow_none_raised); (· exact post_true _); walk_say "CLOSE true"))
theorem law1 : PySem.Challenge.rw_ak5018_01.Holds := Mine.hd1 (by
  w_strict (
  k_go0
  (all_goals try k_fold)
  (repeat' ((fail_if_success (with_reducible show wpAny _ _ (exec (Stmt.Assign [Expr.Name (PySem.Str.ofString "way") _] _ _) _) _ _ _)); (first | (k_unfold; (try dsimp only)) | (k_end; wrow_close) | (walk1 <;> (try dsimp only)) | (dsimp only; walk1) | (leave1; walk_say "STEP leave1"; try dsimp only) | fail "no step")))
  rename IntsAre _ (_ ++ _) => hI0
  obtain ⟨vs, hI1, hl6, hvb⟩ := numbers_ok hI0 (fun k => by split <;> (try split) <;> omega)
  clear hI0
  (repeat' ((fail_if_success (with_reducible show wpAny _ _ (exec (Stmt.Assign [Expr.Name (PySem.Str.ofString "name") _] _ _) _) _ _ _)); (first | (k_unfold; (try dsimp only)) | (k_end; wrow_close) | (walk1 <;> (try dsimp only)) | (dsimp only; walk1) | (leave1; walk_say "STEP leave1"; try dsimp only) | fail "no step")))
  obtain ⟨wy, hwy⟩ : ∃ wy, vs.getD (Int.toNat 1) 0 % 3 = wy := ⟨_, rfl⟩
  rename Fr _ _ _ _ => FJ
  rename News _ _ _ _ => NJ
  rw [hwy] at FJ
  have hw : 0 ≤ wy ∧ wy ≤ 2 := by omega
  (with_reducible refine' join_val (PySem.Str.ofString "name") (IsNm wy) ?jF ?jN ?_ ?_); (case jF => assumption); (case jN => assumption)
  · k_steps
    all_goals (
      first
      | exact jv_end1 (by assumption) (by assumption) (by kcj_all) (isNm_int hw (by first | (have e : wy = 0 := (by law_clear; omega); rw [e]; rfl) | (have e : wy = 1 := (by law_clear; omega); rw [e]; rfl) | (have e : wy = 2 := (by law_clear; omega); rw [e]; rfl))) rfl
      | exact jv_end1 (by assumption) (by assumption) (by kcj_all) (isNm_str hw (by first | (have e : wy = 0 := (by law_clear; omega); rw [e]; rfl) | (have e : wy = 1 := (by law_clear; omega); rw [e]; rfl) | (have e : wy = 2 := (by law_clear; omega); rw [e]; rfl))) rfl)
  (try clear FJ); (try clear NJ)
  intro nv hJ kJ hN FJ NJ
  (try dsimp only)
  have hb0 := hvb (Int.toNat 0)
  have hb3 := hvb (Int.toNat 3)
  clear hwy
  (repeat' ((fail_if_success (with_reducible show wpAny _ _ (exec (Stmt.If _ _ _ _) _) _ _ _)); (first | (k_unfold; (try dsimp only)) | (k_end; wrow_close) | (walk1 <;> (try dsimp only)) | (dsimp only; walk1) | (leave1; walk_say "STEP leave1"; try dsimp only) | fail "no step")))
  -- the days past
  obtain ⟨P, hP, hPb, hP1, hP2⟩ : ∃ P : Int, ((wy = 0 ∧ P = ((vs.getD (Int.toNat 0) 0).natAbs : Int)) ∨ (wy = 1 ∧ P = ((vs.getD (Int.toNat 0) 0).natAbs : Int) % 36524) ∨ (wy = 2 ∧ P = ((vs.getD (Int.toNat 0) 0).natAbs : Int) % 46751)) ∧ (0 ≤ P ∧ P ≤ 10000000) ∧ (wy = 1 → P < 36524) ∧ (wy = 2 → P < 46751) := by
    generalize vs.getD (Int.toNat 0) 0 = x at *
    rcases (by omega : wy = 0 ∨ wy = 1 ∨ wy = 2) with h | h | h
    · exact ⟨(x.natAbs : Int), .inl ⟨h, rfl⟩, by omega, fun _ => by omega, fun _ => by omega⟩
    · exact ⟨(x.natAbs : Int) % 36524, .inr (.inl ⟨h, rfl⟩), by omega, fun _ => by omega, fun _ => by omega⟩
    · exact ⟨(x.natAbs : Int) % 46751, .inr (.inr ⟨h, rfl⟩), by omega, fun _ => by omega, fun _ => by omega⟩
  obtain ⟨y, m, d, hv, ht, hy128⟩ := fr_exists hw hPb hP1 hP2
  obtain ⟨Y, M, Z, hG⟩ := g_exists (n := 2375840 + P) (by omega) (by omega)
  clear hP1 hP2
  (with_reducible refine' join_val (PySem.Str.ofString "past") (fun v => ∃ t, v = .int P t) ?jF ?jN ?_ ?_); (case jF => assumption); (case jN => assumption)
  · rcases hP with ⟨hP0, hP⟩ | ⟨hP0, hP⟩ | ⟨hP0, hP⟩ <;> subst hP0
    all_goals (
      k_steps)
    all_goals (
      first
      | exact jv_end1 (by assumption) (by assumption) (by kcj_all) ⟨_, congrArg (fun x => Value.int x _) (by law_clear; omega)⟩ rfl
      | exact jv_end2 (by assumption) (by assumption) (by kcj_all) rfl ⟨_, congrArg (fun x => Value.int x _) (by law_clear; omega)⟩ rfl)
  (try clear FJ); (try clear NJ)
  intro v2 hJ2 kJ2 ⟨t2, e2⟩ FJ NJ
  subst e2
  (try dsimp only)
  clear hP
  have hvf := hv
  obtain ⟨hg, z1, z2, z3, z4, z5, z6⟩ := hvf
  have hg1 := hg.1
  have hg2 := hg.2.1
  have h13 : m ≠ 13 ∨ (long wy y = true ∧ d ≤ 6) ∨ (long wy y = false ∧ d ≤ 5) := by
    have hlo := lo_cases wy y
    by_cases h : m = 13
    · have := z5 h
      rcases hlo with ⟨h1, _, h2⟩ | ⟨h1, _, h2⟩
      · exact .inr (.inl ⟨h2, by omega⟩)
      · exact .inr (.inr ⟨h2, by omega⟩)
    · exact .inl h
  clear z5
  (repeat' ((fail_if_success (with_reducible show wpAny _ _ (exec (Stmt.If (Expr.BoolOp _ _ _) _ _ _) _) _ _ _)); (first | (k_unfold; (try dsimp only)) | (k_end; wrow_close) | (walk1 <;> (try dsimp only)) | (dsimp only; walk1) | (leave1; walk_say "STEP leave1"; try dsimp only) | fail "no step")))
  refine join_skip (by assumption) (by assumption) ?_ ?_
  · k_steps
    all_goals (
      first
      | exact js_end (by assumption) (by assumption) (by kcj_all) rfl)
  (try clear FJ); (try clear NJ)
  intro hJ7 kJ7 FJ NJ
  (try dsimp only)
  (repeat' ((fail_if_success (with_reducible show wpAny _ _ (exec (Stmt.If (Expr.Compare _ _ _ _) _ _ _) _) _ _ _)); (first | (k_unfold; (try dsimp only)) | (k_end; wrow_close) | (walk1 <;> (try dsimp only)) | (dsimp only; walk1) | (leave1; walk_say "STEP leave1"; try dsimp only) | fail "no step")))
  refine join_skip (by assumption) (by assumption) ?_ ?_
  · rcases h13 with h13 | ⟨h13, h14⟩ | ⟨h13, h14⟩
    all_goals (
      (repeat' ((first | (k_unfold; (try dsimp only)) | (k_end; wrow_close) | (walk1 <;> (try dsimp only)) | (dsimp only; walk1) | (leave1; walk_say "STEP leave1"; try dsimp only) | fail "no step")))
      all_goals (
        first
        | exact js_end (by assumption) (by assumption) (by kcj_all) rfl))
  (try clear FJ); (try clear NJ)
  clear h13
  intro hJ3 kJ3 FJ NJ
  (try dsimp only)
  (repeat' ((fail_if_success (with_reducible show wpAny _ _ (exec (Stmt.If (Expr.Compare (Expr.Name (PySem.Str.ofString "way") _) _ _ _) _ _ _) _) _ _ _)); (first | (k_unfold; (try dsimp only)) | (k_end; wrow_close) | (walk1 <;> (try dsimp only)) | (dsimp only; walk1) | (leave1; walk_say "STEP leave1"; try dsimp only) | fail "no step")))
  -- the second year
  have hb4 := hvb (Int.toNat 4)
  have hb5 := hvb (Int.toNat 5)
  clear hv ht hG hg hy128 z1 z2 z3 z4 z6 hg1 hg2
  obtain ⟨y3, hy3, hgd, hy3b⟩ : ∃ y3 : Int, ((wy = 0 ∧ y3 = ((vs.getD (Int.toNat 3) 0).natAbs : Int) + 1) ∨ (wy = 1 ∧ y3 = ((vs.getD (Int.toNat 3) 0).natAbs : Int) % 100 + 1) ∨ (wy = 2 ∧ y3 = ((vs.getD (Int.toNat 3) 0).natAbs : Int) % 128 + 1)) ∧ Good wy y3 ∧ (wy = 0 ∨ y3 ≤ 128) := by
    generalize vs.getD (Int.toNat 3) 0 = x at *
    rcases (by omega : wy = 0 ∨ wy = 1 ∨ wy = 2) with h | h | h
    · exact ⟨(x.natAbs : Int) + 1, .inl ⟨h, rfl⟩, ⟨by omega, by omega, fun h2 => by omega, fun h2 => by omega⟩, .inl h⟩
    · refine ⟨(x.natAbs : Int) % 100 + 1, .inr (.inl ⟨h, rfl⟩), ⟨by omega, by omega, fun _ => ⟨by omega, fun _ => ?_⟩, fun h2 => by omega⟩, by omega⟩
      have e : ((x.natAbs : Int) % 100 + 1 - 1) / 100 = 0 := by omega
      rw [e]; rfl
    · exact ⟨(x.natAbs : Int) % 128 + 1, .inr (.inr ⟨h, rfl⟩), ⟨by omega, by omega, fun h2 => by omega, fun _ h3 => by omega⟩, by omega⟩
  have hg1 := hgd.1
  have hg2 := hgd.2.1
  (with_reducible refine' join_val (PySem.Str.ofString "year") (fun v => ∃ t, v = .int y3 t) ?jF ?jN ?_ ?_); (case jF => assumption); (case jN => assumption)
  · rcases hy3 with ⟨hP0, hP⟩ | ⟨hP0, hP⟩ | ⟨hP0, hP⟩ <;> subst hP0
    all_goals (
      k_steps)
    all_goals (
      first
      | exact jv_end1 (by assumption) (by assumption) (by kcj_all) ⟨_, congrArg (fun x => Value.int x _) (by law_clear; omega)⟩ rfl
      | exact jv_end2 (by assumption) (by assumption) (by kcj_all) rfl ⟨_, congrArg (fun x => Value.int x _) (by law_clear; omega)⟩ rfl)
  (try clear FJ); (try clear NJ)
  intro v3 hJ3 kJ3 ⟨t3, e3⟩ FJ NJ
  subst e3
  (try dsimp only)
  clear hy3 hb3
  (repeat' ((fail_if_success (with_reducible show wpAny _ _ (exec (Stmt.If (Expr.BoolOp _ _ _) _ _ _) _) _ _ _)); (first | (k_unfold; (try dsimp only)) | (k_end; wrow_close) | (walk1 <;> (try dsimp only)) | (dsimp only; walk1) | (leave1; walk_say "STEP leave1"; try dsimp only) | fail "no step")))
  -- the due answer
  obtain ⟨MO, hMO⟩ : ∃ MO, vs.getD (Int.toNat 4) 0 % 15 + 1 = MO := ⟨_, rfl⟩
  obtain ⟨DD, hDD⟩ : ∃ DD, vs.getD (Int.toNat 5) 0 % 34 - 1 = DD := ⟨_, rfl⟩
  have hMO1 : 1 ≤ MO ∧ MO ≤ 15 := by omega
  have hDD1 : -1 ≤ DD ∧ DD ≤ 32 := by omega
  rename Fr _ _ _ _ => FJ
  rename News _ _ _ _ => NJ
  rw [hMO, hDD] at FJ
  clear hMO hDD hb4 hb5
  (with_reducible refine' join_val (PySem.Str.ofString "due") (DueIs wy y3 MO DD) ?jF ?jN ?_ ?_); (case jF => assumption); (case jN => assumption)
  · have hlo := lo_cases wy y3
    have hFb := F_bd hgd hw
    have hv9 : (MO ≤ 13 ∧ 1 ≤ DD ∧ DD ≤ 30 ∧ (MO = 13 → DD ≤ 5 + lo wy y3)) → FD wy (F wy y3 + 30 * (MO - 1) + DD - 1) y3 MO DD := fun h => ⟨hgd, hMO1.1, h.1, h.2.1, h.2.2.1, h.2.2.2, rfl⟩
    have hv8 : ¬ (MO ≤ 13 ∧ 1 ≤ DD ∧ DD ≤ 30 ∧ (MO = 13 → DD ≤ 5 + lo wy y3)) → ∀ n, ¬ FD wy n y3 MO DD := fun h n hF => h ⟨hF.2.2.1, hF.2.2.2.1, hF.2.2.2.2.1, hF.2.2.2.2.2.1⟩
    rcases hlo with ⟨hlo, _, hlg⟩ | ⟨hlo, _, hlg⟩
    all_goals (
      (repeat' ((first | (k_unfold; (try dsimp only)) | (k_end; wrow_close) | (walk1 <;> (try dsimp only)) | (dsimp only; walk1) | (leave1; walk_say "STEP leave1"; try dsimp only) | fail "no step")))
      all_goals (
        first
        | exact jv_end1 (by assumption) (by assumption) (by kcj_all) (.inl ⟨_, _, hv9 (by omega), congrArg (fun x => Value.float (H x) _) (by law_clear; omega)⟩) rfl
        | exact jv_end2 (by assumption) (by assumption) (by kcj_all) rfl (.inr ⟨hv8 (by omega), _, rfl⟩) rfl))
  (try clear FJ); (try clear NJ)
  intro v4 hJ4 kJ4 hdue FJ NJ
  (try dsimp only)
  (repeat' ((first | (k_unfold; (try dsimp only)) | (k_end; wrow_close) | (walk1 <;> (try dsimp only)) | (dsimp only; walk1) | (leave1; walk_say "STEP leave1"; try dsimp only) | fail "no step")))))
end

end
end Mine
theorem PySem.Challenge.cw_ak5018_01_holds : PySem.Challenge.rw_ak5018_01.Holds :=
  Mine.law1
