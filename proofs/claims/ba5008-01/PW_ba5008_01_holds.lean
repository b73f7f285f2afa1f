import PyProof.Rows.All
import Wide.All
import OpenK.AllK
import Wide.FinOn
import Lean
import PySem.Challenge.RW_ba5008_01
set_option Elab.async false
set_option maxRecDepth 100000
namespace Mine
-- f1
section
open PySem PySem.Float64

theorem V_inj {t t' : Nat} (h : V t = V t') : t = t' := by
  rcases Nat.lt_trichotomy t t' with h1 | h1 | h1
  · have := V_lt h1; omega
  · exact h1
  · have := V_lt h1; omega
theorem lt_of_V {t t' : Nat} (h : V t < V t') : t < t' := by
  rcases Nat.lt_trichotomy t t' with h1 | h1 | h1
  · exact h1
  · subst h1; omega
  · have := V_lt h1; omega

theorem rep {a c : Nat} (ha : a < 2 ^ 53) (hc : 52 ≤ c) (hc2 : c ≤ 1074) : ∃ t, t < infMag ∧ V t = a * 2 ^ c := by
  have hi : infMag = 2047 * 2 ^ 52 := rfl
  by_cases h0 : a = 0
  · subst h0
    exact ⟨0, by omega, by rw [V_zero, Nat.zero_mul]⟩
  · have hl1 := Nat.log2_self_le h0
    have hl2 := Nat.lt_log2_self (n := a)
    have hl : a.log2 < 53 := (Nat.log2_lt h0).mpr ha
    generalize a.log2 = l at *
    have e1 : 2 ^ (l + 1) * 2 ^ (52 - l) = 2 ^ 53 := by rw [← Nat.pow_add]; congr 1; omega
    have e2 : 2 ^ l * 2 ^ (52 - l) = 2 ^ 52 := by rw [← Nat.pow_add]; congr 1; omega
    have hp := Nat.two_pow_pos (52 - l)
    have hq1 : 2 ^ 52 ≤ a * 2 ^ (52 - l) := by rw [← e2]; exact Nat.mul_le_mul_right _ hl1
    have hq2 : a * 2 ^ (52 - l) < 2 ^ 53 := by rw [← e1]; exact Nat.mul_lt_mul_of_pos_right hl2 hp
    have hV := V_at (k := c - (52 - l)) (q := a * 2 ^ (52 - l)) (by omega) (.inl hq1)
    refine ⟨(c - (52 - l)) * 2 ^ 52 + a * 2 ^ (52 - l), by omega, ?_⟩
    rw [hV, Nat.mul_assoc, ← Nat.pow_add]
    congr 2
    omega

theorem V_top {t : Nat} (h : t < infMag) : V t ≤ (2 ^ 53 - 1) * 2 ^ 2045 := by
  have hi : infMag = 2047 * 2 ^ 52 := rfl
  have hV := V_at (k := 2045) (q := 2 ^ 53 - 1) (by omega) (.inl (by omega))
  rw [← hV]
  exact V_mono (by omega)

theorem right_fin {r : UInt64} {neg : Bool} {W D t2 : Nat} (hR : Right r neg W D) (hD : 0 < D) (ht : t2 < infMag) (hW : W ≤ D * V t2) :
    ∃ t, r = pack neg t ∧ t < infMag ∧ ∀ t', dist W (D * V t) ≤ dist W (D * V t') := by
  obtain ⟨t, hr, hle, hiff, hn⟩ := hR
  have hlt : t < infMag := by
    refine Nat.lt_of_le_of_ne hle fun e => ?_
    have h := hiff.mp e
    have h2 := V_top ht
    have hJ : 0 < (2 : Nat) ^ 2045 := Nat.two_pow_pos _
    generalize (2 : Nat) ^ 2045 = J at *
    have h3 : D * V t2 ≤ D * ((2 ^ 53 - 1) * J) := Nat.mul_le_mul_left D h2
    have h4 : D * ((2 ^ 54 - 1) * J) = 2 * (D * ((2 ^ 53 - 1) * J)) + D * J := by
      have : (2 ^ 54 - 1) * J = 2 * ((2 ^ 53 - 1) * J) + J := by omega
      rw [this, Nat.mul_add]
      congr 1
      rw [Nat.mul_left_comm]
    have h5 : 0 < D * J := Nat.mul_pos hD hJ
    omega
  exact ⟨t, hr, hlt, fun t' => (hn hlt t').1⟩

theorem right_between {r : UInt64} {neg : Bool} {W D t1 t2 : Nat} (hR : Right r neg W D) (hD : 0 < D) (ht : t2 < infMag) (h1 : D * V t1 ≤ W) (h2 : W ≤ D * V t2) :
    ∃ t, r = pack neg t ∧ t < infMag ∧ V t1 ≤ V t ∧ V t ≤ V t2 := by
  obtain ⟨t, hr, hlt, hn⟩ := right_fin hR hD ht h2
  refine ⟨t, hr, hlt, ?_, ?_⟩
  · refine Nat.le_of_not_lt fun h => ?_
    have h3 : D * V t < D * V t1 := Nat.mul_lt_mul_of_pos_left h hD
    have h4 := hn t1
    unfold dist at h4
    omega
  · refine Nat.le_of_not_lt fun h => ?_
    have h3 : D * V t2 < D * V t := Nat.mul_lt_mul_of_pos_left h hD
    have h4 := hn t2
    unfold dist at h4
    omega

theorem right_exact {r : UInt64} {neg : Bool} {W D t0 : Nat} (hR : Right r neg W D) (hD : 0 < D) (ht : t0 < infMag) (hW : W = D * V t0) : r = pack neg t0 := by
  obtain ⟨t, hr, _, h1, h2⟩ := right_between hR hD ht (Nat.le_of_eq hW.symm) (Nat.le_of_eq hW)
  rw [hr, V_inj (Nat.le_antisymm h2 h1)]

def H (k : Int) : UInt64 := ofFrac (decide (k < 0)) k.natAbs 2

theorem H_pack {k : Int} {t : Nat} (ht : t < infMag) (hV : V t = k.natAbs * 2 ^ 1073) : H k = pack (decide (k < 0)) t := by
  refine right_exact (W := k.natAbs * 2 ^ 1073) (D := 1) (ofFrac_right (by decide) ?_ (by decide)) (by decide) ht (by rw [hV, Nat.one_mul])
  have e : (2 : Nat) ^ 1074 = 2 ^ 1073 * 2 := Nat.pow_succ ..
  rw [e]
  generalize (2 : Nat) ^ 1073 = K
  ac_rfl
theorem H_form {k : Int} (hk : k.natAbs < 2 ^ 53) : ∃ t, t < infMag ∧ V t = k.natAbs * 2 ^ 1073 ∧ H k = pack (decide (k < 0)) t := by
  obtain ⟨t, ht, hV⟩ := rep (a := k.natAbs) (c := 1073) hk (by decide) (by decide)
  exact ⟨t, ht, hV, H_pack ht hV⟩
theorem sgn_natAbs' (k : Int) (K : Nat) : sgn (decide (k < 0)) (k.natAbs * K) = k * K := by
  rw [sgn_mul]
  congr 1
  unfold sgn
  by_cases h : k < 0
  · simp only [h, decide_true, if_true]; omega
  · simp only [h, decide_false]; simp; omega
theorem H_dec {k : Int} (hk : k.natAbs < 2 ^ 53) : ∃ m e, decode (H k) = .fin (decide (k < 0)) m e ∧ val (H k) = k * ((2 ^ 1073 : Nat) : Int) ∧ m * 2 ^ (e + 1074).toNat = k.natAbs * 2 ^ 1073 := by
  obtain ⟨t, ht, hV, he⟩ := H_form hk
  obtain ⟨m, e, hd, hm⟩ := decode_pack (decide (k < 0)) ht
  refine ⟨m, e, by rw [he, hd], ?_, by rw [hm, hV]⟩
  rw [he, val_pack _ ht, hV, sgn_natAbs']

theorem ofInt_H {n : Int} (hn : n.natAbs < 2 ^ 52) : ofInt n = H (2 * n) := by
  obtain ⟨t, ht, hV, he⟩ := H_form (k := 2 * n) (by omega)
  rw [he]
  have e1 : decide (n < 0) = decide (2 * n < 0) := by by_cases h : n < 0 <;> simp [h] <;> omega
  have := right_exact (ofInt_right n) (by decide) ht (by
    rw [hV, Nat.one_mul, Int.natAbs_mul, show (2 : Nat) ^ 1074 = 2 ^ 1073 * 2 from Nat.pow_succ ..]
    generalize (2 : Nat) ^ 1073 = K
    show n.natAbs * (K * 2) = 2 * n.natAbs * K
    ac_rfl)
  rw [this, e1]

theorem Kpos : (0 : Int) < ((2 ^ 1073 : Nat) : Int) := Int.ofNat_lt.mpr (Nat.two_pow_pos _)

theorem add_H {a b : Int} (ha : a.natAbs < 2 ^ 53) (hb : b.natAbs < 2 ^ 53) (hab : (a + b).natAbs < 2 ^ 53) : add (H a) (H b) = H (a + b) := by
  obtain ⟨m, e, hd, hv, hm⟩ := H_dec ha
  obtain ⟨m', e', hd', hv', hm'⟩ := H_dec hb
  obtain ⟨h0, h1⟩ := add_right hd hd'
  have hK := Kpos
  have hs : val (H a) + val (H b) = (a + b) * ((2 ^ 1073 : Nat) : Int) := by rw [hv, hv', Int.add_mul]
  rw [hs] at h0 h1
  by_cases hz : a + b = 0
  · rw [h0 (by rw [hz, Int.zero_mul]), hz]
    have : (decide (a < 0) && decide (b < 0)) = false := by
      by_cases h : a < 0
      · have : ¬ b < 0 := by omega
        simp [this]
      · simp [h]
    rw [this]
    decide +kernel
  · obtain ⟨t, ht, hV, he⟩ := H_form hab
    have hne : (a + b) * ((2 ^ 1073 : Nat) : Int) ≠ 0 := Int.mul_ne_zero hz (Int.ne_of_gt hK)
    have := right_exact (h1 hne) (by decide) ht (by rw [hV, Nat.one_mul, Int.natAbs_mul, Int.natAbs_natCast])
    rw [this, he]
    congr 1
    by_cases h : a + b < 0
    · have := Int.mul_neg_of_neg_of_pos h hK
      rw [decide_eq_true h, decide_eq_true this]
    · have := Int.mul_nonneg (Int.not_lt.mp h) (Int.le_of_lt hK)
      rw [decide_eq_false h, decide_eq_false (Int.not_lt.mpr this)]

theorem neg_H {b : Int} (hb : b.natAbs < 2 ^ 53) (h0 : b ≠ 0) : neg (H b) = H (-b) := by
  obtain ⟨t, ht, hV, he⟩ := H_form hb
  obtain ⟨t', ht', hV', he'⟩ := H_form (k := -b) (by omega)
  rw [Int.natAbs_neg] at hV'
  have : t' = t := V_inj (hV'.trans hV.symm)
  subst this
  rw [he, he']
  have hn : isNaN (pack (decide (b < 0)) t') = false := W.isNaN_pack _ (Nat.le_of_lt ht)
  unfold neg
  rw [hn]
  simp only [Bool.false_eq_true, if_false]
  have e1 : decide (-b < 0) = !decide (b < 0) := by
    by_cases h : b < 0
    · have : ¬ -b < 0 := by omega
      rw [decide_eq_true h, decide_eq_false this]; rfl
    · have : -b < 0 := by omega
      rw [decide_eq_false h, decide_eq_true this]; rfl
  rw [e1]
  have hi : infMag = 2047 * 2 ^ 52 := rfl
  have hlt : t' < 2 ^ 63 := by omega
  apply UInt64.toNat_inj.mp
  rw [UInt64.toNat_xor, pack_toNat _ hlt, pack_toNat _ hlt, show (pack true 0).toNat = 2 ^ 63 from by decide]
  cases decide (b < 0)
  · simp only [Bool.false_eq_true, if_false, Bool.not_false, if_true, Nat.zero_add]
    rw [Nat.xor_comm, Nat.add_comm]
    have := Nat.two_pow_add_eq_or_of_lt (i := 63) (b := t') hlt 1
    rw [Nat.mul_one] at this
    rw [Nat.add_comm, this]
    apply Nat.eq_of_testBit_eq
    intro i
    rw [Nat.testBit_xor, Nat.testBit_or, Nat.testBit_two_pow]
    by_cases h : 63 = i
    · subst h
      rw [Nat.testBit_lt_two_pow hlt]; simp
    · simp [h]
  · simp only [if_true, Bool.not_true, Bool.false_eq_true, if_false, Nat.zero_add]
    have := Nat.two_pow_add_eq_or_of_lt (i := 63) (b := t') hlt 1
    rw [Nat.mul_one] at this
    rw [this]
    apply Nat.eq_of_testBit_eq
    intro i
    rw [Nat.testBit_xor, Nat.testBit_or, Nat.testBit_two_pow]
    by_cases h : 63 = i
    · subst h
      rw [Nat.testBit_lt_two_pow hlt]; simp
    · simp [h]

theorem add_H_zero {a : Int} (ha : a.natAbs < 2 ^ 53) : add (H a) (neg (H 0)) = H a := by
  obtain ⟨m, e, hd, hv, hm⟩ := H_dec ha
  have hz' : neg (H 0) = pack true 0 := by decide +kernel
  obtain ⟨m0, e0, hd', hm0⟩ := decode_pack true (t := 0) (by decide)
  rw [hz']
  obtain ⟨h0, h1⟩ := add_right hd hd'
  have hv0 : val (pack true 0) = 0 := by rw [val_pack true (by decide), V_zero]; rfl
  have hK := Kpos
  rw [hv0, Int.add_zero, hv] at h0 h1
  by_cases hz : a = 0
  · subst hz
    decide +kernel
  · obtain ⟨t, ht, hV, he⟩ := H_form ha
    have hne : a * ((2 ^ 1073 : Nat) : Int) ≠ 0 := Int.mul_ne_zero hz (Int.ne_of_gt hK)
    have := right_exact (h1 hne) (by decide) ht (by rw [hV, Nat.one_mul, Int.natAbs_mul, Int.natAbs_natCast])
    rw [this, he]
    congr 1
    by_cases h : a < 0
    · have := Int.mul_neg_of_neg_of_pos h hK
      rw [decide_eq_true h, decide_eq_true this]
    · have := Int.mul_nonneg (Int.not_lt.mp h) (Int.le_of_lt hK)
      rw [decide_eq_false h, decide_eq_false (Int.not_lt.mpr this)]

theorem sub_H {a b : Int} (ha : a.natAbs < 2 ^ 53) (hb : b.natAbs < 2 ^ 53) (hab : (a - b).natAbs < 2 ^ 53) : sub (H a) (H b) = H (a - b) := by
  unfold sub
  by_cases h0 : b = 0
  · subst h0
    rw [add_H_zero ha, Int.sub_zero]
  · rw [neg_H hb h0, add_H ha (by omega) (by rw [← Int.sub_eq_add_neg]; exact hab), Int.sub_eq_add_neg]

theorem compare_mul {p q K : Int} (hK : 0 < K) : compare (p * K) (q * K) = compare p q := by
  rcases Int.lt_trichotomy p q with h | h | h
  · rw [Int.compare_eq_lt.mpr h, Int.compare_eq_lt.mpr (Int.mul_lt_mul_of_pos_right h hK)]
  · subst h; simp
  · rw [Int.compare_eq_gt.mpr h, Int.compare_eq_gt.mpr (Int.mul_lt_mul_of_pos_right h hK)]
theorem cmp_H {a b : Int} (ha : a.natAbs < 2 ^ 53) (hb : b.natAbs < 2 ^ 53) : cmp (H a) (H b) = some (compare a b) := by
  obtain ⟨m, e, hd, hv, hm⟩ := H_dec ha
  obtain ⟨m', e', hd', hv', hm'⟩ := H_dec hb
  rw [cmp_right hd hd', hv, hv', compare_mul Kpos]
theorem cmpInt_H {a : Int} (ha : a.natAbs < 2 ^ 53) (n : Int) : cmpInt (H a) n = some (compare a (2 * n)) := by
  obtain ⟨m, e, hd, hv, hm⟩ := H_dec ha
  rw [cmpInt_right hd, hv]
  have e1 : n * (2 : Int) ^ 1074 = (2 * n) * ((2 ^ 1073 : Nat) : Int) := by
    rw [Int.pow_succ, Int.natCast_pow]
    show n * (2 ^ 1073 * 2) = 2 * n * 2 ^ 1073
    generalize (2 : Int) ^ 1073 = K
    ac_rfl
  rw [e1, compare_mul Kpos]

end
-- f2
section
open PySem PySem.Float64

def Fl (x : UInt64) (k : Int) : Prop := ∃ s m e, decode x = .fin s m e ∧ floorOf s m e = k

theorem pw (n : Nat) : ((2 ^ n : Nat) : Int) = (2 : Int) ^ n := by simp
theorem fl_val {x : UInt64} {s : Bool} {m : Nat} {e k : Int} (h : decode x = .fin s m e) (h1 : k * ((2 ^ 1074 : Nat) : Int) ≤ val x) (h2 : val x < (k + 1) * ((2 ^ 1074 : Nat) : Int)) : Fl x k := by
  refine ⟨s, m, e, h, ?_⟩
  have he := decode_ge h
  have hv := val_eq h
  rw [sgn_mul] at hv
  unfold floorOf
  split
  · rename_i hp
    have e1 : (e + 1074).toNat = e.toNat + 1074 := by omega
    rw [e1, Nat.pow_add, Int.natCast_mul, ← Int.mul_assoc] at hv
    rw [hv] at h1 h2
    have hK : (0 : Int) < ((2 ^ 1074 : Nat) : Int) := Int.ofNat_lt.mpr (Nat.two_pow_pos _)
    have a1 := Int.le_of_mul_le_mul_right h1 hK
    have a2 := Int.lt_of_mul_lt_mul_right h2 (Int.le_of_lt hK)
    rw [pw] at a1 a2
    omega
  · rename_i hp
    have e1 : (1074 : Nat) = (-e).toNat + (e + 1074).toNat := by omega
    have e2 : ((2 ^ 1074 : Nat) : Int) = ((2 ^ (-e).toNat : Nat) : Int) * ((2 ^ (e + 1074).toNat : Nat) : Int) := by
      rw [← Int.natCast_mul, ← Nat.pow_add, ← e1]
    rw [e2, hv, ← Int.mul_assoc] at h1
    rw [e2, hv, ← Int.mul_assoc] at h2
    have hK : (0 : Int) < ((2 ^ (e + 1074).toNat : Nat) : Int) := Int.ofNat_lt.mpr (Nat.two_pow_pos _)
    have a1 := Int.le_of_mul_le_mul_right h1 hK
    have a2 := Int.lt_of_mul_lt_mul_right h2 (Int.le_of_lt hK)
    have hP : (0 : Int) < (2 : Int) ^ (-e).toNat := by rw [← pw]; exact Int.ofNat_lt.mpr (Nat.two_pow_pos _)
    rw [pw] at a1 a2
    rw [Int.fdiv_eq_ediv_of_nonneg _ (Int.le_of_lt hP)]
    have b1 := (Int.le_ediv_iff_mul_le hP).mpr a1
    have b2 := (Int.ediv_lt_iff_lt_mul hP).mpr a2
    omega

theorem K2 : (2 : Nat) ^ 1074 = 2 ^ 1073 * 2 := Nat.pow_succ ..
theorem fl_H {a : Int} (ha : a.natAbs < 2 ^ 53) : Fl (H a) (a / 2) := by
  obtain ⟨m, e, hd, hv, _⟩ := H_dec ha
  have hK := Kpos
  have e1 : ((2 ^ 1074 : Nat) : Int) = ((2 ^ 1073 : Nat) : Int) * 2 := by rw [K2, Int.natCast_mul]; rfl
  refine fl_val hd ?_ ?_
  · rw [hv, e1]
    generalize ((2 ^ 1073 : Nat) : Int) = K at *
    have : a / 2 * (K * 2) = (a / 2 * 2) * K := by rw [Int.mul_comm K 2, Int.mul_assoc]
    rw [this]
    exact Int.mul_le_mul_of_nonneg_right (by omega) (Int.le_of_lt hK)
  · rw [hv, e1]
    generalize ((2 ^ 1073 : Nat) : Int) = K at *
    have : (a / 2 + 1) * (K * 2) = ((a / 2 + 1) * 2) * K := by rw [Int.mul_comm K 2, Int.mul_assoc]
    rw [this]
    exact Int.mul_lt_mul_of_pos_right (by omega) hK

def Btw (x : UInt64) (q c : Nat) : Prop := (q + 1) * 2 ^ c ≤ 2 ^ 53 ∧ c ≤ 1000 ∧ ∃ t, x = pack false t ∧ t < infMag ∧ q * 2 ^ 1074 ≤ V t ∧ V t ≤ ((q + 1) * 2 ^ c - 1) * 2 ^ (1074 - c)

theorem btw_rep {q c : Nat} (hq : (q + 1) * 2 ^ c ≤ 2 ^ 53) (hc : c ≤ 1000) : ∃ t1 t2, t2 < infMag ∧ V t1 = q * 2 ^ 1074 ∧ V t2 = ((q + 1) * 2 ^ c - 1) * 2 ^ (1074 - c) := by
  have hp := Nat.two_pow_pos c
  have hq0 : (q + 1) * 1 ≤ (q + 1) * 2 ^ c := Nat.mul_le_mul_left _ hp
  obtain ⟨t1, _, hV1⟩ := rep (a := q) (c := 1074) (by omega) (by decide) (by decide)
  obtain ⟨t2, ht2, hV2⟩ := rep (a := (q + 1) * 2 ^ c - 1) (c := 1074 - c) (by omega) (by omega) (by omega)
  exact ⟨t1, t2, ht2, hV1, hV2⟩
theorem btw_K {c : Nat} (hc : c ≤ 1000) : (2 : Nat) ^ 1074 = 2 ^ (1074 - c) * 2 ^ c := by rw [← Nat.pow_add]; congr 1; omega

theorem btw_right {r : UInt64} {W D q c : Nat} (hR : Right r false W D) (hD : 0 < D) (hq : (q + 1) * 2 ^ c ≤ 2 ^ 53) (hc : c ≤ 1000)
    (h1 : D * (q * 2 ^ 1074) ≤ W) (h2 : W * 2 ^ c ≤ D * ((q + 1) * 2 ^ c - 1) * 2 ^ 1074) : Btw r q c := by
  have hp := Nat.two_pow_pos c
  obtain ⟨t1, t2, ht2, hV1, hV2⟩ := btw_rep hq hc
  obtain ⟨t, hr, ht, b1, b2⟩ := right_between hR hD ht2 (t1 := t1) (by rw [hV1]; exact h1) (by
    rw [hV2]
    refine Nat.le_of_mul_le_mul_right (c := 2 ^ c) ?_ hp
    refine Nat.le_trans h2 (Nat.le_of_eq ?_)
    rw [btw_K hc]
    ac_rfl)
  rw [hV1] at b1
  rw [hV2] at b2
  exact ⟨hq, hc, t, hr, ht, b1, b2⟩

theorem fl_btw {r : UInt64} {q c : Nat} (h : Btw r q c) : Fl r q := by
  obtain ⟨hq, hc, t, hr, ht, b1, b2⟩ := h
  have hp := Nat.two_pow_pos c
  have hq0 : (q + 1) * 1 ≤ (q + 1) * 2 ^ c := Nat.mul_le_mul_left _ hp
  obtain ⟨m, e, hd, _⟩ := decode_pack false ht
  rw [hr]
  have hv : val (pack false t) = (V t : Int) := by rw [val_pack false ht]; rfl
  refine fl_val hd ?_ ?_
  · rw [hv, ← Int.natCast_mul]
    exact Int.ofNat_le.mpr b1
  · rw [hv]
    have : ((q : Int) + 1) * ((2 ^ 1074 : Nat) : Int) = (((q + 1) * 2 ^ 1074 : Nat) : Int) := by rw [Int.natCast_mul]; rfl
    rw [this]
    refine Int.ofNat_lt.mpr (Nat.lt_of_le_of_lt b2 ?_)
    rw [btw_K hc, Nat.mul_comm (2 ^ (1074 - c)), ← Nat.mul_assoc]
    exact Nat.mul_lt_mul_of_pos_right (by omega) (Nat.two_pow_pos _)

theorem fl_right {r : UInt64} {W D q c : Nat} (hR : Right r false W D) (hD : 0 < D) (hq : (q + 1) * 2 ^ c ≤ 2 ^ 53) (hc : c ≤ 1000)
    (h1 : D * (q * 2 ^ 1074) ≤ W) (h2 : W * 2 ^ c ≤ D * ((q + 1) * 2 ^ c - 1) * 2 ^ 1074) : Fl r q := fl_btw (btw_right hR hD hq hc h1 h2)

theorem btw_add {x : UInt64} {q c q' : Nat} {n : Int} (h : Btw x q c) (hn : n.natAbs < 2 ^ 50) (hq' : (q' : Int) = q + n) (hs : (q' + 1) * 2 ^ c ≤ 2 ^ 53) : Btw (add x (ofInt n)) q' c := by
  obtain ⟨hq, hc, t, hr, ht, b1, b2⟩ := h
  obtain ⟨m, e, hd, _⟩ := decode_pack false ht
  have hv : val (pack false t) = (V t : Int) := by rw [val_pack false ht]; rfl
  obtain ⟨m', e', hd', hv', _⟩ := H_dec (k := 2 * n) (by omega)
  have hv2 : val (H (2 * n)) = n * ((2 ^ 1074 : Nat) : Int) := by
    rw [hv', show (2 : Nat) ^ 1074 = 2 ^ 1073 * 2 from Nat.pow_succ .., Int.natCast_mul]
    generalize ((2 ^ 1073 : Nat) : Int) = K
    rw [Int.mul_comm 2 n, Int.mul_assoc, Int.mul_comm K]
    rfl
  rw [hr, ofInt_H (by omega)]
  obtain ⟨h0, h1⟩ := add_right hd hd'
  have hp := Nat.two_pow_pos c
  have hK : (0 : Int) < ((2 ^ 1074 : Nat) : Int) := Int.ofNat_lt.mpr (Nat.two_pow_pos _)
  have hsum : val (pack false t) + val (H (2 * n)) = (V t : Int) + n * ((2 ^ 1074 : Nat) : Int) := by rw [hv, hv2]
  rw [hsum] at h0 h1
  have c1 : ((q' * 2 ^ 1074 : Nat) : Int) ≤ (V t : Int) + n * ((2 ^ 1074 : Nat) : Int) := by
    have : ((q' * 2 ^ 1074 : Nat) : Int) = ((q * 2 ^ 1074 : Nat) : Int) + n * ((2 ^ 1074 : Nat) : Int) := by rw [Int.natCast_mul, hq', Int.natCast_mul, Int.add_mul]
    rw [this]
    exact Int.add_le_add_right (Int.ofNat_le.mpr b1) _
  have e2 : ∀ z : Nat, 1 ≤ (z + 1) * 2 ^ c := fun z => Nat.mul_pos (Nat.succ_pos _) hp
  have c2 : (V t : Int) + n * ((2 ^ 1074 : Nat) : Int) ≤ ((((q' + 1) * 2 ^ c - 1) * 2 ^ (1074 - c) : Nat) : Int) := by
    have : ((((q' + 1) * 2 ^ c - 1) * 2 ^ (1074 - c) : Nat) : Int) = ((((q + 1) * 2 ^ c - 1) * 2 ^ (1074 - c) : Nat) : Int) + n * ((2 ^ 1074 : Nat) : Int) := by
      rw [btw_K hc, Int.natCast_mul, Int.natCast_mul, Int.natCast_mul, Int.ofNat_sub (e2 _), Int.ofNat_sub (e2 _), Int.natCast_mul, Int.natCast_mul, Int.natCast_add, Int.natCast_add, hq']
      generalize ((2 ^ c : Nat) : Int) = C
      generalize ((2 ^ (1074 - c) : Nat) : Int) = D
      rw [show n * (D * C) = n * C * D by ac_rfl, ← Int.add_mul]
      congr 1
      rw [show (q : Int) + n + ((1 : Nat) : Int) = (q + ((1 : Nat) : Int)) + n by omega, Int.add_mul]
      omega
    rw [this]
    exact Int.add_le_add_right (Int.ofNat_le.mpr b2) _
  obtain ⟨t1, t2, ht2, hV1, hV2⟩ := btw_rep hs hc
  refine ⟨hs, hc, ?_⟩
  generalize hS : (V t : Int) + n * ((2 ^ 1074 : Nat) : Int) = S at *
  by_cases hz : S = 0
  · refine ⟨0, ?_, by decide, ?_, ?_⟩
    · rw [h0 hz]; simp [zero]
    · rw [V_zero]; omega
    · rw [V_zero]; omega
  · have hR := h1 hz
    rw [decide_eq_false (by omega)] at hR
    obtain ⟨t', hr', ht', d1, d2⟩ := right_between hR (by decide) ht2 (t1 := t1) (by rw [hV1]; omega) (by rw [hV2]; omega)
    exact ⟨t', hr', ht', by rw [← hV1]; exact d1, by rw [← hV2]; exact d2⟩

theorem ac1 (n K M L : Nat) : n * K * M * L = n * L * K * M := by ac_rfl
theorem ac2 (d M L K : Nat) : d * M * L * K = d * L * K * M := by ac_rfl
theorem ac3 (d z : Nat) (h : 1 ≤ z) : d * (z - 1) + d = d * z := by
  obtain ⟨y, rfl⟩ : ∃ y, z = y + 1 := ⟨z - 1, by omega⟩
  rw [Nat.add_sub_cancel, Nat.mul_add, Nat.mul_one]
theorem btw_nat {r : UInt64} {n d M : Nat} (hR : Right r false (n * 2 ^ 1074 * M) (d * M)) (hM : 0 < M) (hd : 0 < d) (hd2 : d ≤ 2 ^ 20) (hn : n < 2 ^ 32) : Btw r (n / d) 20 := by
  have hq : n / d ≤ n := Nat.div_le_self _ _
  have h3 : d * (n / d) ≤ n := Nat.mul_div_le n d
  have h4 : n + 1 ≤ d * (n / d + 1) := by
    have h0 := Nat.div_add_mod n d
    have h1 := Nat.mod_lt n hd
    have h2 : d * (n / d + 1) = d * (n / d) + d := by rw [Nat.mul_add, Nat.mul_one]
    omega
  generalize n / d = q at *
  have hq2 : (q + 1) * 2 ^ 20 ≤ 2 ^ 53 := by omega
  have hpos : 1 ≤ (q + 1) * 2 ^ 20 := by omega
  have h6 : (n + 1) * 2 ^ 20 ≤ d * (q + 1) * 2 ^ 20 := Nat.mul_le_mul_right _ h4
  have h5 : d * ((q + 1) * 2 ^ 20 - 1) + d = d * (q + 1) * 2 ^ 20 := by rw [Nat.mul_assoc]; exact ac3 _ _ hpos
  have h8 : n * 2 ^ 20 + d ≤ (n + 1) * 2 ^ 20 := by omega
  have h7 : n * 2 ^ 20 ≤ d * ((q + 1) * 2 ^ 20 - 1) := Nat.le_of_add_le_add_right (Nat.le_trans (Nat.le_trans h8 h6) (Nat.le_of_eq h5.symm))
  refine btw_right (c := 20) hR (Nat.mul_pos hd hM) hq2 (by decide) ?_ ?_
  · have : d * M * (q * 2 ^ 1074) = d * q * 2 ^ 1074 * M := by ac_rfl
    rw [this]
    exact Nat.mul_le_mul_right _ (Nat.mul_le_mul_right _ h3)
  · have : n * 2 ^ 1074 * M * 2 ^ 20 = n * 2 ^ 20 * 2 ^ 1074 * M := ac1 _ _ _ _
    rw [this]
    have : d * M * ((q + 1) * 2 ^ 20 - 1) * 2 ^ 1074 = d * ((q + 1) * 2 ^ 20 - 1) * 2 ^ 1074 * M := ac2 _ _ _ _
    rw [this]
    exact Nat.mul_le_mul_right _ (Nat.mul_le_mul_right _ h7)

theorem fl_nat {r : UInt64} {n d M : Nat} (hR : Right r false (n * 2 ^ 1074 * M) (d * M)) (hM : 0 < M) (hd : 0 < d) (hd2 : d ≤ 2 ^ 20) (hn : n < 2 ^ 32) : Fl r ((n / d : Nat) : Int) := fl_btw (btw_nat hR hM hd hd2 hn)
theorem btw_frac {n d : Nat} (hd : 0 < d) (hd2 : d ≤ 2 ^ 20) (hn : n < 2 ^ 32) : Btw (ofFrac false n d) (n / d) 20 :=
  btw_nat (M := 1) (ofFrac_right hd (by rw [Nat.mul_one]; ac_rfl) (by omega)) (by decide) hd hd2 hn
theorem fl_frac {n d : Nat} (hd : 0 < d) (hd2 : d ≤ 2 ^ 20) (hn : n < 2 ^ 32) : Fl (ofFrac false n d) ((n / d : Nat) : Int) :=
  fl_nat (M := 1) (ofFrac_right hd (by rw [Nat.mul_one]; ac_rfl) (by omega)) (by decide) hd hd2 hn

theorem fl_divHH {n d : Int} (hn0 : 0 ≤ n) (hd : 0 < d) (hd2 : d ≤ 2 ^ 20) (hn : n < 2 ^ 32) : Fl (div (H (2 * n)) (ofInt d)) (n / d) := by
  rw [ofInt_H (by omega)]
  obtain ⟨m, e, hx, hv, _⟩ := H_dec (k := 2 * n) (by omega)
  obtain ⟨m', e', hy, hv', hm'⟩ := H_dec (k := 2 * d) (by omega)
  have hk : m' ≠ 0 := by
    rintro rfl
    rw [Nat.zero_mul] at hm'
    have : 0 < (2 * d).natAbs * 2 ^ 1073 := Nat.mul_pos (by omega) (Nat.two_pow_pos _)
    omega
  have hR := div_right hx hy hk
  rw [hv, hv', Int.natAbs_mul (2 * n), Int.natAbs_mul (2 * d), Int.natAbs_natCast] at hR
  have s1 : decide (2 * n < 0) = false := decide_eq_false (by omega)
  have s2 : decide (2 * d < 0) = false := decide_eq_false (by omega)
  rw [s1, s2] at hR
  have h := fl_nat (r := div (H (2 * n)) (H (2 * d))) (n := n.toNat) (d := d.toNat) (M := 2 ^ 1074) (by
    have a1 : (2 * n).natAbs = 2 * n.toNat := by omega
    have a2 : (2 * d).natAbs = 2 * d.toNat := by omega
    rw [a1, a2] at hR
    have b1 : 2 * n.toNat * 2 ^ 1073 * 2 ^ 1074 = n.toNat * 2 ^ 1074 * 2 ^ 1074 := by rw [K2]; ac_rfl
    have b2 : 2 * d.toNat * 2 ^ 1073 = d.toNat * 2 ^ 1074 := by rw [K2]; ac_rfl
    rw [b1, b2] at hR
    exact hR) (Nat.two_pow_pos _) (by omega) (by omega) (by omega)
  have e1 : ((n.toNat / d.toNat : Nat) : Int) = n / d := by
    rw [Int.natCast_ediv, Int.toNat_of_nonneg hn0, Int.toNat_of_nonneg (Int.le_of_lt hd)]
  rw [← e1]
  exact h

theorem mul_H {a b : Int} (hb : 0 < b) (ha2 : (a * b).natAbs < 2 ^ 53) (ha : a.natAbs < 2 ^ 53) (hb2 : b < 2 ^ 52) : mul (H a) (ofInt b) = H (a * b) := by
  rw [ofInt_H (by omega)]
  obtain ⟨m, e, hx, hv, _⟩ := H_dec ha
  obtain ⟨m', e', hy, hv', _⟩ := H_dec (k := 2 * b) (by omega)
  have hR := mul_right hx hy
  rw [hv, hv', Int.natAbs_mul a, Int.natAbs_mul (2 * b), Int.natAbs_natCast] at hR
  obtain ⟨t, ht, hV, he⟩ := H_form ha2
  have := right_exact hR (Nat.two_pow_pos _) ht (by
    rw [hV, Int.natAbs_mul a b, show (2 * b).natAbs = 2 * b.natAbs by omega, K2]
    generalize (2 : Nat) ^ 1073 = K
    ac_rfl)
  rw [this, he]
  congr 1
  have s2 : decide (2 * b < 0) = false := decide_eq_false (by omega)
  rw [s2]
  by_cases h : a < 0
  · have h' := Int.mul_neg_of_neg_of_pos h hb
    rw [decide_eq_true h, decide_eq_true h']; rfl
  · have h' := Int.mul_nonneg (Int.not_lt.mp h) (Int.le_of_lt hb)
    rw [decide_eq_false h, decide_eq_false (Int.not_lt.mpr h')]; rfl
theorem mul_comm' {a b : Int} (ha : a.natAbs < 2 ^ 53) (hb : b.natAbs < 2 ^ 52) : mul (ofInt b) (H a) = mul (H a) (ofInt b) := by
  rw [ofInt_H (by omega)]
  obtain ⟨m, e, hx, hv, _⟩ := H_dec ha
  obtain ⟨m', e', hy, hv', _⟩ := H_dec (k := 2 * b) (by omega)
  unfold mul
  rw [hx, hy]
  simp only
  rw [Nat.mul_comm m' m, Int.add_comm e' e, show (decide (2 * b < 0) != decide (a < 0)) = (decide (a < 0) != decide (2 * b < 0)) by cases decide (2 * b < 0) <;> cases decide (a < 0) <;> rfl]

theorem ofBin_right {neg : Bool} {M : Nat} {g : Int} (hg : -1074 ≤ g) : Right (ofBin neg M g) neg (M * 2 ^ (g + 1074).toNat) 1 := by
  unfold ofBin
  refine ofFrac_right (shift_pos _ _ _ (by decide)) ?_ (by decide)
  have := shift_one M g 1074 (by omega)
  rw [Nat.mul_one]
  exact this

theorem mod_H {k d : Int} (hk : 0 ≤ k) (hk2 : k < 2 ^ 52) (hd : 0 < d) (hd2 : d < 2 ^ 52) : (divmod (H (2 * k)) (ofInt d)).2 = H (2 * (k % d)) := by
  rw [ofInt_H (by omega)]
  obtain ⟨m, e, hx, hv, hm⟩ := H_dec (k := 2 * k) (by omega)
  obtain ⟨m', e', hy, hv', hm'⟩ := H_dec (k := 2 * d) (by omega)
  have s1 : decide (2 * k < 0) = false := decide_eq_false (by omega)
  have s2 : decide (2 * d < 0) = false := decide_eq_false (by omega)
  rw [s1] at hx
  rw [s2] at hy
  have he := decode_ge hx
  have hf := decode_ge hy
  have hk0 : m' ≠ 0 := by
    rintro rfl
    rw [Nat.zero_mul] at hm'
    have : 0 < (2 * d).natAbs * 2 ^ 1073 := Nat.mul_pos (by omega) (Nat.two_pow_pos _)
    omega
  have hr0 : 0 ≤ k % d := Int.emod_nonneg _ (by omega)
  have hr1 : k % d < d := Int.emod_lt_of_pos _ hd
  have hfm : fmod (H (2 * k)) (H (2 * d)) = H (2 * (k % d)) := by
    have hu : fmod (H (2 * k)) (H (2 * d)) = ofBin false ((m * 2 ^ (e - min e e').toNat) % (m' * 2 ^ (e' - min e e').toNat)) (min e e') := by
      unfold fmod
      rw [hx, hy]
      simp only
      rw [if_neg (by simpa using hk0)]
      simp only [align, sgn]
      congr 1
    have hR := ofBin_right (neg := false) (M := (m * 2 ^ (e - min e e').toNat) % (m' * 2 ^ (e' - min e e').toNat)) (g := min e e') (by omega)
    rw [← hu] at hR
    obtain ⟨t, ht, hV, hH⟩ := H_form (k := 2 * (k % d)) (by omega)
    rw [hH, decide_eq_false (by omega)]
    refine right_exact hR (by decide) ht ?_
    rw [hV, Nat.one_mul, ← Nat.mul_mod_mul_right, Nat.mul_assoc, Nat.mul_assoc, ← Nat.pow_add, ← Nat.pow_add]
    have e1 : (e - min e e').toNat + (min e e' + 1074).toNat = (e + 1074).toNat := by omega
    have e2 : (e' - min e e').toNat + (min e e' + 1074).toNat = (e' + 1074).toNat := by omega
    rw [e1, e2, hm, hm']
    have a1 : (2 * k).natAbs * 2 ^ 1073 = k.toNat * 2 ^ 1074 := by rw [show (2 * k).natAbs = 2 * k.toNat by omega, K2]; ac_rfl
    have a2 : (2 * d).natAbs * 2 ^ 1073 = d.toNat * 2 ^ 1074 := by rw [show (2 * d).natAbs = 2 * d.toNat by omega, K2]; ac_rfl
    have a3 : (2 * (k % d)).natAbs * 2 ^ 1073 = (k.toNat % d.toNat) * 2 ^ 1074 := by
      have : (2 * (k % d)).natAbs = 2 * (k.toNat % d.toNat) := by
        have h1 : ((k.toNat % d.toNat : Nat) : Int) = k % d := by rw [Int.natCast_emod, Int.toNat_of_nonneg hk, Int.toNat_of_nonneg (Int.le_of_lt hd)]
        omega
      rw [this, K2]; ac_rfl
    rw [a1, a2, a3, Nat.mul_mod_mul_right]
  unfold divmod
  rw [hfm]
  obtain ⟨mm, ee, hz, hzv, hzm⟩ := H_dec (k := 2 * (k % d)) (by omega)
  simp only
  by_cases h0 : k % d = 0
  · rw [h0]
    have z1 : isZero (H (2 * 0)) = true := by decide +kernel
    rw [if_pos z1]
    obtain ⟨t, ht, hV, hH⟩ := H_form (k := 2 * d) (by omega)
    rw [s2] at hH
    have hi : infMag = 2047 * 2 ^ 52 := rfl
    unfold copysign
    have n1 : isNaN (zero false) = false := by decide +kernel
    rw [n1]
    simp only [Bool.false_eq_true, if_false]
    have : signBit (H (2 * d)) = false := by
      unfold signBit
      rw [hH, pack_toNat false (by omega)]
      simp
      omega
    rw [this]
    decide +kernel
  · have z1 : isZero (H (2 * (k % d))) = false := by
      unfold isZero
      rw [hz]
      have : mm ≠ 0 := by
        rintro rfl
        rw [Nat.zero_mul] at hzm
        have : 0 < (2 * (k % d)).natAbs * 2 ^ 1073 := Nat.mul_pos (by omega) (Nat.two_pow_pos _)
        omega
      cases mm with
      | zero => exact absurd rfl this
      | succ _ => rfl
    rw [z1]
    simp only [Bool.false_eq_true, if_false]
    have z0 : zero false = H 0 := by decide +kernel
    have l1 : lt (H (2 * d)) (zero false) = false := by
      unfold lt
      rw [z0, cmp_H (by omega) (by decide), Int.compare_eq_gt.mpr (by omega)]
      rfl
    have l2 : lt (H (2 * (k % d))) (zero false) = false := by
      unfold lt
      rw [z0, cmp_H (by omega) (by decide), Int.compare_eq_gt.mpr (by omega)]
      rfl
    rw [l1, l2]
    rfl

end
-- f3
section
open PySem PySem.Float64 PyProof.Rows PySem.Flt

theorem add_Hi {a n : Int} (ha : a.natAbs < 2 ^ 50) (hn : n.natAbs < 2 ^ 50) : add (H a) (ofInt n) = H (a + 2 * n) := by
  rw [ofInt_H (by omega), add_H (by omega) (by omega) (by omega)]
theorem add_iH {a n : Int} (ha : a.natAbs < 2 ^ 50) (hn : n.natAbs < 2 ^ 50) : add (ofInt n) (H a) = H (2 * n + a) := by
  rw [ofInt_H (by omega), add_H (by omega) (by omega) (by omega)]
theorem sub_Hi {a n : Int} (ha : a.natAbs < 2 ^ 50) (hn : n.natAbs < 2 ^ 50) : sub (H a) (ofInt n) = H (a - 2 * n) := by
  rw [ofInt_H (by omega), sub_H (by omega) (by omega) (by omega)]
theorem sub_iH {a n : Int} (ha : a.natAbs < 2 ^ 50) (hn : n.natAbs < 2 ^ 50) : sub (ofInt n) (H a) = H (2 * n - a) := by
  rw [ofInt_H (by omega), sub_H (by omega) (by omega) (by omega)]
theorem add_HH {a b : Int} (ha : a.natAbs < 2 ^ 50) (hn : b.natAbs < 2 ^ 50) : add (H a) (H b) = H (a + b) := add_H (by omega) (by omega) (by omega)
theorem sub_HH {a b : Int} (ha : a.natAbs < 2 ^ 50) (hn : b.natAbs < 2 ^ 50) : sub (H a) (H b) = H (a - b) := sub_H (by omega) (by omega) (by omega)

theorem lit_epoch : (4700144277945057280 : UInt64) = H 3442851 := by decide +kernel
theorem lit_half : (4602678819172646912 : UInt64) = H 1 := by decide +kernel
theorem lit_1524 : (4654419637352529920 : UInt64) = H 3049 := by decide +kernel

section
variable {prog : Program} {w : World} {A : Around} {E : Value → Shared → Prop} {s : Shared} {t u : Tok} {Q : Value → Shared → Prop} {x y z : UInt64} {n : Int}
theorem fits50 (hn : n.natAbs < 2 ^ 50) : n.natAbs < 2 ^ 1023 := Nat.lt_of_lt_of_le hn (Nat.pow_le_pow_right (by decide) (by decide))
theorem over50 (hn : n.natAbs < 2 ^ 50) : ¬ Over n := fun h => by
  have e1 : (2 : Nat) ^ 970 * 2 ^ 54 = 2 ^ 1024 := by rw [← Nat.pow_add]
  have e3 : (2 : Nat) ^ 50 ≤ 2 ^ 970 := Nat.pow_le_pow_right (by decide) (by decide)
  unfold Over at h
  rw [← e1] at h
  generalize (2 : Nat) ^ 970 = K at *
  omega
theorem r_add_fi (hn : n.natAbs < 2 ^ 50) (e : add x (ofInt n) = z) (h : Q (.float z s.toks) { s with toks := s.toks + 1 }) : wpAny (model prog w) A (binaryOp .Add (.float x t) (.int n u)) Q E s := by
  subst e; exact add_fi_fits (fits50 hn) h
theorem r_add_if (hn : n.natAbs < 2 ^ 50) (e : add (ofInt n) x = z) (h : Q (.float z s.toks) { s with toks := s.toks + 1 }) : wpAny (model prog w) A (binaryOp .Add (.int n u) (.float x t)) Q E s := by
  subst e; exact add_if_fits (fits50 hn) h
theorem r_sub_fi (hn : n.natAbs < 2 ^ 50) (e : sub x (ofInt n) = z) (h : Q (.float z s.toks) { s with toks := s.toks + 1 }) : wpAny (model prog w) A (binaryOp .Sub (.float x t) (.int n u)) Q E s := by
  subst e; exact sub_fi_fits (fits50 hn) h
theorem r_sub_if (hn : n.natAbs < 2 ^ 50) (e : sub (ofInt n) x = z) (h : Q (.float z s.toks) { s with toks := s.toks + 1 }) : wpAny (model prog w) A (binaryOp .Sub (.int n u) (.float x t)) Q E s := by
  subst e; exact sub_if_fits (fits50 hn) h
theorem r_mul_fi (hn : n.natAbs < 2 ^ 50) (e : mul x (ofInt n) = z) (h : Q (.float z s.toks) { s with toks := s.toks + 1 }) : wpAny (model prog w) A (binaryOp .Mult (.float x t) (.int n u)) Q E s := by
  subst e; exact mul_fi_fits (fits50 hn) h
theorem r_mul_if (hn : n.natAbs < 2 ^ 50) (e : mul (ofInt n) x = z) (h : Q (.float z s.toks) { s with toks := s.toks + 1 }) : wpAny (model prog w) A (binaryOp .Mult (.int n u) (.float x t)) Q E s := by
  subst e; exact mul_if_fits (fits50 hn) h
theorem r_add_ff (e : add x y = z) (h : Q (.float z s.toks) { s with toks := s.toks + 1 }) : wpAny (model prog w) A (binaryOp .Add (.float x t) (.float y u)) Q E s := by
  subst e; exact add_float h
theorem r_iadd_ff (e : add x y = z) (h : Q (.float z s.toks) { s with toks := s.toks + 1 }) : wpAny (model prog w) A (inplaceOp .Add (.float x t) (.float y u)) Q E s := by
  subst e; exact iadd_float h
theorem r_sub_ff (e : sub x y = z) (h : Q (.float z s.toks) { s with toks := s.toks + 1 }) : wpAny (model prog w) A (binaryOp .Sub (.float x t) (.float y u)) Q E s := by
  subst e; exact sub_float h
theorem r_div_fi (hA : A.handled = none) (hn : n.natAbs < 2 ^ 50) (h0 : n ≠ 0) (h : Q (.float (div x (ofInt n)) s.toks) { s with toks := s.toks + 1 }) : wpAny (model prog w) A (binaryOp .Div (.float x t) (.int n u)) Q E s :=
  PySem.Flt.truediv_fi hA (fun h => absurd h (over50 hn)) (fun h => absurd h h0) fun _ _ => h
theorem r_div_if (hA : A.handled = none) (hn : n.natAbs < 2 ^ 50) (h0 : isZero x = false) (h : Q (.float (div (ofInt n) x) s.toks) { s with toks := s.toks + 1 }) : wpAny (model prog w) A (binaryOp .Div (.int n u) (.float x t)) Q E s :=
  PySem.Flt.truediv_if hA (fun h => absurd h (over50 hn)) (fun _ h => absurd h (by rw [h0]; decide)) fun _ _ => h
theorem r_div_ff (hA : A.handled = none) (h0 : isZero y = false) (h : Q (.float (div x y) s.toks) { s with toks := s.toks + 1 }) : wpAny (model prog w) A (binaryOp .Div (.float x t) (.float y u)) Q E s :=
  truediv_float_or hA (fun h => absurd h (by rw [h0]; decide)) fun _ => h
theorem r_div_ii {a b : Int} (hA : A.handled = none) (ha0 : 0 ≤ a) (ha : a < 2 ^ 50) (hb : 0 < b) (h : Q (.float (ofFrac false a.toNat b.toNat) s.toks) { s with toks := s.toks + 1 }) : wpAny (model prog w) A (binaryOp .Div (.int a t) (.int b u)) Q E s := by
  refine div_ii_fits hA (fits50 (by omega)) (fun h => absurd h (by omega)) fun _ _ => ?_
  rw [decide_eq_false (by omega), decide_eq_false (by omega), show a.natAbs = a.toNat by omega, show b.natAbs = b.toNat by omega]
  exact h
theorem r_mod_fi (hA : A.handled = none) (hn : n.natAbs < 2 ^ 50) (h0 : n ≠ 0) (e : (divmod x (ofInt n)).2 = z) (h : Q (.float z s.toks) { s with toks := s.toks + 1 }) : wpAny (model prog w) A (binaryOp .Mod (.float x t) (.int n u)) Q E s := by
  subst e
  exact PySem.Flt.mod_fi hA (fun h => absurd h (over50 hn)) (fun h => absurd h h0) fun _ _ => h
theorem fin_of_fl {k : Int} (hk : Fl x k) : isNaN x = false ∧ isInf x = false := by
  obtain ⟨s, m, e, hd, _⟩ := hk
  unfold isNaN isInf
  rw [hd]
  exact ⟨rfl, rfl⟩
theorem r_floor {k : Int} (hA : A.handled = none) (hk : Fl x k) (h : Q (.int k s.toks) { s with toks := s.toks + 1 }) : wpAny (model prog w) A (call (.builtin "math.floor") [.float x t]) Q E s := by
  have hf := fin_of_fl hk
  obtain ⟨sg, m, e, hd, hv⟩ := hk
  refine call_floor_float hA (fun h => absurd h (by rw [hf.1]; decide)) (fun h => absurd h (by rw [hf.2]; decide)) fun _ => ?_
  rw [toInt_fin hd, hv]
  exact h
def Tr (x : UInt64) (k : Int) : Prop := ∃ s m e, decode x = .fin s m e ∧ truncOf s m e = k
theorem tr_H {a : Int} (ha : 0 ≤ a) (ha2 : a < 2 ^ 50) : Tr (H a) (a / 2) := by
  obtain ⟨s, m, e, hd, hv⟩ := fl_H (a := a) (by omega)
  obtain ⟨m', e', hd', _⟩ := H_dec (k := a) (by omega)
  have : s = false := by
    rw [hd] at hd'
    cases hd'
    exact decide_eq_false (by omega)
  subst this
  exact ⟨false, m, e, hd, hv⟩
theorem r_int {k : Int} (hk : Tr x k) (h : Q (.int k s.toks) { s with toks := s.toks + 1 }) : wpAny (model prog w) A (call (.type "int") [.float x t]) Q E s := by
  obtain ⟨sg, m, e, hd, hv⟩ := hk
  refine call_int_float hd ?_
  rw [hv]
  exact h
theorem r_lt_fi {a : Int} (ha : a.natAbs < 2 ^ 50) (h : Q (.bool (decide (a < 2 * n))) s) : wpAny (model prog w) A (compareOp .Lt (.float (H a) t) (.int n u)) Q E s := by
  refine lt_fi ?_
  rw [cmpInt_H (by omega)]
  have : (some (compare a (2 * n)) == some Ordering.lt) = decide (a < 2 * n) := by
    rcases Int.lt_trichotomy a (2 * n) with h | h | h
    · rw [Int.compare_eq_lt.mpr h, decide_eq_true h]; rfl
    · rw [h]; simp
    · rw [Int.compare_eq_gt.mpr h, decide_eq_false (by omega)]; rfl
  rw [this]
  exact h
theorem r_eq_ff {a b : Int} (ha : a.natAbs < 2 ^ 50) (hb : b.natAbs < 2 ^ 50) (h : Q (.bool (decide (a = b))) s) : wpAny (model prog w) A (compareOp .Eq (.float (H a) t) (.float (H b) u)) Q E s := by
  refine AutoFloatOps.eq_0 ?_
  rw [cmp_H (by omega) (by omega)]
  have : (some (compare a b) == some Ordering.eq) = decide (a = b) := by
    rcases Int.lt_trichotomy a b with h | h | h
    · rw [Int.compare_eq_lt.mpr h, decide_eq_false (by omega)]; rfl
    · rw [h]; simp
    · rw [Int.compare_eq_gt.mpr h, decide_eq_false (by omega)]; rfl
  rw [this]
  exact h
theorem r_ne_ff {a b : Int} (ha : a.natAbs < 2 ^ 50) (hb : b.natAbs < 2 ^ 50) (h : Q (.bool (decide (a ≠ b))) s) : wpAny (model prog w) A (compareOp .NotEq (.float (H a) t) (.float (H b) u)) Q E s := by
  refine AutoFloatOps.ne_0 ?_
  rw [cmp_H (by omega) (by omega)]
  have : (some (compare a b) != some Ordering.eq) = decide (a ≠ b) := by
    rcases Int.lt_trichotomy a b with h | h | h
    · rw [Int.compare_eq_lt.mpr h, decide_eq_true (by omega)]; rfl
    · rw [h]; simp
    · rw [Int.compare_eq_gt.mpr h, decide_eq_true (by omega)]; rfl
  rw [this]
  exact h
end

end
-- f4
section
open PySem PySem.Float64
theorem lit_form {x : UInt64} {t k q : Nat} (hx : x = pack false t) (ht : t = k * 2 ^ 52 + q) (hq : q ≤ 2 ^ 53) (hq2 : 2 ^ 52 ≤ q) (hk : k < 2000) :
    ∃ m e, decode x = .fin false m e ∧ val x = ((q * 2 ^ k : Nat) : Int) ∧ m ≠ 0 := by
  have hi : infMag = 2047 * 2 ^ 52 := rfl
  have hlt : t < infMag := by omega
  obtain ⟨m, e, hd, hm⟩ := decode_pack false hlt
  have hV : V t = q * 2 ^ k := by rw [ht]; exact V_at hq (.inl hq2)
  refine ⟨m, e, by rw [hx, hd], ?_, ?_⟩
  · rw [hx, val_pack false hlt, hV]; rfl
  · rintro rfl
    rw [Nat.zero_mul, hV] at hm
    have : 0 < q * 2 ^ k := Nat.mul_pos (by omega) (Nat.two_pow_pos _)
    omega
theorem lit365 : ∃ m e, decode 4645133162144333824 = .fin false m e ∧ val 4645133162144333824 = ((6425545952722944 * 2 ^ 1030 : Nat) : Int) ∧ m ≠ 0 :=
  lit_form (t := 4645133162144333824) (by decide +kernel) (by decide) (by decide) (by decide) (by decide)
theorem lit122 : ∃ m e, decode 4638292440600962662 = .fin false m e ∧ val 4638292440600962662 = ((8592023664092774 * 2 ^ 1028 : Nat) : Int) ∧ m ≠ 0 :=
  lit_form (t := 4638292440600962662) (by decide +kernel) (by decide) (by decide) (by decide) (by decide)
theorem lit306 : ∃ m e, decode 4629306380116972641 = .fin false m e ∧ val 4629306380116972641 = ((8613162434843745 * 2 ^ 1026 : Nat) : Int) ∧ m ≠ 0 :=
  lit_form (t := 4629306380116972641) (by decide +kernel) (by decide) (by decide) (by decide) (by decide)

theorem ofInt_dec {n : Int} (hn : 0 ≤ n) (hn2 : n < 2 ^ 50) : ∃ m e, decode (ofInt n) = .fin false m e ∧ val (ofInt n) = ((n.toNat * 2 ^ 1074 : Nat) : Int) := by
  rw [ofInt_H (by omega)]
  obtain ⟨m, e, hx, hv, _⟩ := H_dec (k := 2 * n) (by omega)
  rw [decide_eq_false (by omega)] at hx
  refine ⟨m, e, hx, ?_⟩
  rw [hv, K2]
  generalize (2 : Nat) ^ 1073 = K
  rw [Int.natCast_mul, Int.natCast_mul, Int.toNat_of_nonneg hn, Int.mul_comm 2 n, Int.mul_assoc, Int.mul_comm (K : Int)]
  rfl

-- 365.25 * n
theorem btw_mul365 {n : Int} (hn : 0 ≤ n) (hn2 : n < 2 ^ 20) : Btw (mul 4645133162144333824 (ofInt n)) (1461 * n.toNat / 4) 20 := by
  obtain ⟨m, e, hd, hv, _⟩ := lit365
  obtain ⟨m', e', hd', hv'⟩ := ofInt_dec hn (by omega)
  have hR := mul_right hd hd'
  rw [hv, hv', Int.natAbs_natCast, Int.natAbs_natCast] at hR
  have e0 : (2 : Nat) ^ 1074 = 2 ^ 44 * 2 ^ 1030 := by rw [← Nat.pow_add]
  have e1 : 6425545952722944 * 2 ^ 1030 * (n.toNat * 2 ^ 1074) = 6425545952722944 * n.toNat * (2 ^ 1030 * 2 ^ 1074) := by
    generalize (2 : Nat) ^ 1074 = K
    generalize (2 : Nat) ^ 1030 = L
    ac_rfl
  rw [e1] at hR
  refine btw_right (c := 20) hR (Nat.two_pow_pos _) (by omega) (by decide) ?_ ?_
  · have e2 : 2 ^ 1074 * (1461 * n.toNat / 4 * 2 ^ 1074) = (1461 * n.toNat / 4 * 2 ^ 44) * (2 ^ 1030 * 2 ^ 1074) := by
      rw [show 2 ^ 1074 * (1461 * n.toNat / 4 * 2 ^ 1074) = 2 ^ 44 * 2 ^ 1030 * (1461 * n.toNat / 4 * 2 ^ 1074) by rw [← e0]]
      generalize (2 : Nat) ^ 1074 = K
      generalize (2 : Nat) ^ 1030 = L
      ac_rfl
    rw [e2]
    exact Nat.mul_le_mul_right _ (by omega)
  · have e2 : 2 ^ 1074 * ((1461 * n.toNat / 4 + 1) * 2 ^ 20 - 1) * 2 ^ 1074 = ((1461 * n.toNat / 4 + 1) * 2 ^ 20 - 1) * 2 ^ 44 * (2 ^ 1030 * 2 ^ 1074) := by
      rw [show 2 ^ 1074 * ((1461 * n.toNat / 4 + 1) * 2 ^ 20 - 1) * 2 ^ 1074 = 2 ^ 44 * 2 ^ 1030 * ((1461 * n.toNat / 4 + 1) * 2 ^ 20 - 1) * 2 ^ 1074 by rw [← e0]]
      generalize (2 : Nat) ^ 1074 = K
      generalize (2 : Nat) ^ 1030 = L
      generalize ((1461 * n.toNat / 4 + 1) * 2 ^ 20 - 1) = z
      ac_rfl
    rw [e2, Nat.mul_right_comm]
    exact Nat.mul_le_mul_right _ (by omega)
theorem fl_mul365 {n : Int} (hn : 0 ≤ n) (hn2 : n < 2 ^ 20) : Fl (mul 4645133162144333824 (ofInt n)) (1461 * n / 4) := by
  have h := fl_btw (btw_mul365 hn hn2)
  rw [show ((1461 * n.toNat / 4 : Nat) : Int) = 1461 * n / 4 by omega] at h
  exact h

-- 30.6001 * e
theorem mul306_ok : ∀ e, e < 12 → 306001 * (e + 4) / 10000 * 2 ^ 48 ≤ 8613162434843745 * (e + 4) ∧ 8613162434843745 * (e + 4) * 2 ^ 20 ≤ ((306001 * (e + 4) / 10000 + 1) * 2 ^ 20 - 1) * 2 ^ 48 := by decide +kernel
theorem fl_mul306 {n : Int} (hn : 4 ≤ n) (hn2 : n ≤ 15) : Fl (mul 4629306380116972641 (ofInt n)) (306001 * n / 10000) := by
  obtain ⟨m, e, hd, hv, _⟩ := lit306
  obtain ⟨m', e', hd', hv'⟩ := ofInt_dec (n := n) (by omega) (by omega)
  have hR := mul_right hd hd'
  rw [hv, hv', Int.natAbs_natCast, Int.natAbs_natCast] at hR
  have e0 : (2 : Nat) ^ 1074 = 2 ^ 48 * 2 ^ 1026 := by rw [← Nat.pow_add]
  have e1 : 8613162434843745 * 2 ^ 1026 * (n.toNat * 2 ^ 1074) = 8613162434843745 * n.toNat * (2 ^ 1026 * 2 ^ 1074) := by
    generalize (2 : Nat) ^ 1074 = K
    generalize (2 : Nat) ^ 1026 = L
    ac_rfl
  rw [e1] at hR
  have hk := mul306_ok (n.toNat - 4) (by omega)
  rw [show n.toNat - 4 + 4 = n.toNat by omega] at hk
  have hB : Btw (mul 4629306380116972641 (ofInt n)) (306001 * n.toNat / 10000) 20 := by
    refine btw_right (c := 20) hR (Nat.two_pow_pos _) (by omega) (by decide) ?_ ?_
    · have e2 : 2 ^ 1074 * (306001 * n.toNat / 10000 * 2 ^ 1074) = (306001 * n.toNat / 10000 * 2 ^ 48) * (2 ^ 1026 * 2 ^ 1074) := by
        rw [show 2 ^ 1074 * (306001 * n.toNat / 10000 * 2 ^ 1074) = 2 ^ 48 * 2 ^ 1026 * (306001 * n.toNat / 10000 * 2 ^ 1074) by rw [← e0]]
        generalize (2 : Nat) ^ 1074 = K
        generalize (2 : Nat) ^ 1026 = L
        ac_rfl
      rw [e2]
      exact Nat.mul_le_mul_right _ hk.1
    · have e2 : 2 ^ 1074 * ((306001 * n.toNat / 10000 + 1) * 2 ^ 20 - 1) * 2 ^ 1074 = ((306001 * n.toNat / 10000 + 1) * 2 ^ 20 - 1) * 2 ^ 48 * (2 ^ 1026 * 2 ^ 1074) := by
        rw [show 2 ^ 1074 * ((306001 * n.toNat / 10000 + 1) * 2 ^ 20 - 1) * 2 ^ 1074 = 2 ^ 48 * 2 ^ 1026 * ((306001 * n.toNat / 10000 + 1) * 2 ^ 20 - 1) * 2 ^ 1074 by rw [← e0]]
        generalize (2 : Nat) ^ 1074 = K
        generalize (2 : Nat) ^ 1026 = L
        generalize ((306001 * n.toNat / 10000 + 1) * 2 ^ 20 - 1) = z
        ac_rfl
      rw [e2, Nat.mul_right_comm]
      exact Nat.mul_le_mul_right _ hk.2
  have h := fl_btw hB
  rw [show ((306001 * n.toNat / 10000 : Nat) : Int) = 306001 * n / 10000 by omega] at h
  exact h

-- n / 30.6001
theorem div306_ok : ∀ n, n < 366 → 10000 * (n + 123) / 306001 * 8613162434843745 ≤ (n + 123) * 2 ^ 48 ∧ (n + 123) * 2 ^ 48 * 2 ^ 20 ≤ 8613162434843745 * ((10000 * (n + 123) / 306001 + 1) * 2 ^ 20 - 1) := by decide +kernel
theorem fl_div306 {n : Int} (hn : 123 ≤ n) (hn2 : n ≤ 488) : Fl (div (ofInt n) 4629306380116972641) (10000 * n / 306001) := by
  obtain ⟨m, e, hd, hv, hm0⟩ := lit306
  obtain ⟨m', e', hd', hv'⟩ := ofInt_dec (n := n) (by omega) (by omega)
  have hR := div_right hd' hd hm0
  rw [hv, hv', Int.natAbs_natCast, Int.natAbs_natCast] at hR
  have e0 : (2 : Nat) ^ 1074 = 2 ^ 48 * 2 ^ 1026 := by rw [← Nat.pow_add]
  have e1 : n.toNat * 2 ^ 1074 * 2 ^ 1074 = n.toNat * 2 ^ 48 * (2 ^ 1026 * 2 ^ 1074) := by
    rw [show n.toNat * 2 ^ 1074 * 2 ^ 1074 = n.toNat * (2 ^ 48 * 2 ^ 1026) * 2 ^ 1074 by rw [← e0]]
    generalize (2 : Nat) ^ 1074 = K
    generalize (2 : Nat) ^ 1026 = L
    ac_rfl
  rw [e1] at hR
  have hk := div306_ok (n.toNat - 123) (by omega)
  rw [show n.toNat - 123 + 123 = n.toNat by omega] at hk
  have hB : Btw (div (ofInt n) 4629306380116972641) (10000 * n.toNat / 306001) 20 := by
    refine btw_right (c := 20) hR (Nat.mul_pos (by decide) (Nat.two_pow_pos _)) (by omega) (by decide) ?_ ?_
    · have e2 : 8613162434843745 * 2 ^ 1026 * (10000 * n.toNat / 306001 * 2 ^ 1074) = 10000 * n.toNat / 306001 * 8613162434843745 * (2 ^ 1026 * 2 ^ 1074) := by
        generalize (2 : Nat) ^ 1074 = K
        generalize (2 : Nat) ^ 1026 = L
        ac_rfl
      rw [e2]
      exact Nat.mul_le_mul_right _ hk.1
    · have e2 : 8613162434843745 * 2 ^ 1026 * ((10000 * n.toNat / 306001 + 1) * 2 ^ 20 - 1) * 2 ^ 1074 = 8613162434843745 * ((10000 * n.toNat / 306001 + 1) * 2 ^ 20 - 1) * (2 ^ 1026 * 2 ^ 1074) := by
        generalize (2 : Nat) ^ 1074 = K
        generalize (2 : Nat) ^ 1026 = L
        generalize ((10000 * n.toNat / 306001 + 1) * 2 ^ 20 - 1) = z
        ac_rfl
      rw [e2, Nat.mul_right_comm]
      exact Nat.mul_le_mul_right _ hk.2
  have h := fl_btw hB
  rw [show ((10000 * n.toNat / 306001 : Nat) : Int) = 10000 * n / 306001 by omega] at h
  exact h

-- (b - 122.1) / 365.25
theorem sub122 {b : Int} (hb : 1000 ≤ b) (hb2 : b < 2 ^ 24) : ∃ t, sub (ofInt b) 4638292440600962662 = pack false t ∧ t < infMag ∧ (4 * b.toNat - 489) * 2 ^ 1072 ≤ V t ∧ V t ≤ (16 * b.toNat - 1953) * 2 ^ 1070 := by
  obtain ⟨m, e, hd, hv, hm0⟩ := lit122
  obtain ⟨m', e', hd', hv'⟩ := ofInt_dec (n := b) (by omega) (by omega)
  have hR := (sub_right hd' hd).2
  rw [hv, hv'] at hR
  have e0 : (2 : Nat) ^ 1074 = 2 ^ 46 * 2 ^ 1028 := by rw [← Nat.pow_add]
  have e1 : (2 : Nat) ^ 1072 = 2 ^ 44 * 2 ^ 1028 := by rw [← Nat.pow_add]
  have e2 : (2 : Nat) ^ 1070 = 2 ^ 42 * 2 ^ 1028 := by rw [← Nat.pow_add]
  have hL : 0 < (2 : Nat) ^ 1028 := Nat.two_pow_pos _
  have hs : ((b.toNat * 2 ^ 1074 : Nat) : Int) - ((8592023664092774 * 2 ^ 1028 : Nat) : Int) = (((b.toNat * 2 ^ 46 - 8592023664092774) * 2 ^ 1028 : Nat) : Int) := by
    rw [e0, ← Nat.mul_assoc, Nat.sub_mul]
    refine (Int.ofNat_sub (Nat.mul_le_mul_right _ (by omega))).symm
  rw [hs] at hR
  have hpos : 0 < (b.toNat * 2 ^ 46 - 8592023664092774) * 2 ^ 1028 := Nat.mul_pos (by omega) hL
  have hR2 := hR (by omega)
  rw [decide_eq_false (by omega), Int.natAbs_natCast] at hR2
  obtain ⟨t1, _, hV1⟩ := rep (a := 4 * b.toNat - 489) (c := 1072) (by omega) (by decide) (by decide)
  obtain ⟨t2, ht2, hV2⟩ := rep (a := 16 * b.toNat - 1953) (c := 1070) (by omega) (by decide) (by decide)
  obtain ⟨t, hr, ht, b1, b2⟩ := right_between hR2 (by decide) ht2 (t1 := t1) (by
      rw [hV1, Nat.one_mul, e1, ← Nat.mul_assoc]
      exact Nat.mul_le_mul_right _ (by omega)) (by
      rw [hV2, Nat.one_mul, e2, ← Nat.mul_assoc]
      exact Nat.mul_le_mul_right _ (by omega))
  exact ⟨t, hr, ht, by rw [← hV1]; exact b1, by rw [← hV2]; exact b2⟩
theorem fl_c {b : Int} (hb : 1000 ≤ b) (hb2 : b < 2 ^ 24) : Fl (div (sub (ofInt b) 4638292440600962662) 4645133162144333824) ((4 * b - 489) / 1461) := by
  obtain ⟨t, hr, ht, h1, h2⟩ := sub122 hb hb2
  obtain ⟨m, e, hd, hm⟩ := decode_pack false ht
  obtain ⟨m', e', hd', hv', hm0⟩ := lit365
  have hv : val (pack false t) = (V t : Int) := by rw [val_pack false ht]; rfl
  have hR := div_right hd hd' hm0
  rw [hv, hv', Int.natAbs_natCast, Int.natAbs_natCast, ← hr] at hR
  have e1 : (2 : Nat) ^ 1072 = 2 ^ 42 * 2 ^ 1030 := by rw [← Nat.pow_add]
  have e2 : (2 : Nat) ^ 1072 = 2 ^ 2 * 2 ^ 1070 := by rw [← Nat.pow_add]
  have e3 : 6425545952722944 * 2 ^ 1030 = 1461 * 2 ^ 1072 := by rw [e1, ← Nat.mul_assoc]
  rw [e3] at hR
  have hB : Btw (div (sub (ofInt b) 4638292440600962662) 4645133162144333824) ((4 * b.toNat - 489) / 1461) 20 := by
    refine btw_right (c := 20) hR (Nat.mul_pos (by decide) (Nat.two_pow_pos _)) (by omega) (by decide) ?_ ?_
    · rw [← Nat.mul_assoc]
      refine Nat.mul_le_mul_right _ (Nat.le_trans ?_ h1)
      rw [Nat.mul_right_comm]
      exact Nat.mul_le_mul_right _ (by omega)
    · rw [Nat.mul_right_comm]
      refine Nat.mul_le_mul_right _ (Nat.le_trans (Nat.mul_le_mul_right _ h2) ?_)
      rw [e2]
      have : (16 * b.toNat - 1953) * 2 ^ 20 ≤ 1461 * 2 ^ 2 * (((4 * b.toNat - 489) / 1461 + 1) * 2 ^ 20 - 1) := by omega
      generalize ((4 * b.toNat - 489) / 1461 + 1) * 2 ^ 20 - 1 = z at *
      rw [Nat.mul_right_comm, show 1461 * (2 ^ 2 * 2 ^ 1070) * z = 1461 * 2 ^ 2 * z * 2 ^ 1070 by generalize (2 : Nat) ^ 1070 = K; ac_rfl]
      exact Nat.mul_le_mul_right _ this
  have h := fl_btw hB
  rw [show (((4 * b.toNat - 489) / 1461 : Nat) : Int) = (4 * b - 489) / 1461 by omega] at h
  exact h
theorem nz365 : isZero 4645133162144333824 = false := by
  obtain ⟨m, e, hd, _, hm⟩ := lit365
  unfold isZero
  rw [hd]
  cases m with
  | zero => exact absurd rfl hm
  | succ _ => rfl
theorem nz306 : isZero 4629306380116972641 = false := by
  obtain ⟨m, e, hd, _, hm⟩ := lit306
  unfold isZero
  rw [hd]
  cases m with
  | zero => exact absurd rfl hm
  | succ _ => rfl

end
-- h
open PySem PySem.W PyProof.Rows
set_option maxHeartbeats 8000000 in
open_top hd for PySem.Challenge.rw_ba5008_01

-- s1
noncomputable abbrev loose : List Str := looseW hd.view_39 [Str.ofString "legal_date_gregorian", Str.ofString "to_jd_gregorian", Str.ofString "from_jd_gregorian", Str.ofString "legal_date_julian", Str.ofString "from_jd_julian", Str.ofString "to_jd_julian"]
noncomputable abbrev Pg : Program := PySem.Challenge.rw_ba5008_01.row.prog
noncomputable abbrev Kh (w : World) : Frag := hd.heap_39 w.params

abbrev Ret (h₀ : Heap) (L : Addr) (m : Str → Option Value) (news : List (Addr × Obj)) (s : Shared) (Q : Value → Shared → Prop) (v : Tok → Value) : Prop :=
  ∀ (t : Tok) (h' : Heap) (tk' : Nat), Fr h₀ L h' m → News h₀ L h' news → Q (v t) { s with heap := h', toks := tk' }

noncomputable abbrev Cl (w : World) (N : Nat) (mean : ExcName → Option Value) (mg mb : Str → Option Value) (f : Addr) (vs : List Value) (R : Tok → Value) : Prop :=
  ∀ {dp un : Nat} {gd : Option (List Code)} {cn : Str} {cs : Scope} {a : Addr} {ccd : Value} {cl : List (Str × Addr)} {outer : List Env} {A₀ : Around} {base h₀ : Heap} {L : Addr} {m : Str → Option Value} {news : List (Addr × Obj)} {s : Shared} {Q E : Value → Shared → Prop},
    Below A₀ base outer h₀ → Fr h₀ L s.heap m → (hd.heap_39 w.params).In h₀ → News h₀ L s.heap news → Top hd.view_39 loose mean mg mb h₀ → cs.kind = .function → dp + N < recursionLimit → un + 8 * N < cLine →
    Ret h₀ L m news s Q R →
    wpAny (model PySem.Challenge.rw_ba5008_01.row.prog w) (ktrTop dp un gd cn cs L a ccd cl outer) (call (.ref f) vs) Q E s


theorem retF {h₀ : Heap} {L : Addr} {m : Str → Option Value} {news : List (Addr × Obj)} {s : Shared} {Q : Value → Shared → Prop} {k k' : Int} {t : Tok} {h' : Heap} {tk' : Nat}
    (hret : Ret h₀ L m news s Q (fun t => .float (H k) t)) (e : k' = k) (F : Fr h₀ L h' m) (N : News h₀ L h' news) : Q (.float (H k') t) { s with heap := h', toks := tk' } := by
  subst e
  exact hret t h' tk' F N

abbrev tup3 (y mo d : Int) (t1 t2 t3 : Tok) : Obj := { cls := Value.type "tuple", data := Data.seq #[Value.int y t1, Value.int mo t2, Value.int d t3] }
abbrev RetT (h₀ : Heap) (L : Addr) (m : Str → Option Value) (news : List (Addr × Obj)) (s : Shared) (Q : Value → Shared → Prop) (y mo d : Int) : Prop :=
  ∀ (a : Addr) (t1 t2 t3 : Tok) (h' : Heap) (tk' : Nat), Fr h₀ L h' m → News h₀ L h' ((a, tup3 y mo d t1 t2 t3) :: news) → (∀ p ∈ news, p.1 < a) → Q (.ref a) { s with heap := h', toks := tk' }

noncomputable abbrev ClT (w : World) (N : Nat) (mean : ExcName → Option Value) (mg mb : Str → Option Value) (f : Addr) (vs : List Value) (y mo d : Int) : Prop :=
  ∀ {dp un : Nat} {gd : Option (List Code)} {cn : Str} {cs : Scope} {a : Addr} {ccd : Value} {cl : List (Str × Addr)} {outer : List Env} {A₀ : Around} {base h₀ : Heap} {L : Addr} {m : Str → Option Value} {news : List (Addr × Obj)} {s : Shared} {Q E : Value → Shared → Prop},
    Below A₀ base outer h₀ → Fr h₀ L s.heap m → (hd.heap_39 w.params).In h₀ → News h₀ L s.heap news → Top hd.view_39 loose mean mg mb h₀ → cs.kind = .function → dp + N < recursionLimit → un + 8 * N < cLine →
    RetT h₀ L m news s Q y mo d →
    wpAny (model PySem.Challenge.rw_ba5008_01.row.prog w) (ktrTop dp un gd cn cs L a ccd cl outer) (call (.ref f) vs) Q E s

-- s2
def leapB (y : Int) : Bool := y.fmod 4 == 0 && (y.fmod 100 != 0 || y.fmod 400 == 0)
theorem lb1 {y : Int} (h1 : y.fmod 4 = 0) (h2 : y.fmod 100 ≠ 0) : (y.fmod 100 != 0) = leapB y := by simp [leapB, h1, h2]
theorem lb2 {y : Int} (h1 : y.fmod 4 = 0) (h2 : y.fmod 100 = 0) : (y.fmod 400 == 0) = leapB y := by simp [leapB, h1, h2]
theorem lb3 {y : Int} (h1 : ¬ y.fmod 4 = 0) : (y.fmod 4 == 0) = leapB y := by simp [leapB, h1]
theorem fm (y : Int) {k : Int} (hk : 0 ≤ k) : y.fmod k = y % k := Int.fmod_eq_emod_of_nonneg _ hk
theorem fd (y : Int) {k : Int} (hk : 0 ≤ k) : y.fdiv k = y / k := Int.fdiv_eq_ediv_of_nonneg _ hk

theorem c_isleap {w mean mg mb} (y : Int) (t : Tok) (b : Bool) (hb : leapB y = b) : Cl w 1 mean mg mb 50 [.int y t] (fun _ => .bool b) := by
  subst hb
  unfold Cl; k_fill; intros; rename_i hret
  refine wpAny_call ?_
  k_dflt cell_enter
  k_steps
  all_goals exact cb_retB hret (by first | exact lb1 (by assumption) (by assumption) | exact lb2 (by assumption) (by assumption) | exact lb3 (by assumption)) (by k_asm) (by first | k_asm | (refine' cb_drop ?cbN ?cbS; (case cbN => assumption); (case cbS => kcj_all)))


-- s3
theorem in_thirty {prog : Program} {w : World} {A : Around} {E : Value → Shared → Prop} {s : Shared} {Q : Value → Shared → Prop} {K : Frag} {h₀ : Heap} {L a : Addr} {m : Str → Option Value} {o : Obj} {items : Array Value} {n : Nat} {x : Int} {u : Tok}
    (F : Fr h₀ L s.heap m) (X : K.In h₀) (e : List.lookup a K = some o) (hc : o.cls = .type "tuple") (hd : o.data = .seq items n) (hi : IntsAre items.toList [4, 6, 9, 11])
    (h : Q (.bool (decide (x = 4 ∨ x = 6 ∨ x = 9 ∨ x = 11))) s) : wpAny (model prog w) A (compareOp .In (.int x u) (.ref a)) Q E s := by
  refine in_tuple_ints ⟨o, Fr.keep F _ _ (X _ _ e), hc, n, hd⟩ hi ?_
  have : ([4, 6, 9, 11] : List Int).any (· == x) = decide (x = 4 ∨ x = 6 ∨ x = 9 ∨ x = 11) := by
    rw [Bool.eq_iff_iff]
    simp only [List.any_cons, List.any_nil, Bool.or_false, Bool.or_eq_true, beq_iff_eq, decide_eq_true_eq]
    omega
  rw [this]
  exact h

local macro_rules | `(tactic| walk_at "compareOp In int ref") => `(tactic| (k_here; (with_reducible rename Fr _ _ _ _ => kF); k_dflt (refine' in_thirty kF ?k1 ?k2 ?k3 ?k4 ?k5 ?_; (case k1 => k_asm); (case k2 => k_is); (case k3 => rfl); (case k4 => rfl); (case k5 => repeat constructor); k_whole)))
local macro_rules | `(tactic| walk_at "KCj") => `(tactic| (k_here; first
  | ((refine kcj_end ?kce (by with_unfolding_all rfl) rfl (by assumption) (by assumption) (fun _ h => h)); (case kce => kpf_eq))
  | ((refine kcj_end (t := (0 : Nat)) ?kce (by with_unfolding_all rfl) rfl (by assumption) (by assumption) (fun _ h => h)); (case kce => kpf_eq))))
local macro_rules | `(tactic| walk_at "call ref") => `(tactic| (k_here; (with_reducible show wpAny _ _ (call (Value.ref 50) _) _ _ _); k_dflt (refine' c_isleap _ _ _ ?kb ?k1 ?k2 ?k3 ?k4 ?k5 ?k6 ?k7 ?k8 ?_; (case kb => first | assumption | exact rfl); (case k1 => k_asm); (case k2 => k_asm); (case k3 => k_asm); (case k4 => k_asm); (case k5 => k_asm); (case k6 => first | exact rfl | assumption); (case k7 => ktr_room); (case k8 => ktr_units); k_whole; intro t9 h9 tk9 F9 N9; (try dsimp only); (try k_fold))))

theorem ite_isT {b : Bool} {p q : Prop} (h : b = true) (hq : p) : if b = true then p else q := by rw [h]; exact hq
local macro_rules | `(tactic| walk_at "ite") => `(tactic| (k_here; first
  | (refine ite_isT (by with_reducible assumption) ?_)
  | (refine ite_isFalse (by with_reducible assumption) ?_)
  | (refine ite_isT (by (simp only [beq_iff_eq, bne_iff_ne, ne_eq, decide_eq_true_eq, Bool.and_eq_true, Bool.or_eq_true, Bool.not_eq_true', decide_eq_false_iff_not]; omega)) ?_)
  | (refine ite_isFalse (by (simp only [beq_eq_false_iff_ne, bne_eq_false_iff_eq, ne_eq, decide_eq_false_iff_not, Bool.and_eq_false_iff, Bool.or_eq_false_iff, Bool.not_eq_false', decide_eq_true_eq]; omega)) ?_)))

def glen (y m : Int) : Int := if m = 2 then (if leapB y = true then 29 else 28) else if m = 4 ∨ m = 6 ∨ m = 9 ∨ m = 11 then 30 else 31

theorem glen_cases {y m d : Int} (h : d ≤ glen y m) : (m = 2 ∧ leapB y = true ∧ d ≤ 29) ∨ (m = 2 ∧ leapB y = false ∧ d ≤ 28) ∨ (m ≠ 2 ∧ (m = 4 ∨ m = 6 ∨ m = 9 ∨ m = 11) ∧ d ≤ 30) ∨ (m ≠ 2 ∧ ¬ (m = 4 ∨ m = 6 ∨ m = 9 ∨ m = 11) ∧ d ≤ 31) := by
  unfold glen at h
  by_cases h2 : m = 2
  · rw [if_pos h2] at h
    cases hb : leapB y
    · rw [hb] at h; exact .inr (.inl ⟨h2, rfl, by simpa using h⟩)
    · rw [hb] at h; exact .inl ⟨h2, rfl, by simpa using h⟩
  · rw [if_neg h2] at h
    by_cases h3 : m = 4 ∨ m = 6 ∨ m = 9 ∨ m = 11
    · rw [if_pos h3] at h; exact .inr (.inr (.inl ⟨h2, h3, h⟩))
    · rw [if_neg h3] at h; exact .inr (.inr (.inr ⟨h2, h3, h⟩))

set_option maxHeartbeats 400000 in
theorem c_legal {w mean mg mb} (y m d : Int) (t1 t2 t3 : Tok) (hd0 : 0 < d) (hd1 : d ≤ glen y m) : Cl w 2 mean mg mb 57 [.int y t1, .int m t2, .int d t3] (fun _ => .bool true) := by
  have hc := glen_cases hd1
  clear hd1
  unfold Cl; k_fill; intros; rename_i hret
  refine wpAny_call ?_
  k_dflt cell_enter
  rcases hc with ⟨h1, h2, h3⟩ | ⟨h1, h2, h3⟩ | ⟨h1, h2, h3⟩ | ⟨h1, h2, h3⟩
  all_goals k_steps
  all_goals exact hret 0 _ _ (by k_asm) (by first | k_asm | (refine' cb_drop ?cbN ?cbS; (case cbN => assumption); (case cbS => kcj_all)))

-- s4
theorem sub_epoch_1 : Float64.sub 4700144277945057280 (Float64.ofInt 1) = H 3442849 := by decide +kernel

theorem fl_fracI {n d : Int} (hn : 0 ≤ n) (hn2 : n < 2 ^ 32) (hd : 0 < d) (hd2 : d ≤ 2 ^ 20) : Fl (Float64.ofFrac false n.toNat d.toNat) (n / d) := by
  have h := fl_frac (n := n.toNat) (d := d.toNat) (by omega) (by omega) (by omega)
  rw [Int.natCast_ediv, Int.toNat_of_nonneg hn, Int.toNat_of_nonneg (Int.le_of_lt hd)] at h
  exact h
theorem fl_frac4 {n : Int} (hn : 0 ≤ n) (hn2 : n < 2 ^ 32) : Fl (Float64.ofFrac false n.toNat (Int.toNat 4)) (n / 4) := fl_fracI hn hn2 (by decide) (by decide)
theorem fl_frac100 {n : Int} (hn : 0 ≤ n) (hn2 : n < 2 ^ 32) : Fl (Float64.ofFrac false n.toNat (Int.toNat 100)) (n / 100) := fl_fracI hn hn2 (by decide) (by decide)
theorem fl_frac400 {n : Int} (hn : 0 ≤ n) (hn2 : n < 2 ^ 32) : Fl (Float64.ofFrac false n.toNat (Int.toNat 400)) (n / 400) := fl_fracI hn hn2 (by decide) (by decide)

theorem fl_dec {x : UInt64} {k : Int} (h : (match Float64.decode x with | .fin s m e => decide (Float64.floorOf s m e = k) | _ => false) = true) : Fl x k := by
  cases hd : Float64.decode x with
  | nan => rw [hd] at h; cases h
  | inf s => rw [hd] at h; cases h
  | fin s m e => rw [hd] at h; exact ⟨s, m, e, hd, by simpa using h⟩
theorem fl_mo {m a d : Int} (hm : 1 ≤ m) (hm2 : m ≤ 12) (ha : a = 0 ∨ a = -1 ∨ a = -2) (ha2 : a < 0 → 2 < m) (hd : 0 < d) (hd2 : d ≤ 31) :
    Fl (Float64.add (Float64.add (Float64.ofFrac false (367 * m - 362).toNat (Int.toNat 12)) (Float64.ofInt a)) (Float64.ofInt d)) ((367 * m - 362) / 12 + a + d) := by
  have h0 := btw_frac (n := (367 * m - 362).toNat) (d := Int.toNat 12) (by decide) (by decide) (by omega)
  have e0 : Int.toNat 12 = 12 := rfl
  have h1 := btw_add (q' := ((367 * m - 362) / 12 + a).toNat) (n := a) h0 (by omega) (by rw [e0]; omega) (by omega)
  have h2 := btw_add (q' := ((367 * m - 362) / 12 + a + d).toNat) (n := d) h1 (by omega) (by omega) (by omega)
  have h3 := fl_btw h2
  rw [Int.toNat_of_nonneg (by omega)] at h3
  exact h3
local macro_rules | `(tactic| walk_at "call ref") => `(tactic| (k_here; (with_reducible show wpAny _ _ (call (Value.ref 57) _) _ _ _); k_dflt (refine' c_legal _ _ _ _ _ _ ?ka ?kb ?k1 ?k2 ?k3 ?k4 ?k5 ?k6 ?k7 ?k8 ?_; (case ka => first | assumption | decide | omega); (case kb => first | assumption | decide | omega); (case k1 => k_asm); (case k2 => k_asm); (case k3 => k_asm); (case k4 => k_asm); (case k5 => k_asm); (case k6 => first | exact rfl | assumption); (case k7 => ktr_room); (case k8 => ktr_units); k_whole; intro t9 h9 tk9 F9 N9; (try dsimp only); (try k_fold))))
local macro_rules | `(tactic| walk_at "binaryOp Add float int") => `(tactic| (k_here; refine' r_add_fi ?ka ?ke ?_; (case ka => omega); (case ke => first | exact add_Hi (by omega) (by omega) | exact rfl)))
local macro_rules | `(tactic| walk_at "binaryOp Sub float int") => `(tactic| (k_here; refine' r_sub_fi ?ka ?ke ?_; (case ka => omega); (case ke => first | exact sub_epoch_1 | exact sub_Hi (by omega) (by omega))))
local macro_rules | `(tactic| walk_at "binaryOp Div int int") => `(tactic| (k_here; refine' r_div_ii rfl ?ka ?kb ?kc ?_; (case ka => omega); (case kb => omega); (case kc => omega)))
local macro_rules | `(tactic| walk_at "call builtin:math.floor") => `(tactic| (k_here; (with_reducible show wpAny _ _ (call _ [Value.float _ _]) _ _ _); refine' r_floor rfl ?ka ?_; (case ka => first | exact fl_frac4 (by omega) (by omega) | exact fl_frac100 (by omega) (by omega) | exact fl_frac400 (by omega) (by omega) | exact fl_mo (by omega) (by omega) (by omega) (by omega) (by omega) (by omega))))

def adj (y m : Int) : Int := if m ≤ 2 then 0 else if leapB y = true then -1 else -2
def rd (y m d : Int) : Int := 365 * (y - 1) + (y - 1) / 4 - (y - 1) / 100 + (y - 1) / 400 + ((367 * m - 362) / 12 + adj y m + d)

set_option maxHeartbeats 400000 in
theorem c_tojd {w mean mg mb} (y m d : Int) (t1 t2 t3 : Tok) (hy : 1 ≤ y) (hy2 : y < 100000) (hm : 1 ≤ m) (hm2 : m ≤ 12) (hd0 : 0 < d) (hd1 : d ≤ glen y m) : Cl w 3 mean mg mb 64 [.int y t1, .int m t2, .int d t3] (fun t => .float (H (2 * rd y m d + 3442849)) t) := by
  unfold Cl; k_fill; intros; rename_i hret
  refine wpAny_call ?_
  k_dflt cell_enter
  have hc : (m ≤ 2 ∧ adj y m = 0) ∨ (2 < m ∧ leapB y = true ∧ adj y m = -1) ∨ (2 < m ∧ leapB y = false ∧ adj y m = -2) := by
    unfold adj
    by_cases h : m ≤ 2
    · exact .inl ⟨h, if_pos h⟩
    · cases hb : leapB y
      · exact .inr (.inr ⟨by omega, rfl, by simp [h]⟩)
      · exact .inr (.inl ⟨by omega, rfl, by simp [h]⟩)
  have hd2 : d ≤ 31 := by have := glen_cases hd1; omega
  rcases hc with ⟨h1, h2⟩ | ⟨h1, h2, h3⟩ | ⟨h1, h2, h3⟩
  all_goals k_steps
  all_goals exact retF hret (by unfold rd; omega) (by k_asm) (by first | k_asm | (refine' cb_drop ?cbN ?cbS; (case cbN => assumption); (case cbS => kcj_all)))

-- g1
def first (b : Bool) (m : Int) : Int := (367 * m - 362) / 12 + (if m ≤ 2 then 0 else if b = true then -1 else -2)
def len (b : Bool) (m : Int) : Int := if m = 2 then (if b = true then 29 else 28) else if m = 4 ∨ m = 6 ∨ m = 9 ∨ m = 11 then 30 else 31
def lnum (b : Bool) : Int := if b = true then 1 else 0
def mo (b : Bool) (yd : Int) : Int := ((yd + (if yd < 58 + lnum b then 0 else 2 - lnum b)) * 12 + 373) / 367

theorem mo_range {b : Bool} {yd : Int} (h0 : 0 ≤ yd) (h1 : yd ≤ 364 + lnum b) : 1 ≤ mo b yd ∧ mo b yd ≤ 12 := by
  unfold mo
  cases b <;> simp only [lnum, Bool.false_eq_true, if_false, if_true] at * <;> split <;> omega
theorem twelve {m : Int} (h : 1 ≤ m) (h2 : m ≤ 12) : m = 1 ∨ m = 2 ∨ m = 3 ∨ m = 4 ∨ m = 5 ∨ m = 6 ∨ m = 7 ∨ m = 8 ∨ m = 9 ∨ m = 10 ∨ m = 11 ∨ m = 12 := by omega
theorem mo_fact {b : Bool} {yd : Int} (h0 : 0 ≤ yd) (h1 : yd ≤ 364 + lnum b) : first b (mo b yd) ≤ yd ∧ yd < first b (mo b yd) + len b (mo b yd) := by
  have hr := mo_range h0 h1
  have ht := twelve hr.1 hr.2
  have hm : mo b yd = ((yd + (if yd < 58 + lnum b then 0 else 2 - lnum b)) * 12 + 373) / 367 := rfl
  generalize mo b yd = m at *
  unfold first len
  cases b <;> simp only [lnum, Bool.false_eq_true, if_false, if_true] at * <;> split at hm <;> rcases ht with rfl | rfl | rfl | rfl | rfl | rfl | rfl | rfl | rfl | rfl | rfl | rfl <;> simp <;> omega
theorem mo_uniq {b : Bool} {yd m : Int} (h0 : 0 ≤ yd) (h1 : yd ≤ 364 + lnum b) (hm : 1 ≤ m) (hm2 : m ≤ 12) (h2 : first b m ≤ yd) (h3 : yd < first b m + len b m) : mo b yd = m := by
  have hr := mo_range h0 h1
  have ht := twelve hm hm2
  unfold first len at *
  unfold mo
  cases b <;> simp only [lnum, Bool.false_eq_true, if_false, if_true] at * <;> split <;> rcases ht with rfl | rfl | rfl | rfl | rfl | rfl | rfl | rfl | rfl | rfl | rfl | rfl <;> simp at h2 h3 <;> omega

def gy (N : Int) : Int := (N - 1) / 146097 * 400 + (N - 1) % 146097 / 36524 * 100 + (N - 1) % 146097 % 36524 / 1461 * 4 + (N - 1) % 146097 % 36524 % 1461 / 365 + (if (N - 1) % 146097 / 36524 = 4 ∨ (N - 1) % 146097 % 36524 % 1461 / 365 = 4 then 0 else 1)
def yst (y : Int) : Int := 365 * (y - 1) + (y - 1) / 4 - (y - 1) / 100 + (y - 1) / 400 + 1
def gx (N : Int) : Int := N - yst (gy N)
def gm (N : Int) : Int := mo (leapB (gy N)) (gx N)
def gd (N : Int) : Int := gx N - first (leapB (gy N)) (gm N) + 1

theorem rd_first (y m d : Int) : rd y m d = yst y + first (leapB y) m + d - 1 := by
  unfold rd yst first adj
  omega
theorem glen_len (y m : Int) : glen y m = len (leapB y) m := rfl

theorem leapB_iff (y : Int) : leapB y = true ↔ (y % 4 = 0 ∧ (y % 100 ≠ 0 ∨ y % 400 = 0)) := by
  unfold leapB
  rw [Int.fmod_eq_emod_of_nonneg _ (by decide), Int.fmod_eq_emod_of_nonneg _ (by decide), Int.fmod_eq_emod_of_nonneg _ (by decide)]
  simp only [Bool.and_eq_true, Bool.or_eq_true, beq_iff_eq, bne_iff_ne]
theorem lnum_0 (b : Bool) : 0 ≤ lnum b ∧ lnum b ≤ 1 := by cases b <;> decide

theorem gy_core {N q c qd yi r : Int} (hN : N - 1 = 146097 * q + 36524 * c + 1461 * qd + 365 * yi + r) (hc0 : 0 ≤ c) (hq0 : 0 ≤ qd) (hy0 : 0 ≤ yi) (hr0 : 0 ≤ r) (hr : r < 365)
    (h1 : 36524 * c + 1461 * qd + 365 * yi + r < 146097) (h2 : 1461 * qd + 365 * yi + r < 36524) (h3 : 365 * yi + r < 1461) {y : Int} (hy : y = 400 * q + 100 * c + 4 * qd + yi + (if c = 4 ∨ yi = 4 then 0 else 1)) :
    0 ≤ N - yst y ∧ N - yst y ≤ 364 + lnum (leapB y) ∧ N - yst y = (if c = 4 ∨ yi = 4 then 365 else r) := by
  have hl := lnum_0 (leapB y)
  unfold yst
  by_cases hc : c = 4
  · have e1 : qd = 0 := by omega
    have e2 : yi = 0 := by omega
    rw [if_pos (.inl hc)] at hy ⊢
    have hL : leapB y = true := (leapB_iff y).mpr (by omega)
    rw [hL]
    have l1 : lnum true = 1 := rfl
    omega
  · by_cases hi : yi = 4
    · rw [if_pos (.inr hi)] at hy ⊢
      have hL : leapB y = true := (leapB_iff y).mpr (by omega)
      rw [hL]
      have l1 : lnum true = 1 := rfl
      have d1 : (y - 1) / 4 = 100 * q + 25 * c + qd := by omega
      have d2 : (y - 1) / 100 = 4 * q + c := by omega
      have d3 : (y - 1) / 400 = q := by omega
      rw [d1, d2, d3]
      omega
    · rw [if_neg (not_or.mpr ⟨hc, hi⟩)] at hy ⊢
      have d1 : (y - 1) / 4 = 100 * q + 25 * c + qd := by omega
      have d2 : (y - 1) / 100 = 4 * q + c := by omega
      have d3 : (y - 1) / 400 = q := by omega
      rw [d1, d2, d3]
      omega

theorem gx_fact (N : Int) : 0 ≤ gx N ∧ gx N ≤ 364 + lnum (leapB (gy N)) := by
  have h := gy_core (N := N) (q := (N - 1) / 146097) (c := (N - 1) % 146097 / 36524) (qd := (N - 1) % 146097 % 36524 / 1461) (yi := (N - 1) % 146097 % 36524 % 1461 / 365) (r := (N - 1) % 146097 % 36524 % 1461 % 365)
    (by omega) (by omega) (by omega) (by omega) (by omega) (by omega) (by omega) (by omega) (by omega) (y := gy N) (by unfold gy; omega)
  exact ⟨h.1, h.2.1⟩
theorem gy_range {N : Int} (h : 1 ≤ N) (h2 : N < 3000000) : 1 ≤ gy N ∧ gy N < 10000 := by
  unfold gy
  split <;> omega
theorem gm_range (N : Int) : 1 ≤ gm N ∧ gm N ≤ 12 := mo_range (gx_fact N).1 (gx_fact N).2
theorem gd_range (N : Int) : 1 ≤ gd N ∧ gd N ≤ glen (gy N) (gm N) := by
  have h := mo_fact (gx_fact N).1 (gx_fact N).2
  rw [glen_len]
  unfold gd
  have e : mo (leapB (gy N)) (gx N) = gm N := rfl
  rw [e] at h
  omega
theorem rd_g (N : Int) : rd (gy N) (gm N) (gd N) = N := by
  rw [rd_first]
  unfold gd gx
  omega

-- s5
theorem sub_half {k : Int} (hk : k.natAbs < 2 ^ 50) : Float64.sub (H k) 4602678819172646912 = H (k - 1) := by rw [lit_half]; exact sub_HH hk (by decide)
theorem add_half_i {n : Int} (hn : n.natAbs < 2 ^ 50) : Float64.add (Float64.ofInt n) 4602678819172646912 = H (2 * n + 1) := by rw [lit_half]; exact add_iH (by decide) hn
theorem add_half_W {N : Int} (hN : N.natAbs < 2 ^ 40) : Float64.add (Float64.ofInt (N + 1721424)) 4602678819172646912 = H (2 * N + 3442849) := by
  rw [add_half_i (by omega)]; congr 1; omega
theorem sub_epoch_W {N : Int} (hN : N.natAbs < 2 ^ 40) : Float64.sub (H (2 * N + 3442849)) 4700144277945057280 = H (2 * (N - 1)) := by
  rw [lit_epoch, sub_HH (by omega) (by decide)]; congr 1; omega
theorem sub_WW {N r : Int} (hN : N.natAbs < 2 ^ 40) (hr : r.natAbs < 2 ^ 40) : Float64.sub (H (2 * N + 3442849)) (H (2 * r + 3442849)) = H (2 * (N - r)) := by
  rw [sub_HH (by omega) (by omega)]; congr 1; omega
theorem add_2i {a n : Int} (ha : a.natAbs < 2 ^ 40) (hn : n.natAbs < 2 ^ 40) : Float64.add (H (2 * a)) (Float64.ofInt n) = H (2 * (a + n)) := by
  rw [add_Hi (by omega) (by omega)]; congr 1; omega
theorem mul_2_12 {a : Int} (ha : a.natAbs < 2 ^ 40) : Float64.mul (H (2 * a)) (Float64.ofInt 12) = H (2 * (a * 12)) := by
  rw [mul_H (by decide) (by omega) (by omega) (by decide)]; congr 1; omega
theorem fl_W {N : Int} (hN : N.natAbs < 2 ^ 40) : Fl (H (2 * N + 3442849 - 1)) (N + 1721424) := by
  have h := fl_H (a := 2 * N + 3442849 - 1) (by omega)
  rw [show (2 * N + 3442849 - 1) / 2 = N + 1721424 by omega] at h
  exact h
theorem fl_cast {x : UInt64} {a b : Int} (h : Fl x a) (e : a = b) : Fl x b := e ▸ h
theorem tr_2 {a : Int} (ha : 0 ≤ a) (ha2 : a < 2 ^ 40) : Tr (H (2 * a)) a := by
  have h := tr_H (a := 2 * a) (by omega) (by omega)
  rw [show 2 * a / 2 = a by omega] at h
  exact h

section
variable {prog : Program} {w : World} {A : Around} {E : Value → Shared → Prop} {s : Shared} {t u : Tok} {Q : Value → Shared → Prop} {a b c : Int}
theorem r_add_to (e : a + b = c) (h : Q (.int c s.toks) { s with toks := s.toks + 1 }) : wpAny (model prog w) A (binaryOp .Add (.int a t) (.int b u)) Q E s := by
  subst e; exact add_int h
theorem r_iadd_to (e : a + b = c) (h : Q (.int c s.toks) { s with toks := s.toks + 1 }) : wpAny (model prog w) A (inplaceOp .Add (.int a t) (.int b u)) Q E s := by
  subst e; exact iadd_int h
end
theorem gm_a {N : Int} : gm N = ((N - rd (gy N) 1 1 + (if N - rd (gy N) 1 1 < 58 + (if leapB (gy N) = true then 1 else 0) then 0 else 2 - (if leapB (gy N) = true then 1 else 0))) * 12 + 373) / 367 := by
  have e : N - rd (gy N) 1 1 = gx N := by
    rw [rd_first]
    have : first (leapB (gy N)) 1 = 0 := rfl
    unfold gx
    omega
  rw [e]
  rfl
theorem gm_1 {N : Int} (h : 2 * (N - rd (gy N) 1 1) < 2 * (58 + if leapB (gy N) = true then 1 else 0)) : ((N - rd (gy N) 1 1 + 0) * 12 + 373) / 367 = gm N := by
  rw [gm_a, if_pos (by omega)]
theorem gm_2 {N : Int} (h : ¬ 2 * (N - rd (gy N) 1 1) < 2 * (58 + if leapB (gy N) = true then 1 else 0)) (h2 : leapB (gy N) = true) : ((N - rd (gy N) 1 1 + 1) * 12 + 373) / 367 = gm N := by
  rw [gm_a, if_neg (by omega), if_pos h2]; rfl
theorem gm_3 {N : Int} (h : ¬ 2 * (N - rd (gy N) 1 1) < 2 * (58 + if leapB (gy N) = true then 1 else 0)) (h2 : leapB (gy N) = false) : ((N - rd (gy N) 1 1 + 2) * 12 + 373) / 367 = gm N := by
  rw [gm_a, if_neg (by omega), h2]; rfl
theorem gx_rd (N : Int) : 0 ≤ N - rd (gy N) 1 1 ∧ N - rd (gy N) 1 1 ≤ 365 := by
  have h := gx_fact N
  have hl := lnum_0 (leapB (gy N))
  have : first (leapB (gy N)) 1 = 0 := rfl
  rw [rd_first]
  unfold gx at h
  omega
theorem gd_rd (N : Int) : 0 ≤ N - rd (gy N) (gm N) 1 ∧ N - rd (gy N) (gm N) 1 ≤ 31 ∧ N - rd (gy N) (gm N) 1 + 1 = gd N := by
  have h := gd_range N
  have h2 : glen (gy N) (gm N) ≤ 31 := by unfold glen; split <;> (try split) <;> omega
  have h3 : N - rd (gy N) (gm N) 1 + 1 = gd N := by rw [rd_first]; unfold gd gx; omega
  omega

local macro_rules | `(tactic| walk_at "binaryOp Sub float float") => `(tactic| (k_here; refine' r_sub_ff ?ke ?_; (case ke => first | exact sub_half (by omega) | exact sub_epoch_W (by omega) | exact sub_WW (by omega) (by omega))))
local macro_rules | `(tactic| walk_at "binaryOp Add int float") => `(tactic| (k_here; refine' r_add_if ?ka ?ke ?_; (case ka => omega); (case ke => first | exact add_half_W (by omega) | exact add_half_i (by omega))))
local macro_rules | `(tactic| walk_at "binaryOp Add float int") => `(tactic| (k_here; refine' r_add_fi ?ka ?ke ?_; (case ka => omega); (case ke => first | exact add_2i (by omega) (by omega))))
local macro_rules | `(tactic| walk_at "binaryOp Mult float int") => `(tactic| (k_here; refine' r_mul_fi ?ka ?ke ?_; (case ka => omega); (case ke => first | exact mul_2_12 (by omega))))
local macro_rules | `(tactic| walk_at "binaryOp Div float int") => `(tactic| (k_here; refine' r_div_fi rfl ?ka ?kb ?_; (case ka => omega); (case kb => omega)))
local macro_rules | `(tactic| walk_at "binaryOp Mod float int") => `(tactic| (k_here; refine' r_mod_fi rfl ?ka ?kb ?ke ?_; (case ka => omega); (case kb => omega); (case ke => exact mod_H (by omega) (by omega) (by omega) (by omega))))
local macro_rules | `(tactic| walk_at "call builtin:math.floor") => `(tactic| (k_here; (with_reducible show wpAny _ _ (call _ [Value.float _ _]) _ _ _); refine' r_floor rfl ?ka ?_; (case ka => first | exact fl_W (by omega) | exact fl_cast (fl_divHH (by omega) (by omega) (by omega) (by omega)) (by first | exact gm_1 (by assumption) | exact gm_2 (by assumption) (by assumption) | exact gm_3 (by assumption) (by assumption)) | exact fl_divHH (by omega) (by omega) (by omega) (by omega))))
local macro_rules | `(tactic| walk_at "call type:int") => `(tactic| (k_here; (with_reducible show wpAny _ _ (call _ [Value.float _ _]) _ _ _); refine' r_int ?ka ?_; (case ka => exact tr_2 (by omega) (by omega))))
local macro_rules | `(tactic| walk_at "binaryOp Add int int") => `(tactic| (k_here; refine' r_add_to ?ke ?_; (case ke => with_reducible assumption)))
local macro_rules | `(tactic| walk_at "inplaceOp Add int int") => `(tactic| (k_here; refine' r_iadd_to ?ke ?_; (case ke => with_reducible assumption)))
local macro_rules | `(tactic| walk_at "compareOp Lt float int") => `(tactic| (k_here; refine' r_lt_fi ?ka ?_; (case ka => omega)))
local macro_rules | `(tactic| walk_at "call ref") => `(tactic| (k_here; (with_reducible show wpAny _ _ (call (Value.ref 64) _) _ _ _); k_dflt (refine' c_tojd _ _ _ _ _ _ ?ka ?kb ?kc ?kd ?ke ?kf ?k1 ?k2 ?k3 ?k4 ?k5 ?k6 ?k7 ?k8 ?_; (case ka => first | assumption | decide | omega); (case kb => first | assumption | decide | omega); (case kc => first | assumption | decide | omega); (case kd => first | assumption | decide | omega); (case ke => first | assumption | decide | omega); (case kf => first | assumption | decide | omega); (case k1 => k_asm); (case k2 => k_asm); (case k3 => k_asm); (case k4 => k_asm); (case k5 => k_asm); (case k6 => first | exact rfl | assumption); (case k7 => ktr_room); (case k8 => ktr_units); k_whole; intro t9 h9 tk9 F9 N9; (try dsimp only); (try k_fold))))

theorem glen_pos (y m : Int) : (0 : Int) < glen y m ∧ (1 : Int) ≤ glen y m := by unfold glen; split <;> (try split) <;> decide

set_option maxHeartbeats 1000000 in
theorem c_fromjd {w mean mg mb} (k N : Int) (t1 : Tok) (hk : k = 2 * N + 3442849) (hN : 1 ≤ N) (hN2 : N < 3000000) : ClT w 4 mean mg mb 71 [.float (H k) t1] (gy N) (gm N) (gd N) := by
  subst hk
  have hy := gy_range hN hN2
  have hm := gm_range N
  have hx := gx_rd N
  have hd := gd_rd N
  have hd3 := hd.2.2
  have g1 := (glen_pos (gy N) 1).2
  have g2 := (glen_pos (gy N) (gm N)).2
  unfold ClT; k_fill; intros; rename_i hret
  refine wpAny_call ?_
  k_dflt cell_enter
  have hc : (((N - 1) % 146097 / 36524 = 4 ∨ (N - 1) % 146097 % 36524 % 1461 / 365 = 4) ∧ (N - 1) / 146097 * 400 + (N - 1) % 146097 / 36524 * 100 + (N - 1) % 146097 % 36524 / 1461 * 4 + (N - 1) % 146097 % 36524 % 1461 / 365 = gy N)
      ∨ (¬ (N - 1) % 146097 / 36524 = 4 ∧ ¬ (N - 1) % 146097 % 36524 % 1461 / 365 = 4 ∧ (N - 1) / 146097 * 400 + (N - 1) % 146097 / 36524 * 100 + (N - 1) % 146097 % 36524 / 1461 * 4 + (N - 1) % 146097 % 36524 % 1461 / 365 + 1 = gy N) := by
    by_cases h1 : (N - 1) % 146097 / 36524 = 4 ∨ (N - 1) % 146097 % 36524 % 1461 / 365 = 4
    · exact .inl ⟨h1, by unfold gy; rw [if_pos h1, Int.add_zero]⟩
    · exact .inr ⟨fun h => h1 (.inl h), fun h => h1 (.inr h), by unfold gy; rw [if_neg h1]⟩
  rcases hc with ⟨hc, hG⟩ | ⟨hc, hc2, hG⟩
  · k_steps
    all_goals exact hret _ _ _ _ _ _ (by k_asm) (by first | k_asm | (refine' cb_drop ?cbN ?cbS; (case cbN => assumption); (case cbS => kcj_all))) (by assumption)
  · k_steps
    all_goals exact hret _ _ _ _ _ _ (by k_asm) (by first | k_asm | (refine' cb_drop ?cbN ?cbS; (case cbN => assumption); (case cbS => kcj_all))) (by assumption)

-- g2
def jleapB (y : Int) : Bool := y.fmod 4 == 0
def jlen (y m : Int) : Int := len (jleapB y) m
def jrd (y m d : Int) : Int := 1461 * ((if m ≤ 2 then y - 1 else y) + 4716) / 4 + 306001 * ((if m ≤ 2 then m + 12 else m) + 1) / 10000 + d - 1722949
def jc (N : Int) : Int := (4 * (N + 1722949) - 489) / 1461
def jdd (N : Int) : Int := N + 1722949 - 1461 * jc N / 4
def je (N : Int) : Int := 10000 * jdd N / 306001
def jm (N : Int) : Int := if je N < 14 then je N - 1 else je N - 13
def jy (N : Int) : Int := if 2 < jm N then jc N - 4716 else jc N - 4715
def jday (N : Int) : Int := jdd N - 306001 * je N / 10000

theorem jleapB_iff (y : Int) : jleapB y = true ↔ y % 4 = 0 := by
  unfold jleapB
  rw [Int.fmod_eq_emod_of_nonneg _ (by decide)]
  simp only [beq_iff_eq]
theorem jdd_range (N : Int) : 123 ≤ jdd N ∧ jdd N ≤ 488 := by
  unfold jdd jc
  omega
theorem je_range (N : Int) : 4 ≤ je N ∧ je N ≤ 15 := by
  have h := jdd_range N
  unfold je
  omega
theorem jm_cases (N : Int) : (je N < 14 ∧ jm N = je N - 1 ∧ 2 < jm N ∧ jy N = jc N - 4716) ∨ (¬ je N < 14 ∧ jm N = je N - 13 ∧ ¬ 2 < jm N ∧ jy N = jc N - 4715) := by
  have h := je_range N
  by_cases h1 : je N < 14
  · have e : jm N = je N - 1 := if_pos h1
    have e2 : 2 < jm N := by omega
    exact .inl ⟨h1, e, e2, if_pos e2⟩
  · have e : jm N = je N - 13 := if_neg h1
    have e2 : ¬ 2 < jm N := by omega
    exact .inr ⟨h1, e, e2, if_neg e2⟩
theorem jm_range (N : Int) : 1 ≤ jm N ∧ jm N ≤ 12 := by
  have h := je_range N
  have h2 := jm_cases N
  omega
theorem jrd_j (N : Int) : jrd (jy N) (jm N) (jday N) = N := by
  have h2 := jm_cases N
  have h3 := je_range N
  unfold jrd jday jdd
  rcases h2 with ⟨a, b, c, d⟩ | ⟨a, b, c, d⟩
  · rw [if_neg (by omega), if_neg (by omega), d, b]
    rw [show je N - 1 + 1 = je N by omega, show jc N - 4716 + 4716 = jc N by omega]
    omega
  · rw [if_pos (by omega), if_pos (by omega), d, b]
    rw [show je N - 13 + 12 + 1 = je N by omega, show jc N - 4715 - 1 + 4716 = jc N by omega]
    omega
theorem fifteen {e : Int} (h : 4 ≤ e) (h2 : e ≤ 15) : e = 4 ∨ e = 5 ∨ e = 6 ∨ e = 7 ∨ e = 8 ∨ e = 9 ∨ e = 10 ∨ e = 11 ∨ e = 12 ∨ e = 13 ∨ e = 14 ∨ e = 15 := by omega

theorem c4 (q j : Int) : 1461 * (4 * q + j) / 4 = 1461 * q + 1461 * j / 4 := by omega
theorem jc_core {N q k yd : Int} (h : N + 1 = 1461 * q + 365 * k + yd) (hk : 0 ≤ k) (hk2 : k ≤ 3) (h0 : 0 ≤ yd) (h1 : yd ≤ 364 + (if k = 3 then 1 else 0)) :
    (yd ≤ 58 + (if k = 3 then 1 else 0) ∧ jc N = 4 * (q + 1179) + k) ∨ (58 + (if k = 3 then 1 else 0) < yd ∧ jc N = 4 * (q + 1179) + (k + 1)) := by
  have e3 : jc N = (4 * (N + 1722949) - 489) / 1461 := rfl
  have hk4 : k = 0 ∨ k = 1 ∨ k = 2 ∨ k = 3 := by omega
  by_cases hy : yd ≤ 58 + (if k = 3 then 1 else 0)
  · refine .inl ⟨hy, ?_⟩
    rw [e3]
    rcases hk4 with rfl | rfl | rfl | rfl <;> simp only [if_true, show ((0 : Int) = 3) = False by simp, show ((1 : Int) = 3) = False by simp, show ((2 : Int) = 3) = False by simp, if_false] at h1 hy <;> omega
  · refine .inr ⟨by omega, ?_⟩
    rw [e3]
    rcases hk4 with rfl | rfl | rfl | rfl <;> simp only [if_true, show ((0 : Int) = 3) = False by simp, show ((1 : Int) = 3) = False by simp, show ((2 : Int) = 3) = False by simp, if_false] at h1 hy <;> omega

theorem j_core {N q k yd : Int} (h : N + 1 = 1461 * q + 365 * k + yd) (hk : 0 ≤ k) (hk2 : k ≤ 3) (h0 : 0 ≤ yd) (h1 : yd ≤ 364 + (if k = 3 then 1 else 0)) :
    jy N = 4 * q + 1 + k ∧ lnum (jleapB (4 * q + 1 + k)) = (if k = 3 then 1 else 0) ∧ jm N = mo (jleapB (4 * q + 1 + k)) yd ∧ jday N = yd - first (jleapB (4 * q + 1 + k)) (jm N) + 1 := by
  have hL : jleapB (4 * q + 1 + k) = decide (k = 3) := by
    rw [Bool.eq_iff_iff, jleapB_iff, decide_eq_true_eq]
    omega
  have hj := jm_cases N
  have he := je_range N
  have hr := jm_range N
  have hd := jdd_range N
  have e1 : je N = 10000 * jdd N / 306001 := rfl
  have e2 : jdd N = N + 1722949 - 1461 * jc N / 4 := rfl
  have e3 : jc N = (4 * (N + 1722949) - 489) / 1461 := rfl
  have e4 : jday N = jdd N - 306001 * je N / 10000 := rfl
  have hk4 : k = 0 ∨ k = 1 ∨ k = 2 ∨ k = 3 := by omega
  have hln : lnum (decide (k = 3)) = (if k = 3 then 1 else 0) := by by_cases h : k = 3 <;> simp [h, lnum]
  rw [hL]
  refine ⟨?_, hln, ?_⟩
  · rcases hk4 with rfl | rfl | rfl | rfl <;> simp only [if_true, show ((0 : Int) = 3) = False by simp, show ((1 : Int) = 3) = False by simp, show ((2 : Int) = 3) = False by simp, if_false] at h1 <;> omega
  · have key : first (decide (k = 3)) (jm N) ≤ yd ∧ yd < first (decide (k = 3)) (jm N) + len (decide (k = 3)) (jm N) ∧ jday N = yd - first (decide (k = 3)) (jm N) + 1 := by
      have h15 := fifteen he.1 he.2
      have hcc := jc_core h hk hk2 h0 h1
      replace hj : (je N < 14 ∧ jm N = je N - 1 ∧ True) ∨ (¬ je N < 14 ∧ jm N = je N - 13 ∧ True) := by
        rcases hj with ⟨x1, x2, _⟩ | ⟨x1, x2, _⟩
        · exact .inl ⟨x1, x2, trivial⟩
        · exact .inr ⟨x1, x2, trivial⟩
      unfold first len
      generalize jm N = m at *
      generalize jday N = dd at *
      generalize jdd N = x at *
      generalize jc N = c at *
      generalize je N = e at *
      generalize jy N = y at *
      have hc : (yd ≤ 58 + (if k = 3 then 1 else 0) ∧ True ∧ 1461 * c / 4 = 1461 * (q + 1179) + 1461 * k / 4) ∨ (58 + (if k = 3 then 1 else 0) < yd ∧ True ∧ 1461 * c / 4 = 1461 * (q + 1179) + 1461 * (k + 1) / 4) := by
        rcases hcc with ⟨h5, h6⟩ | ⟨h5, h6⟩
        · exact .inl ⟨h5, trivial, by rw [h6]; exact c4 _ _⟩
        · exact .inr ⟨h5, trivial, by rw [h6]; exact c4 _ _⟩
      rcases hc with ⟨hc1, hc2, hc3⟩ | ⟨hc1, hc2, hc3⟩ <;> rw [hc3] at e2 <;> clear hc3 hc2 e3 hcc <;>
      rcases hk4 with rfl | rfl | rfl | rfl <;> simp only [if_true, decide_true, decide_false, Bool.false_eq_true, show ((0 : Int) = 3) = False by simp, show ((1 : Int) = 3) = False by simp, show ((2 : Int) = 3) = False by simp, if_false] at h1 hc1 ⊢ <;>
        rcases h15 with rfl | rfl | rfl | rfl | rfl | rfl | rfl | rfl | rfl | rfl | rfl | rfl <;>
        (rcases hj with ⟨_, rfl, _⟩ | ⟨_, rfl, _⟩) <;> first | (exfalso; omega) | (simp; omega)
    refine ⟨?_, key.2.2⟩
    exact (mo_uniq h0 (by rw [hln]; exact h1) hr.1 hr.2 key.1 key.2.1).symm

theorem jday_range (N : Int) : 1 ≤ jday N ∧ jday N ≤ jlen (jy N) (jm N) := by
  have hx : ∃ q k yd : Int, N + 1 = 1461 * q + 365 * k + yd ∧ 0 ≤ k ∧ k ≤ 3 ∧ 0 ≤ yd ∧ yd ≤ 364 + (if k = 3 then 1 else 0) := by
    by_cases h : (N + 1) % 1461 / 365 ≤ 2
    · exact ⟨(N + 1) / 1461, (N + 1) % 1461 / 365, (N + 1) % 1461 % 365, by omega, by omega, by omega, by omega, by rw [if_neg (by omega)]; omega⟩
    · exact ⟨(N + 1) / 1461, 3, (N + 1) % 1461 - 1095, by omega, by omega, by omega, by omega, by rw [if_pos rfl]; omega⟩
  obtain ⟨q, k, yd, h, hk, hk2, h0, h1⟩ := hx
  obtain ⟨a, b, c, d⟩ := j_core h hk hk2 h0 h1
  have hf := mo_fact (b := jleapB (4 * q + 1 + k)) h0 (by rw [b]; exact h1)
  unfold jlen
  rw [a]
  rw [← c] at hf
  omega
theorem jy_range {N : Int} (h : 1 ≤ N) (h2 : N < 3000000) : 0 ≤ jy N ∧ jy N < 10000 := by
  have hj := jm_cases N
  have e3 : jc N = (4 * (N + 1722949) - 489) / 1461 := rfl
  omega
theorem jlen_le (y m : Int) : jlen y m ≤ 31 := by unfold jlen len; split <;> (try split) <;> omega

-- s6
theorem retI {h₀ : Heap} {L : Addr} {m : Str → Option Value} {news : List (Addr × Obj)} {s : Shared} {Q : Value → Shared → Prop} {k k' : Int} {t : Tok} {h' : Heap} {tk' : Nat}
    (hret : Ret h₀ L m news s Q (fun t => .int k t)) (e : k' = k) (F : Fr h₀ L h' m) (N : News h₀ L h' news) : Q (.int k' t) { s with heap := h', toks := tk' } := by
  subst e
  exact hret t h' tk' F N
theorem jlb {y : Int} : (y.fmod 4 == 0) = jleapB y := rfl

theorem c_jleap {w mean mg mb} (y : Int) (t : Tok) (b : Bool) (hb : jleapB y = b) : Cl w 1 mean mg mb 79 [.int y t] (fun _ => .bool b) := by
  subst hb
  unfold Cl; k_fill; intros; rename_i hret
  refine wpAny_call ?_
  k_dflt cell_enter
  k_steps
  all_goals exact cb_retB hret jlb (by k_asm) (by first | k_asm | (refine' cb_drop ?cbN ?cbS; (case cbN => assumption); (case cbS => kcj_all)))

local macro_rules | `(tactic| walk_at "call ref") => `(tactic| (k_here; (with_reducible show wpAny _ _ (call (Value.ref 79) _) _ _ _); k_dflt (refine' c_jleap _ _ _ ?kb ?k1 ?k2 ?k3 ?k4 ?k5 ?k6 ?k7 ?k8 ?_; (case kb => first | assumption | exact rfl); (case k1 => k_asm); (case k2 => k_asm); (case k3 => k_asm); (case k4 => k_asm); (case k5 => k_asm); (case k6 => first | exact rfl | assumption); (case k7 => ktr_room); (case k8 => ktr_units); k_whole; intro t9 h9 tk9 F9 N9; (try dsimp only); (try k_fold))))

theorem jlen_cases (y m : Int) : (m = 2 ∧ jleapB y = true ∧ 29 = jlen y m) ∨ (m = 2 ∧ jleapB y = false ∧ 28 = jlen y m) ∨ (m ≠ 2 ∧ (m = 4 ∨ m = 6 ∨ m = 9 ∨ m = 11) ∧ 30 = jlen y m) ∨ (m ≠ 2 ∧ ¬ (m = 4 ∨ m = 6 ∨ m = 9 ∨ m = 11) ∧ 31 = jlen y m) := by
  unfold jlen len
  by_cases h2 : m = 2
  · rw [if_pos h2]
    cases jleapB y
    · exact .inr (.inl ⟨h2, rfl, rfl⟩)
    · exact .inl ⟨h2, rfl, rfl⟩
  · rw [if_neg h2]
    by_cases h3 : m = 4 ∨ m = 6 ∨ m = 9 ∨ m = 11
    · rw [if_pos h3]; exact .inr (.inr (.inl ⟨h2, h3, rfl⟩))
    · rw [if_neg h3]; exact .inr (.inr (.inr ⟨h2, h3, rfl⟩))

set_option maxHeartbeats 400000 in
theorem c_mlen {w mean mg mb} (y m : Int) (t1 t2 : Tok) : Cl w 2 mean mg mb 86 [.int y t1, .int m t2] (fun t => .int (jlen y m) t) := by
  have hc := jlen_cases y m
  unfold Cl; k_fill; intros; rename_i hret
  refine wpAny_call ?_
  k_dflt cell_enter
  rcases hc with ⟨h1, h2, h3⟩ | ⟨h1, h2, h3⟩ | ⟨h1, h2, h3⟩ | ⟨h1, h2, h3⟩
  all_goals k_steps
  all_goals exact retI hret (by assumption) (by k_asm) (by first | k_asm | (refine' cb_drop ?cbN ?cbS; (case cbN => assumption); (case cbS => kcj_all)))

local macro_rules | `(tactic| walk_at "call ref") => `(tactic| (k_here; (with_reducible show wpAny _ _ (call (Value.ref 86) _) _ _ _); k_dflt (refine' c_mlen _ _ _ _ ?k1 ?k2 ?k3 ?k4 ?k5 ?k6 ?k7 ?k8 ?_; (case k1 => k_asm); (case k2 => k_asm); (case k3 => k_asm); (case k4 => k_asm); (case k5 => k_asm); (case k6 => first | exact rfl | assumption); (case k7 => ktr_room); (case k8 => ktr_units); k_whole; intro t9 h9 tk9 F9 N9; (try dsimp only); (try k_fold))))

set_option maxHeartbeats 400000 in
theorem c_jlegal {w mean mg mb} (y m d : Int) (t1 t2 t3 : Tok) (hd0 : 0 < d) (hd1 : d ≤ jlen y m) : Cl w 3 mean mg mb 93 [.int y t1, .int m t2, .int d t3] (fun _ => .bool true) := by
  unfold Cl; k_fill; intros; rename_i hret
  refine wpAny_call ?_
  k_dflt cell_enter
  k_steps
  all_goals exact hret 0 _ _ (by k_asm) (by first | k_asm | (refine' cb_drop ?cbN ?cbS; (case cbN => assumption); (case cbS => kcj_all)))

local macro_rules | `(tactic| walk_at "call ref") => `(tactic| (k_here; (with_reducible show wpAny _ _ (call (Value.ref 93) _) _ _ _); k_dflt (refine' c_jlegal _ _ _ _ _ _ ?ka ?kb ?k1 ?k2 ?k3 ?k4 ?k5 ?k6 ?k7 ?k8 ?_; (case ka => first | assumption | decide | omega); (case kb => first | assumption | decide | omega); (case k1 => k_asm); (case k2 => k_asm); (case k3 => k_asm); (case k4 => k_asm); (case k5 => k_asm); (case k6 => first | exact rfl | assumption); (case k7 => ktr_room); (case k8 => ktr_units); k_whole; intro t9 h9 tk9 F9 N9; (try dsimp only); (try k_fold))))

theorem sub_1524 {n : Int} (hn : n.natAbs < 2 ^ 40) : Float64.sub (Float64.ofInt n) 4654419637352529920 = H (2 * n - 3049) := by rw [lit_1524]; exact sub_iH (by decide) (by omega)

local macro_rules | `(tactic| walk_at "binaryOp Mult float int") => `(tactic| (k_here; refine' r_mul_fi ?ka rfl ?_; (case ka => omega)))
local macro_rules | `(tactic| walk_at "binaryOp Sub int float") => `(tactic| (k_here; refine' r_sub_if ?ka ?ke ?_; (case ka => omega); (case ke => first | exact sub_1524 (by omega) | exact rfl)))
local macro_rules | `(tactic| walk_at "call builtin:math.floor") => `(tactic| (k_here; (with_reducible show wpAny _ _ (call _ [Value.float _ _]) _ _ _); refine' r_floor rfl ?ka ?_; (case ka => first | exact fl_mul365 (by omega) (by omega) | exact fl_mul306 (by omega) (by omega))))

set_option maxHeartbeats 400000 in
theorem c_jtojd {w mean mg mb} (y m d : Int) (t1 t2 t3 : Tok) (hy : 0 ≤ y) (hy2 : y < 100000) (hm : 1 ≤ m) (hm2 : m ≤ 12) (hd0 : 0 < d) (hd1 : d ≤ jlen y m) : Cl w 4 mean mg mb 107 [.int y t1, .int m t2, .int d t3] (fun t => .float (H (2 * jrd y m d + 3442849)) t) := by
  have hd2 := jlen_le y m
  have hc : (m ≤ 2 ∧ jrd y m d = 1461 * (y - 1 + 4716) / 4 + 306001 * (m + 12 + 1) / 10000 + d - 1722949) ∨ (2 < m ∧ jrd y m d = 1461 * (y + 4716) / 4 + 306001 * (m + 1) / 10000 + d - 1722949) := by
    unfold jrd
    by_cases h : m ≤ 2
    · rw [if_pos h, if_pos h]; exact .inl ⟨h, rfl⟩
    · rw [if_neg h, if_neg h]; exact .inr ⟨by omega, rfl⟩
  unfold Cl; k_fill; intros; rename_i hret
  refine wpAny_call ?_
  k_dflt cell_enter
  rcases hc with ⟨h1, h2⟩ | ⟨h1, h2⟩
  all_goals k_steps
  all_goals exact retF hret (by rw [h2]; omega) (by k_asm) (by first | k_asm | (refine' cb_drop ?cbN ?cbS; (case cbN => assumption); (case cbS => kcj_all)))

-- s7
theorem r_sub_to {prog : Program} {w : World} {A : Around} {E : Value → Shared → Prop} {s : Shared} {t u : Tok} {Q : Value → Shared → Prop} {a b c : Int} (e : a - b = c) (h : Q (.int c s.toks) { s with toks := s.toks + 1 }) : wpAny (model prog w) A (binaryOp .Sub (.int a t) (.int b u)) Q E s := by
  subst e; exact sub_int h
theorem iadd_half_W {N : Int} (hN : N.natAbs < 2 ^ 40) : Float64.add (H (2 * N + 3442849)) 4602678819172646912 = H (2 * (N + 1721425)) := by
  rw [lit_half, add_HH (by omega) (by decide)]; congr 1; omega
theorem fl_2 {a : Int} (ha : a.natAbs < 2 ^ 40) : Fl (H (2 * a)) a := by
  have h := fl_H (a := 2 * a) (by omega)
  rw [show 2 * a / 2 = a by omega] at h
  exact h
theorem fl_jc {N : Int} (h : 1 ≤ N) (h2 : N < 3000000) : Fl (Float64.div (Float64.sub (Float64.ofInt (N + 1722949)) 4638292440600962662) 4645133162144333824) (jc N) := fl_c (by omega) (by omega)
theorem fl_je (N : Int) : Fl (Float64.div (Float64.ofInt (jdd N)) 4629306380116972641) (je N) := fl_div306 (jdd_range N).1 (jdd_range N).2

local macro_rules | `(tactic| walk_at "binaryOp Sub int int") => `(tactic| (k_here; refine' r_sub_to ?ke ?_; (case ke => with_reducible assumption)))
local macro_rules | `(tactic| walk_at "inplaceOp Add float float") => `(tactic| (k_here; refine' r_iadd_ff ?ke ?_; (case ke => exact iadd_half_W (by omega))))
local macro_rules | `(tactic| walk_at "binaryOp Div float float") => `(tactic| (k_here; refine' r_div_ff rfl nz365 ?_))
local macro_rules | `(tactic| walk_at "binaryOp Div int float") => `(tactic| (k_here; refine' r_div_if rfl ?ka nz306 ?_; (case ka => omega)))
local macro_rules | `(tactic| walk_at "call builtin:math.floor") => `(tactic| (k_here; (with_reducible show wpAny _ _ (call _ [Value.float _ _]) _ _ _); refine' r_floor rfl ?ka ?_; (case ka => first | exact fl_2 (by omega) | exact fl_jc (by omega) (by omega) | exact fl_je _ | exact fl_mul365 (by omega) (by omega) | exact fl_mul306 (by omega) (by omega))))

set_option maxHeartbeats 1000000 in
theorem c_jfromjd {w mean mg mb} (k N : Int) (t1 : Tok) (hk : k = 2 * N + 3442849) (hN : 1 ≤ N) (hN2 : N < 3000000) : ClT w 4 mean mg mb 100 [.float (H k) t1] (jy N) (jm N) (jday N) := by
  subst hk
  have hb : N + 1721425 + 1524 = N + 1722949 := by omega
  have hc : jc N = (4 * (N + 1722949) - 489) / 1461 := rfl
  have hc2 : 0 ≤ jc N ∧ jc N < 100000 := by omega
  have hd : N + 1722949 - 1461 * jc N / 4 = jdd N := rfl
  have hd2 := jdd_range N
  have he := je_range N
  have hj : jdd N - 306001 * je N / 10000 = jday N := rfl
  have hm : (je N < 14 ∧ je N - 1 = jm N ∧ 2 < jm N ∧ jc N - 4716 = jy N) ∨ (¬ je N < 14 ∧ je N - 13 = jm N ∧ ¬ 2 < jm N ∧ jc N - 4715 = jy N) := by
    have h := jm_cases N
    omega
  clear hc
  unfold ClT; k_fill; intros; rename_i hret
  refine wpAny_call ?_
  k_dflt cell_enter
  rcases hm with ⟨h1, h2, h3, h4⟩ | ⟨h1, h2, h3, h4⟩
  all_goals k_steps
  all_goals exact hret _ _ _ _ _ _ (by k_asm) (by first | k_asm | (refine' cb_drop ?cbN ?cbS; (case cbN => assumption); (case cbS => kcj_all))) (by assumption)

-- s8
theorem retT {h₀ : Heap} {L : Addr} {m : Str → Option Value} {news news' : List (Addr × Obj)} {s : Shared} {Q : Value → Shared → Prop} {y mo d y' mo' d' : Int} {t1 t2 t3 : Tok} {a : Addr} {h' : Heap} {tk' : Nat}
    (hret : RetT h₀ L m news s Q y mo d) (e1 : y' = y) (e2 : mo' = mo) (e3 : d' = d) (F : Fr h₀ L h' m) (N : News h₀ L h' ((a, tup3 y' mo' d' t1 t2 t3) :: news')) (hs : ∀ p ∈ news, p ∈ (a, tup3 y' mo' d' t1 t2 t3) :: news') (hl : ∀ p ∈ news, p.1 < a) : Q (.ref a) { s with heap := h', toks := tk' } := by
  subst e1 e2 e3
  exact hret a t1 t2 t3 h' tk' F (fun p hp => N p (by
    rcases List.mem_cons.mp hp with rfl | hp
    · exact .head _
    · exact hs p hp)) hl

theorem mul_2H {a : Int} (ha : a.natAbs < 2 ^ 40) : Float64.mul (Float64.ofInt 2) (H a) = H (2 * a) := by
  rw [mul_comm' (by omega) (by decide), mul_H (by decide) (by omega) (by omega) (by decide)]; congr 1; omega
local macro_rules | `(tactic| walk_at "binaryOp Mult int float") => `(tactic| (k_here; refine' r_mul_if ?ka ?ke ?_; (case ka => omega); (case ke => exact mul_2H (by omega))))

set_option maxHeartbeats 400000 in
theorem c_day {w mean mg mb} (k N : Int) (t1 : Tok) (hk : k = 2 * N + 3442849) (hN : 1 ≤ N) (hN2 : N < 3000000) : Cl w 1 mean mg mb 212 [.float (H k) t1] (fun t => .int (N + 1721425) t) := by
  subst hk
  unfold Cl; k_fill; intros; rename_i hret
  refine wpAny_call ?_
  k_dflt cell_enter
  k_steps
  all_goals exact retI hret (by rw [fd _ (by decide)]; omega) (by k_asm) (by first | k_asm | (refine' cb_drop ?cbN ?cbS; (case cbN => assumption); (case cbS => kcj_all)))

theorem lo1 {y : Int} (h1 : y.fmod 400 = 0) : (y.fmod 400 == 0) = leapB y := by
  rw [show (y.fmod 400 == 0) = true by simp [h1], eq_comm, leapB_iff]
  rw [fm _ (by decide)] at h1
  omega
theorem lo2 {y : Int} (h1 : ¬ y.fmod 400 = 0) (h2 : ¬ y.fmod 4 = 0) : (y.fmod 4 == 0) = leapB y := by
  rw [show (y.fmod 4 == 0) = false by simp [h2], eq_comm, ← Bool.not_eq_true, leapB_iff]
  rw [fm _ (by decide)] at h1 h2
  omega
theorem lo3 {y : Int} (h1 : ¬ y.fmod 400 = 0) (h2 : y.fmod 4 = 0) : (y.fmod 100 != 0) = leapB y := by
  rw [Bool.eq_iff_iff, leapB_iff, bne_iff_ne]
  rw [fm _ (by decide)] at *
  omega

set_option maxHeartbeats 400000 in
theorem c_long {w mean mg mb} (y : Int) (t : Tok) : Cl w 1 mean mg mb 219 [.int y t] (fun _ => .bool (leapB y)) := by
  unfold Cl; k_fill; intros; rename_i hret
  refine wpAny_call ?_
  k_dflt cell_enter
  k_steps
  all_goals exact cb_retB hret (by first | exact lo1 (by assumption) | exact lo2 (by assumption) (by assumption) | exact lo3 (by assumption) (by assumption)) (by k_asm) (by first | k_asm | (refine' cb_drop ?cbN ?cbS; (case cbN => assumption); (case cbS => kcj_all)))


-- s9
theorem s29 : (if true = true then (29 : Int) else 28) = 29 := rfl
theorem s28 : (if false = true then (29 : Int) else 28) = 28 := rfl
theorem c_sizes {w : World} {mean : ExcName → Option Value} {mg mb : Str → Option Value} (b : Bool) (n : Int) (hn : (if b = true then 29 else 28) = n) :
  ∀ {dp un : Nat} {gd : Option (List Code)} {cn : Str} {cs : Scope} {a : Addr} {ccd : Value} {cl : List (Str × Addr)} {outer : List Env} {A₀ : Around} {base h₀ : Heap} {L : Addr} {m : Str → Option Value} {news : List (Addr × Obj)} {s : Shared} {Q E : Value → Shared → Prop},
    Below A₀ base outer h₀ → Fr h₀ L s.heap m → (hd.heap_39 w.params).In h₀ → News h₀ L s.heap news → Top hd.view_39 loose mean mg mb h₀ → cs.kind = .function → dp + 1 < recursionLimit → un + 8 * 1 < cLine →
    (∀ (a : Addr) (t1 t2 t3 t4 t5 t6 t7 t8 t9 t10 t11 t12 : Tok) (h' : Heap) (tk' : Nat), Fr h₀ L h' m → News h₀ L h' ((a, listOf #[.int 31 t1, .int n t2, .int 31 t3, .int 30 t4, .int 31 t5, .int 30 t6, .int 31 t7, .int 31 t8, .int 30 t9, .int 31 t10, .int 30 t11, .int 31 t12] 0) :: news) → (∀ p ∈ news, p.1 < a) → Q (.ref a) { s with heap := h', toks := tk' }) →
    wpAny (model PySem.Challenge.rw_ba5008_01.row.prog w) (ktrTop dp un gd cn cs L a ccd cl outer) (call (.ref 226) [.bool b]) Q E s := by
  subst hn
  k_fill; intros; rename_i hret
  refine wpAny_call ?_
  k_dflt cell_enter
  cases b
  all_goals k_steps
  all_goals exact hret _ _ _ _ _ _ _ _ _ _ _ _ _ _ _ (by k_asm) (by k_asm) (by assumption)

local macro_rules | `(tactic| walk_at "call ref") => `(tactic| (k_here; (with_reducible show wpAny _ _ (call (Value.ref 226) _) _ _ _); k_dflt (refine' c_sizes _ _ ?kn ?k1 ?k2 ?k3 ?k4 ?k5 ?k6 ?k7 ?k8 ?_; (case kn => first | exact s29 | exact s28); (case k1 => k_asm); (case k2 => k_asm); (case k3 => k_asm); (case k4 => k_asm); (case k5 => k_asm); (case k6 => first | exact rfl | assumption); (case k7 => ktr_room); (case k8 => ktr_units); k_whole; intro a9 u1 u2 u3 u4 u5 u6 u7 u8 u9 u10 u11 u12 h9 tk9 F9 N9 l9; (try k_lt l9); (try dsimp only); (try k_fold))))

theorem off_of {d : Addr} {l : List (Addr × Obj)} (h : AllLt d l) : ∀ p ∈ l, p.1 ≠ d := fun p hp => Nat.ne_of_lt (by
  induction l with
  | nil => cases hp
  | cons q r ih =>
    rcases List.mem_cons.mp hp with rfl | hp
    · exact h.1
    · exact ih h.2 hp)

local macro_rules | `(tactic| walk_at "pyIter ref") => `(tactic| (k_here; (with_reducible show wpAny _ _ (pyIter (Value.ref _)) (fun it s₂ => LoopAtV _ _ _ _ _ _ _ _ _ it s₂) _ _); (rename Fr _ _ _ _ => lF'); (rename News _ _ _ _ => lN'); (with_unfolding_all refine' iter_listUnr ?ka lF' lN' ?km ?kc ?kd ?_; (case ka => rfl); (case km => k_mem); (case kc => rfl); (case kd => rfl)); clear lF'; intro i' l1; (try k_lt l1)))
local macro_rules | `(tactic| walk_at "UnrEnd") => `(tactic| (k_here; refine' UnrEnd.intro ?F ?N _ (fun _ h => h) ?off ⟨?mem, ?_⟩; (case F => k_asm); (case N => k_asm); (case off => exact off_of (by assumption)); (case mem => k_mem)))

theorem wi_ret {h₀ : Heap} {L : Addr} {m : Str → Option Value} {news news' : List (Addr × Obj)} {s : Shared} {Q : Value → Shared → Prop} {y mo' d' r : Int} {b : Bool} {t1 t2 t3 : Tok} {a : Addr} {h' : Heap} {tk' : Nat} (n c l : Int)
    (N : News h₀ L h' ((a, tup3 y mo' d' t1 t2 t3) :: news')) (F : Fr h₀ L h' m) (hret : RetT h₀ L m news s Q y (mo b r) (r - first b (mo b r) + 1)) (h0 : 0 ≤ r) (h1 : r ≤ 364 + lnum b) (e2 : mo' = n) (hn : 1 ≤ n) (hn2 : n ≤ 12) (hc : first b n = c) (hl : len b n = l) (h2 : c ≤ r) (h3 : r < c + l) (e3 : d' = r - c + 1)
    (hs : ∀ p ∈ news, p ∈ (a, tup3 y mo' d' t1 t2 t3) :: news') (hlt : ∀ p ∈ news, p.1 < a) : Q (.ref a) { s with heap := h', toks := tk' } := by
  have hm : mo b r = n := mo_uniq h0 h1 hn hn2 (by rw [hc]; exact h2) (by rw [hc, hl]; exact h3)
  refine retT hret rfl (e2.trans hm.symm) ?_ F N hs hlt
  rw [hm, hc]
  exact e3

set_option maxHeartbeats 1000000 in
theorem c_within {w mean mg mb} (y r : Int) (b : Bool) (t1 t2 : Tok) (h0 : 0 ≤ r) (h1 : r ≤ 364 + lnum b) : ClT w 4 mean mg mb 233 [.int y t1, .int r t2, .bool b] y (mo b r) (r - first b (mo b r) + 1) := by
  unfold ClT; k_fill; intros; rename_i hret
  refine wpAny_call ?_
  k_dflt cell_enter
  cases b
  · have h2 : r ≤ 364 := h1
    k_steps
    · rename News _ _ _ _ => kN9
      exact wi_ret 1 0 31 kN9 (by k_asm) hret h0 h1 (by decide) (by decide) (by decide) rfl rfl (by omega) (by omega) (by omega) (fun _ hp => List.Mem.tail _ (List.Mem.tail _ (List.Mem.tail _ hp))) (ktn_ltOf (And.right (And.right (by with_reducible assumption))))
    · rename News _ _ _ _ => kN9
      exact wi_ret 2 31 28 kN9 (by k_asm) hret h0 h1 (by decide) (by decide) (by decide) rfl rfl (by omega) (by omega) (by omega) (fun _ hp => List.Mem.tail _ (List.Mem.tail _ (List.Mem.tail _ hp))) (ktn_ltOf (And.right (And.right (by with_reducible assumption))))
    · rename News _ _ _ _ => kN9
      exact wi_ret 3 59 31 kN9 (by k_asm) hret h0 h1 (by decide) (by decide) (by decide) rfl rfl (by omega) (by omega) (by omega) (fun _ hp => List.Mem.tail _ (List.Mem.tail _ (List.Mem.tail _ hp))) (ktn_ltOf (And.right (And.right (by with_reducible assumption))))
    · rename News _ _ _ _ => kN9
      exact wi_ret 4 90 30 kN9 (by k_asm) hret h0 h1 (by decide) (by decide) (by decide) rfl rfl (by omega) (by omega) (by omega) (fun _ hp => List.Mem.tail _ (List.Mem.tail _ (List.Mem.tail _ hp))) (ktn_ltOf (And.right (And.right (by with_reducible assumption))))
    · rename News _ _ _ _ => kN9
      exact wi_ret 5 120 31 kN9 (by k_asm) hret h0 h1 (by decide) (by decide) (by decide) rfl rfl (by omega) (by omega) (by omega) (fun _ hp => List.Mem.tail _ (List.Mem.tail _ (List.Mem.tail _ hp))) (ktn_ltOf (And.right (And.right (by with_reducible assumption))))
    · rename News _ _ _ _ => kN9
      exact wi_ret 6 151 30 kN9 (by k_asm) hret h0 h1 (by decide) (by decide) (by decide) rfl rfl (by omega) (by omega) (by omega) (fun _ hp => List.Mem.tail _ (List.Mem.tail _ (List.Mem.tail _ hp))) (ktn_ltOf (And.right (And.right (by with_reducible assumption))))
    · rename News _ _ _ _ => kN9
      exact wi_ret 7 181 31 kN9 (by k_asm) hret h0 h1 (by decide) (by decide) (by decide) rfl rfl (by omega) (by omega) (by omega) (fun _ hp => List.Mem.tail _ (List.Mem.tail _ (List.Mem.tail _ hp))) (ktn_ltOf (And.right (And.right (by with_reducible assumption))))
    · rename News _ _ _ _ => kN9
      exact wi_ret 8 212 31 kN9 (by k_asm) hret h0 h1 (by decide) (by decide) (by decide) rfl rfl (by omega) (by omega) (by omega) (fun _ hp => List.Mem.tail _ (List.Mem.tail _ (List.Mem.tail _ hp))) (ktn_ltOf (And.right (And.right (by with_reducible assumption))))
    · rename News _ _ _ _ => kN9
      exact wi_ret 9 243 30 kN9 (by k_asm) hret h0 h1 (by decide) (by decide) (by decide) rfl rfl (by omega) (by omega) (by omega) (fun _ hp => List.Mem.tail _ (List.Mem.tail _ (List.Mem.tail _ hp))) (ktn_ltOf (And.right (And.right (by with_reducible assumption))))
    · rename News _ _ _ _ => kN9
      exact wi_ret 10 273 31 kN9 (by k_asm) hret h0 h1 (by decide) (by decide) (by decide) rfl rfl (by omega) (by omega) (by omega) (fun _ hp => List.Mem.tail _ (List.Mem.tail _ (List.Mem.tail _ hp))) (ktn_ltOf (And.right (And.right (by with_reducible assumption))))
    · rename News _ _ _ _ => kN9
      exact wi_ret 11 304 30 kN9 (by k_asm) hret h0 h1 (by decide) (by decide) (by decide) rfl rfl (by omega) (by omega) (by omega) (fun _ hp => List.Mem.tail _ (List.Mem.tail _ (List.Mem.tail _ hp))) (ktn_ltOf (And.right (And.right (by with_reducible assumption))))
    · rename News _ _ _ _ => kN9
      exact wi_ret 12 334 31 kN9 (by k_asm) hret h0 h1 (by decide) (by decide) (by decide) rfl rfl (by omega) (by omega) (by omega) (fun _ hp => List.Mem.tail _ (List.Mem.tail _ (List.Mem.tail _ hp))) (ktn_ltOf (And.right (And.right (by with_reducible assumption))))
  · have h2 : r ≤ 365 := h1
    k_steps
    · rename News _ _ _ _ => kN9
      exact wi_ret 1 0 31 kN9 (by k_asm) hret h0 h1 (by decide) (by decide) (by decide) rfl rfl (by omega) (by omega) (by omega) (fun _ hp => List.Mem.tail _ (List.Mem.tail _ (List.Mem.tail _ hp))) (ktn_ltOf (And.right (And.right (by with_reducible assumption))))
    · rename News _ _ _ _ => kN9
      exact wi_ret 2 31 29 kN9 (by k_asm) hret h0 h1 (by decide) (by decide) (by decide) rfl rfl (by omega) (by omega) (by omega) (fun _ hp => List.Mem.tail _ (List.Mem.tail _ (List.Mem.tail _ hp))) (ktn_ltOf (And.right (And.right (by with_reducible assumption))))
    · rename News _ _ _ _ => kN9
      exact wi_ret 3 60 31 kN9 (by k_asm) hret h0 h1 (by decide) (by decide) (by decide) rfl rfl (by omega) (by omega) (by omega) (fun _ hp => List.Mem.tail _ (List.Mem.tail _ (List.Mem.tail _ hp))) (ktn_ltOf (And.right (And.right (by with_reducible assumption))))
    · rename News _ _ _ _ => kN9
      exact wi_ret 4 91 30 kN9 (by k_asm) hret h0 h1 (by decide) (by decide) (by decide) rfl rfl (by omega) (by omega) (by omega) (fun _ hp => List.Mem.tail _ (List.Mem.tail _ (List.Mem.tail _ hp))) (ktn_ltOf (And.right (And.right (by with_reducible assumption))))
    · rename News _ _ _ _ => kN9
      exact wi_ret 5 121 31 kN9 (by k_asm) hret h0 h1 (by decide) (by decide) (by decide) rfl rfl (by omega) (by omega) (by omega) (fun _ hp => List.Mem.tail _ (List.Mem.tail _ (List.Mem.tail _ hp))) (ktn_ltOf (And.right (And.right (by with_reducible assumption))))
    · rename News _ _ _ _ => kN9
      exact wi_ret 6 152 30 kN9 (by k_asm) hret h0 h1 (by decide) (by decide) (by decide) rfl rfl (by omega) (by omega) (by omega) (fun _ hp => List.Mem.tail _ (List.Mem.tail _ (List.Mem.tail _ hp))) (ktn_ltOf (And.right (And.right (by with_reducible assumption))))
    · rename News _ _ _ _ => kN9
      exact wi_ret 7 182 31 kN9 (by k_asm) hret h0 h1 (by decide) (by decide) (by decide) rfl rfl (by omega) (by omega) (by omega) (fun _ hp => List.Mem.tail _ (List.Mem.tail _ (List.Mem.tail _ hp))) (ktn_ltOf (And.right (And.right (by with_reducible assumption))))
    · rename News _ _ _ _ => kN9
      exact wi_ret 8 213 31 kN9 (by k_asm) hret h0 h1 (by decide) (by decide) (by decide) rfl rfl (by omega) (by omega) (by omega) (fun _ hp => List.Mem.tail _ (List.Mem.tail _ (List.Mem.tail _ hp))) (ktn_ltOf (And.right (And.right (by with_reducible assumption))))
    · rename News _ _ _ _ => kN9
      exact wi_ret 9 244 30 kN9 (by k_asm) hret h0 h1 (by decide) (by decide) (by decide) rfl rfl (by omega) (by omega) (by omega) (fun _ hp => List.Mem.tail _ (List.Mem.tail _ (List.Mem.tail _ hp))) (ktn_ltOf (And.right (And.right (by with_reducible assumption))))
    · rename News _ _ _ _ => kN9
      exact wi_ret 10 274 31 kN9 (by k_asm) hret h0 h1 (by decide) (by decide) (by decide) rfl rfl (by omega) (by omega) (by omega) (fun _ hp => List.Mem.tail _ (List.Mem.tail _ (List.Mem.tail _ hp))) (ktn_ltOf (And.right (And.right (by with_reducible assumption))))
    · rename News _ _ _ _ => kN9
      exact wi_ret 11 305 30 kN9 (by k_asm) hret h0 h1 (by decide) (by decide) (by decide) rfl rfl (by omega) (by omega) (by omega) (fun _ hp => List.Mem.tail _ (List.Mem.tail _ (List.Mem.tail _ hp))) (ktn_ltOf (And.right (And.right (by with_reducible assumption))))
    · rename News _ _ _ _ => kN9
      exact wi_ret 12 335 31 kN9 (by k_asm) hret h0 h1 (by decide) (by decide) (by decide) rfl rfl (by omega) (by omega) (by omega) (fun _ hp => List.Mem.tail _ (List.Mem.tail _ (List.Mem.tail _ hp))) (ktn_ltOf (And.right (And.right (by with_reducible assumption))))

-- s10
def Hold (P : Prop) : Prop := P
theorem hold {P : Prop} (h : Hold P) : P := h

def TwoPost (h₀ : Heap) (L : Addr) (m₀ : Str → Option Value) (x ya yb : Str) (J : Int → Int → Prop) (need : List (Addr × Obj)) (s₁ : Shared) (Q : Flow → Shared → Prop) (f : Flow) (s₂ : Shared) : Prop :=
  match f with
  | .ret v => Q (.ret v) s₂
  | .brk => Q .next s₂
  | _ => ∃ h' tk m' a b ta tb, s₂ = { s₁ with heap := h', toks := tk } ∧ Fr h₀ L h' m' ∧ News h₀ L h' need ∧ m' ya = some (.int a ta) ∧ m' yb = some (.int b tb) ∧ (∀ z, z ≠ x → z ≠ ya → z ≠ yb → m' z = m₀ z) ∧ J a b

section
variable {prog : Program} {w : World} {A : Around} {E : Value → Shared → Prop} {s : Shared} {env : Env} {h₀ : Heap} {x : Str} {body : List Stmt} {Q : Flow → Shared → Prop}
abbrev mTwo (x ya yb : Str) (u : Option Value) (a b : Int) (ta tb : Tok) (m₀ : Str → Option Value) : Str → Option Value := fun z => if z = x then u else if z = ya then some (.int a ta) else if z = yb then some (.int b tb) else m₀ z

theorem mTwo_eq {x ya yb : Str} {a b : Int} {ta tb : Tok} {m₀ m' : Str → Option Value} (hxa : ya ≠ x) (hxb : yb ≠ x) (hab : ya ≠ yb) (ha : m' ya = some (.int a ta)) (hb : m' yb = some (.int b tb)) (hz : ∀ z, z ≠ x → z ≠ ya → z ≠ yb → m' z = m₀ z) :
    m' = mTwo x ya yb (m' x) a b ta tb m₀ := by
  funext z
  unfold mTwo
  by_cases h1 : z = x
  · rw [if_pos h1, h1]
  · rw [if_neg h1]
    by_cases h2 : z = ya
    · rw [if_pos h2, h2, ha]
    · rw [if_neg h2]
      by_cases h3 : z = yb
      · rw [if_pos h3, h3, hb]
      · rw [if_neg h3, hz z h1 h2 h3]

theorem iter_rangeTwo {r : Addr} {a₀ b₀ : Int} {t₀ u₀ v₀ : Tok} {n : Nat} {m₀ : Str → Option Value} {news : List (Addr × Obj)} {a b : Int} {ta tb : Tok} (ya yb : Str) (J : Nat → Int → Int → Prop)
    (hh : A.handled = none) (hr : IsRange s.heap r a₀ b₀ 1 t₀ u₀ v₀) (hsmall : Builtin.Range.small a₀ b₀ 1 = true) (hn : Builtin.Range.rangeSize a₀ b₀ 1 = (n : Int)) (F : Fr h₀ env.locals s.heap m₀) (N : News h₀ env.locals s.heap news)
    (hxa : ya ≠ x) (hxb : yb ≠ x) (hab : ya ≠ yb) (ha : m₀ ya = some (.int a ta)) (hb : m₀ yb = some (.int b tb)) (hJ : J 0 a b)
    (turn : ∀ (i : Nat) (a b : Int) (u : Option Value) (ta tb : Tok) (I : Addr) (it : Obj) (h : Heap) (tk : Nat), i < n → J i a b → Fr h₀ env.locals h (mTwo x ya yb u a b ta tb m₀) → News h₀ env.locals h ((I, it) :: news) →
      wpAny (model prog w) A (execs body env) (TwoPost h₀ env.locals m₀ x ya yb (J (i + 1)) ((I, it) :: news) { s with heap := h, toks := tk } Q) E { s with heap := h, toks := tk })
    (done : ∀ (a b : Int) (u : Option Value) (ta tb : Tok) (h : Heap) (tk : Nat), J n a b → Fr h₀ env.locals h (mTwo x ya yb u a b ta tb m₀) → News h₀ env.locals h news → Q .next { s with heap := h, toks := tk }) :
    wpAny (model prog w) A (pyIter (.ref r)) (fun it s₂ => LoopAtV prog w A h₀ env x body Q E it s₂) E s := by
  refine iter_rangeUnr hh hr hsmall hn F N fun I hI => ?_
  have key : ∀ k i a b u ta tb, k + i = n → J i a b → RangeRest prog w A E h₀ env x body Q s I a₀ n k i (mTwo x ya yb u a b ta tb m₀) news := by
    intro k
    induction k with
    | zero =>
      intro i a b u ta tb hk hj
      refine RangeRest.zero fun h tk F₁ N₁ => done a b u ta tb h tk ?_ F₁ N₁
      rw [← hk, Nat.zero_add]
      exact hj
    | succ k ih =>
      intro i a b u ta tb hk hj
      refine RangeRest.succ fun t h tk F₁ N₁ => ?_
      have e : (fun y => if y = x then some (Value.int (a₀ + (i : Int)) t) else mTwo x ya yb u a b ta tb m₀ y) = mTwo x ya yb (some (.int (a₀ + (i : Int)) t)) a b ta tb m₀ := by
        funext z
        unfold mTwo
        by_cases h1 : z = x
        · rw [if_pos h1, if_pos h1]
        · rw [if_neg h1, if_neg h1, if_neg h1]
      rw [e] at F₁
      refine wpAny_mono (turn i a b _ ta tb I _ h tk (by omega) hj F₁ N₁) (fun f s₂ p => ?_) fun _ _ e => e
      have fin : (∃ h' tk' m' a b ta tb, s₂ = { ({ s with heap := h, toks := tk } : Shared) with heap := h', toks := tk' } ∧ Fr h₀ env.locals h' m' ∧ News h₀ env.locals h' ((I, itR (a₀ + ((i + 1 : Nat) : Int)) ((n : Int) - ((i + 1 : Nat) : Int))) :: news) ∧ m' ya = some (.int a ta) ∧ m' yb = some (.int b tb) ∧ (∀ z, z ≠ x → z ≠ ya → z ≠ yb → m' z = m₀ z) ∧ J (i + 1) a b) →
          UnrEnd h₀ env.locals { s with heap := h, toks := tk } I (itR (a₀ + ((i + 1 : Nat) : Int)) ((n : Int) - ((i + 1 : Nat) : Int))) (RangeRest prog w A E h₀ env x body Q s I a₀ n k (i + 1)) s₂ := by
        rintro ⟨h', tk', m', a', b', ta', tb', e', F', N', e1, e2, e3, hj'⟩
        refine ⟨h', tk', m', news, e', F', N', fun p hp => Nat.ne_of_lt (hI p hp), ?_⟩
        rw [mTwo_eq hxa hxb hab e1 e2 e3]
        exact ih (i + 1) a' b' _ ta' tb' (by omega) hj'
      cases f with
      | ret v => exact p
      | brk => exact p
      | next => exact fin p
      | cont => exact fin p
  rw [mTwo_eq (m₀ := m₀) hxa hxb hab ha hb (fun _ _ _ _ => rfl)]
  exact key n 0 a b _ ta tb rfl hJ
end
def JS (C D r0 y0 : Int) (i : Nat) (r y : Int) : Prop := ∃ j : Int, 0 ≤ j ∧ j ≤ i ∧ r = r0 - C * j ∧ y = y0 + D * j ∧ 0 ≤ r ∧ (j < i → r < C)
theorem JS_0 {C D r0 y0 : Int} (h : 0 ≤ r0) : JS C D r0 y0 0 r0 y0 := ⟨0, by omega, by omega, by simp, by simp, h, fun h => by omega⟩
theorem JS_yes {C D r0 y0 r y : Int} {i : Nat} (h : JS C D r0 y0 i r y) (hc : C ≤ r) : JS C D r0 y0 (i + 1) (r - C) (y + D) := by
  obtain ⟨j, h0, h1, h2, h3, h4, h5⟩ := h
  refine ⟨j + 1, by omega, by omega, ?_, ?_, by omega, fun h => ?_⟩
  · rw [Int.mul_add, Int.mul_one]; omega
  · rw [Int.mul_add, Int.mul_one]; omega
  · have := h5 (by omega); omega
theorem JS_no {C D r0 y0 r y : Int} {i : Nat} (h : JS C D r0 y0 i r y) (hc : ¬ C ≤ r) : JS C D r0 y0 (i + 1) r y := by
  obtain ⟨j, h0, h1, h2, h3, h4, h5⟩ := h
  exact ⟨j, by omega, by omega, h2, h3, h4, fun _ => by omega⟩
theorem two_end {h₀ : Heap} {L : Addr} {m₀ m' : Str → Option Value} {x ya yb : Str} {J : Int → Int → Prop} {need : List (Addr × Obj)} {s₁ : Shared} {Q : Flow → Shared → Prop} {h' : Heap} {tk : Nat} {a b : Int} {ta tb : Tok}
    (F : Fr h₀ L h' m') (N : News h₀ L h' need) (ha : m' ya = some (.int a ta)) (hb : m' yb = some (.int b tb)) (hz : ∀ z, z ≠ x → z ≠ ya → z ≠ yb → m' z = m₀ z) (hj : J a b) : TwoPost h₀ L m₀ x ya yb J need s₁ Q .next { s₁ with heap := h', toks := tk } :=
  ⟨h', tk, m', a, b, ta, tb, rfl, F, N, ha, hb, hz, hj⟩

-- s11
local macro_rules | `(tactic| walk_at "pyIter ref") => `(tactic| (k_here; (with_reducible show wpAny _ _ (pyIter (Value.ref _)) (fun it s₂ => LoopAtV _ _ _ _ _ _ _ _ _ it s₂) _ _); refine hold ?_))
local macro_rules | `(tactic| walk_at "call ref") => `(tactic| (k_here; (with_reducible show wpAny _ _ (call (Value.ref 219) _) _ _ _); k_dflt (refine' c_long _ _ ?k1 ?k2 ?k3 ?k4 ?k5 ?k6 ?k7 ?k8 ?_; (case k1 => k_asm); (case k2 => k_asm); (case k3 => k_asm); (case k4 => k_asm); (case k5 => k_asm); (case k6 => first | exact rfl | assumption); (case k7 => ktr_room); (case k8 => ktr_units); k_whole; intro t9 h9 tk9 F9 N9; (try dsimp only); (try k_fold))))
local macro_rules | `(tactic| walk_at "call ref") => `(tactic| (k_here; (with_reducible show wpAny _ _ (call (Value.ref 233) _) _ _ _); k_dflt (refine' c_within _ _ _ _ _ ?ka ?kb ?k1 ?k2 ?k3 ?k4 ?k5 ?k6 ?k7 ?k8 ?_; (case ka => first | assumption | omega); (case kb => first | assumption | omega); (case k1 => k_asm); (case k2 => k_asm); (case k3 => k_asm); (case k4 => k_asm); (case k5 => k_asm); (case k6 => first | exact rfl | assumption); (case k7 => ktr_room); (case k8 => ktr_units); k_whole; intro a9 u9 v9 w9 h9 tk9 F9 N9 l9; (try k_lt l9); (try dsimp only); (try k_fold))))

set_option maxHeartbeats 1000000 in
theorem c_lawjul {w mean mg mb} (k N : Int) (t1 : Tok) (hk : k = N + 1721425) (hN : 1 ≤ N) (hN2 : N < 3000000) : ClT w 6 mean mg mb 247 [.int k t1] (jy N) (jm N) (jday N) := by
  subst hk
  unfold ClT; k_fill; intros; rename_i hret
  refine wpAny_call ?_
  k_dflt cell_enter
  k_steps
  unfold Hold
  rename IsRange _ _ _ _ _ _ _ _ => R9
  rename Fr _ _ _ _ => F9
  rename News _ _ _ _ => N9
  refine iter_rangeTwo (n := 3) (Str.ofString "rest") (Str.ofString "year") (JS 365 1 _ _) rfl R9 (by decide) (by decide) F9 N9 (by decide) (by decide) (by decide) (by rfl) (by rfl) (JS_0 ?hr) ?turn ?done
  case hr => rw [fm _ (by decide)]; omega
  case turn =>
    clear F9 N9
    intro i a b u ta tb I it h tk hi hj F9 N9
    k_steps
    · exact two_end (by k_asm) (by k_asm) (by rfl) (by rfl) (by intro z h1 h2 h3; simp only [mTwo, h1, h2, h3, if_false]) (JS_yes hj (by omega))
    · exact two_end (by k_asm) (by k_asm) (by rfl) (by rfl) (by intro z h1 h2 h3; simp only [mTwo, h1, h2, h3, if_false]) (JS_no hj (by omega))
  case done =>
    clear F9 N9
    intro a b u ta tb h tk hj F9 N9
    obtain ⟨j, j0, j1, j2, j3, j4, j5⟩ := hj
    rw [fm _ (by decide)] at j2
    rw [fd _ (by decide)] at j3
    have hb : a ≤ 364 + (if j = 3 then 1 else 0) := by
      by_cases h3 : j = 3
      · rw [if_pos h3]; omega
      · rw [if_neg h3]; omega
    have hc := j_core (N := N) (q := (N + 1) / 1461) (k := j) (yd := a) (by omega) j0 (by omega) j4 hb
    rw [show 4 * ((N + 1) / 1461) + 1 + j = b by omega] at hc
    have hb2 : a ≤ 364 + lnum (b.fmod 4 == 0) := by rw [jlb, hc.2.1]; exact hb
    dsimp only
    k_steps
    rename News _ _ _ _ => kN9
    exact retT hret hc.1.symm hc.2.2.1.symm (by rw [hc.2.2.2, hc.2.2.1]; rfl) (by k_asm) kN9 (by first | exact fun _ hp => .tail _ hp | exact fun _ hp => .tail _ (.tail _ hp) | exact fun _ hp => .tail _ (.tail _ (.tail _ hp))) (by first | with_reducible assumption | exact ktn_ltOf (by with_reducible assumption) | exact ktn_ltOf (And.right (by with_reducible assumption)) | exact ktn_ltOf (And.right (And.right (by with_reducible assumption))))

-- g3
theorem y_lt {y z N : Int} (h1 : N - yst y ≤ 364 + lnum (leapB y)) (h2 : 0 ≤ N - yst z) (hl : y < z) : False := by
  have hln : lnum (leapB y) ≤ 1 := (lnum_0 _).2
  by_cases hb : leapB y = true
  · have h := (leapB_iff y).mp hb
    unfold yst at *
    omega
  · have h : ¬ (y % 4 = 0 ∧ (y % 100 ≠ 0 ∨ y % 400 = 0)) := fun h => hb ((leapB_iff y).mpr h)
    have hl0 : lnum (leapB y) = 0 := by cases hx : leapB y <;> simp_all [lnum]
    unfold yst at *
    omega
theorem y_uniq {y z N : Int} (h1 : 0 ≤ N - yst y ∧ N - yst y ≤ 364 + lnum (leapB y)) (h2 : 0 ≤ N - yst z ∧ N - yst z ≤ 364 + lnum (leapB z)) : y = z := by
  rcases Int.lt_trichotomy y z with h | h | h
  · exact (y_lt h1.2 h2.1 h).elim
  · exact h
  · exact (y_lt h2.2 h1.1 h).elim
theorem leap_a {Q j1 j2 y : Int} (hy : y = 400 * Q + 100 * j1 + 4 * j2) (h1 : 1 ≤ j2) (h2 : j2 ≤ 24) : leapB y = true := by
  refine (leapB_iff y).mpr ⟨by omega, .inl ?_⟩
  have : y % 100 = 4 * j2 := by omega
  omega
theorem leap_b {Q y : Int} (hy : y = 400 * Q) : leapB y = true := (leapB_iff y).mpr ⟨by omega, .inr (by omega)⟩
theorem g_fin {N j1 j2 j3 r1 r2 r3 y : Int} (a0 : 0 ≤ j1) (a1 : j1 ≤ 3) (a2 : r1 = (N - 1) % 146097 - 36524 * j1) (a3 : 0 ≤ r1) (a4 : j1 < 3 → r1 < 36524)
    (b0 : 0 ≤ j2) (b1 : j2 ≤ 24) (b2 : r2 = r1 - 1461 * j2) (b3 : 0 ≤ r2) (b4 : j2 < 24 → r2 < 1461)
    (c0 : 0 ≤ j3) (c1 : j3 ≤ 3) (c2 : r3 = r2 - 365 * j3) (c3 : 0 ≤ r3) (c4 : j3 < 3 → r3 < 365) (hy : y = 400 * ((N - 1) / 146097) + 1 + 100 * j1 + 4 * j2 + j3) :
    y = gy N ∧ r3 = gx N ∧ r3 ≤ 364 + lnum (leapB y) := by
  have hq : y - 1 = 400 * ((N - 1) / 146097) + 100 * j1 + 4 * j2 + j3 := by omega
  have hx : N - yst y = r3 := by
    have h1 : N - 1 = 146097 * ((N - 1) / 146097) + 36524 * j1 + 1461 * j2 + 365 * j3 + r3 := by omega
    generalize (N - 1) / 146097 = Q at *
    clear a2 a3 a4 b2 b3 b4 c2 c3 c4 hy
    have d1 : (y - 1) / 4 = 100 * Q + 25 * j1 + j2 := by omega
    have d2 : (y - 1) / 100 = 4 * Q + j1 := by omega
    have d3 : (y - 1) / 400 = Q := by omega
    unfold yst
    rw [d1, d2, d3]
    omega
  have hu : r3 ≤ 364 + lnum (leapB y) := by
    have hl := lnum_0 (leapB y)
    have l1 : lnum true = 1 := rfl
    have hr0 : (N - 1) % 146097 < 146097 := by omega
    generalize (N - 1) % 146097 = r0 at *
    generalize (N - 1) / 146097 = Q at *
    by_cases h : r3 ≤ 364
    · omega
    · have e3 : j3 = 3 := by
        by_cases h3 : j3 < 3
        · have := c4 h3; omega
        · omega
      by_cases h2 : j2 < 24
      · have h5 := b4 h2
        rw [leap_a (Q := Q) (j1 := j1) (j2 := j2 + 1) (y := y) (by omega) (by omega) (by omega)]
        omega
      · have e2 : j2 = 24 := by omega
        by_cases h1 : j1 < 3
        · have := a4 h1; omega
        · rw [leap_b (Q := Q + 1) (y := y) (by omega)]
          omega
  have hg := y_uniq (N := N) (y := y) (z := gy N) ⟨by omega, by omega⟩ (gx_fact N)
  refine ⟨hg, ?_, hu⟩
  unfold gx
  rw [← hg]
  exact hx.symm

-- s12
set_option maxHeartbeats 2000000 in
theorem c_lawgreg {w mean mg mb} (k N : Int) (t1 : Tok) (hk : k = N + 1721425) (hN : 1 ≤ N) (hN2 : N < 3000000) : ClT w 6 mean mg mb 240 [.int k t1] (gy N) (gm N) (gd N) := by
  subst hk
  unfold ClT; k_fill; intros; rename_i hret
  refine wpAny_call ?_
  k_dflt cell_enter
  k_steps
  unfold Hold
  rename IsRange _ _ _ _ _ _ _ _ => R9
  rename Fr _ _ _ _ => F9
  rename News _ _ _ _ => N9
  refine iter_rangeTwo (n := 3) (Str.ofString "rest") (Str.ofString "year") (JS 36524 100 _ _) rfl R9 (by decide) (by decide) F9 N9 (by decide) (by decide) (by decide) (by rfl) (by rfl) (JS_0 ?hr) ?turn ?done
  case hr => rw [fm _ (by decide)]; omega
  case turn =>
    try clear F9 N9
    intro i a b u ta tb I it h tk hi hj F9 N9
    k_steps
    · exact two_end (by k_asm) (by k_asm) (by rfl) (by rfl) (by intro z h1 h2 h3; simp only [mTwo, h1, h2, h3, if_false]) (JS_yes hj (by omega))
    · exact two_end (by k_asm) (by k_asm) (by rfl) (by rfl) (by intro z h1 h2 h3; simp only [mTwo, h1, h2, h3, if_false]) (JS_no hj (by omega))
  case done =>
    clear F9 N9 R9
    intro a b u ta tb h tk hj F9 N9
    obtain ⟨j1, a0, a1, a2, a5, a3, a4⟩ := hj
    rw [fm _ (by decide)] at a2
    rw [fd _ (by decide)] at a5
    dsimp only
    k_steps
    unfold Hold
    try clear F9 N9
    rename IsRange _ _ _ _ _ _ _ _ => R9
    rename Fr _ _ _ _ => F9
    rename News _ _ _ _ => N9
    refine iter_rangeTwo (n := 24) (Str.ofString "rest") (Str.ofString "year") (JS 1461 4 _ _) rfl R9 (by decide) (by decide) F9 N9 (by decide) (by decide) (by decide) (by rfl) (by rfl) (JS_0 a3) ?turn ?done
    case turn =>
      try clear F9 N9
      intro i a b u ta tb I it h tk hi hj F9 N9
      k_steps
      · exact two_end (by k_asm) (by k_asm) (by rfl) (by rfl) (by intro z h1 h2 h3; simp only [mTwo, h1, h2, h3, if_false]) (JS_yes hj (by omega))
      · exact two_end (by k_asm) (by k_asm) (by rfl) (by rfl) (by intro z h1 h2 h3; simp only [mTwo, h1, h2, h3, if_false]) (JS_no hj (by omega))
    case done =>
      clear F9 N9 R9
      intro a' b' u ta tb h tk hj F9 N9
      obtain ⟨j2, b0, b1, b2, b5, b3, b4⟩ := hj
      dsimp only
      k_steps
      unfold Hold
      try clear F9 N9
      rename IsRange _ _ _ _ _ _ _ _ => R9
      rename Fr _ _ _ _ => F9
      rename News _ _ _ _ => N9
      refine iter_rangeTwo (n := 3) (Str.ofString "rest") (Str.ofString "year") (JS 365 1 _ _) rfl R9 (by decide) (by decide) F9 N9 (by decide) (by decide) (by decide) (by rfl) (by rfl) (JS_0 b3) ?turn ?done
      case turn =>
        clear F9 N9
        intro i a b u ta tb I it h tk hi hj F9 N9
        k_steps
        · exact two_end (by k_asm) (by k_asm) (by rfl) (by rfl) (by intro z h1 h2 h3; simp only [mTwo, h1, h2, h3, if_false]) (JS_yes hj (by omega))
        · exact two_end (by k_asm) (by k_asm) (by rfl) (by rfl) (by intro z h1 h2 h3; simp only [mTwo, h1, h2, h3, if_false]) (JS_no hj (by omega))
      case done =>
        clear F9 N9 R9
        intro r y u ta tb h tk hj F9 N9
        obtain ⟨j3, c0, c1, c2, c5, c3, c4⟩ := hj
        have hg := g_fin (N := N) (j1 := j1) (j2 := j2) (j3 := j3) (r1 := a) (r2 := a') (r3 := r) (y := y) a0 (by omega) (by omega) a3 (fun h => a4 (by omega)) b0 (by omega) b2 b3 (fun h => b4 (by omega)) c0 (by omega) c2 c3 (fun h => c4 (by omega)) (by omega)
        obtain ⟨hg1, hg2, hg3⟩ := hg
        clear a2 a5 b2 b5 c2 c5 a4 b4 c4 a0 a1 b0 b1 c0 c1
        dsimp only
        k_steps
        rename News _ _ _ _ => kN9
        subst hg1 hg2
        exact retT hret rfl rfl rfl (by k_asm) kN9 (by first | exact fun _ hp => .tail _ hp | exact fun _ hp => .tail _ (.tail _ hp) | exact fun _ hp => .tail _ (.tail _ (.tail _ hp))) (by first | with_reducible assumption | exact ktn_ltOf (by with_reducible assumption) | exact ktn_ltOf (And.right (by with_reducible assumption)) | exact ktn_ltOf (And.right (And.right (by with_reducible assumption))))

-- s13
theorem add_W {N n : Int} (hN : N.natAbs < 2 ^ 40) (hn : n.natAbs < 2 ^ 40) : Float64.add (H (2 * N + 3442849)) (Float64.ofInt n) = H (2 * (N + n) + 3442849) := by
  rw [add_Hi (by omega) (by omega)]; congr 1; omega
theorem sub_W {N n : Int} (hN : N.natAbs < 2 ^ 40) (hn : n.natAbs < 2 ^ 40) : Float64.sub (H (2 * N + 3442849)) (Float64.ofInt n) = H (2 * (N - n) + 3442849) := by
  rw [sub_Hi (by omega) (by omega)]; congr 1; omega
theorem sub_22 {a b : Int} (hN : a.natAbs < 2 ^ 40) (hr : b.natAbs < 2 ^ 40) : Float64.sub (H (2 * a)) (H (2 * b)) = H (2 * (a - b)) := by
  rw [sub_HH (by omega) (by omega)]; congr 1; omega
theorem add_back {N e : Int} (hN : N.natAbs < 2 ^ 40) (he : e.natAbs < 2 ^ 40) : Float64.add (H (2 * (N - e))) (H (2 * e + 3442849)) = H (2 * N + 3442849) := by
  rw [add_HH (by omega) (by omega)]; congr 1; omega
theorem add_back2 {N M e : Int} (hN : N.natAbs < 2 ^ 40) (hM : M.natAbs < 2 ^ 40) (he : e.natAbs < 2 ^ 40) : Float64.add (H (2 * (N - e + M))) (H (2 * e + 3442849)) = H (2 * (N + M) + 3442849) := by
  rw [add_HH (by omega) (by omega)]; congr 1; omega
theorem c_tojd_g {w mean mg mb} (N : Int) (t1 t2 t3 : Tok) (h1 : 1 ≤ N) (h2 : N < 3000000) : Cl w 3 mean mg mb 64 [.int (gy N) t1, .int (gm N) t2, .int (gd N) t3] (fun t => .float (H (2 * N + 3442849)) t) := by
  rw [show (fun t => Value.float (H (2 * N + 3442849)) t) = (fun t => Value.float (H (2 * rd (gy N) (gm N) (gd N) + 3442849)) t) by rw [rd_g]]
  exact c_tojd (gy N) (gm N) (gd N) t1 t2 t3 (gy_range h1 h2).1 (by have := (gy_range h1 h2).2; omega) (gm_range N).1 (gm_range N).2 (by have := (gd_range N).1; omega) (gd_range N).2
theorem c_jtojd_j {w mean mg mb} (N : Int) (t1 t2 t3 : Tok) (h1 : 1 ≤ N) (h2 : N < 3000000) : Cl w 4 mean mg mb 107 [.int (jy N) t1, .int (jm N) t2, .int (jday N) t3] (fun t => .float (H (2 * N + 3442849)) t) := by
  rw [show (fun t => Value.float (H (2 * N + 3442849)) t) = (fun t => Value.float (H (2 * jrd (jy N) (jm N) (jday N) + 3442849)) t) by rw [jrd_j]]
  exact c_jtojd (jy N) (jm N) (jday N) t1 t2 t3 (jy_range h1 h2).1 (by have := (jy_range h1 h2).2; omega) (jm_range N).1 (jm_range N).2 (by have := (jday_range N).1; omega) (jday_range N).2
theorem rd1601 : rd 1601 1 1 = 584389 := by decide
theorem rd1 : rd 1 1 1 = 1 := by decide
theorem jrd1 : jrd 1 1 1 = -1 := by decide

-- s14
theorem jlen_pos (y m : Int) : (1 : Int) ≤ jlen y m := by unfold jlen len; split <;> (try split) <;> decide
theorem r_eq_t {prog : Program} {w : World} {A : Around} {E : Value → Shared → Prop} {s : Shared} {t u : Tok} {Q : Value → Shared → Prop} {a b : Int} (ha : a.natAbs < 2 ^ 50) (hb : b.natAbs < 2 ^ 50) (e : a = b) (h : Q (.bool true) s) : wpAny (model prog w) A (compareOp .Eq (.float (H a) t) (.float (H b) u)) Q E s :=
  r_eq_ff ha hb (by rw [decide_eq_true e]; exact h)
theorem r_ne_t {prog : Program} {w : World} {A : Around} {E : Value → Shared → Prop} {s : Shared} {t u : Tok} {Q : Value → Shared → Prop} {a b : Int} (ha : a.natAbs < 2 ^ 50) (hb : b.natAbs < 2 ^ 50) (e : a = b) (h : Q (.bool false) s) : wpAny (model prog w) A (compareOp .NotEq (.float (H a) t) (.float (H b) u)) Q E s :=
  r_ne_ff ha hb (by rw [decide_eq_false (fun h => h e)]; exact h)

theorem ten6 : (10 : Int) ^ Int.toNat 6 = 1000000 := by decide
theorem ten4 : (10 : Int) ^ Int.toNat 4 = 10000 := by decide
theorem add_noon {N M : Int} : N + 1721425 + M = N + M + 1721425 := by omega
theorem r_pow {prog : Program} {w : World} {A : Around} {E : Value → Shared → Prop} {s : Shared} {t u : Tok} {Q : Value → Shared → Prop} {a n c : Int} (hn : 0 ≤ n) (hn2 : n ≤ 1000000) (ha : a.natAbs < 2 ^ 64) (e : a ^ n.toNat = c) (h : Q (.int c s.toks) { s with toks := s.toks + 1 }) : wpAny (model prog w) A (binaryOp .Pow (.int a t) (.int n u)) Q E s :=
  pow_int_small hn hn2 ha (by rw [e]; exact h)
theorem r_mod_any {prog : Program} {w : World} {A : Around} {E : Value → Shared → Prop} {s : Shared} {t u : Tok} {Q : Value → Shared → Prop} {a b : Int} (hb : 0 < b) (h : ∀ n : Int, 0 ≤ n → n < b → Q (.int n s.toks) { s with toks := s.toks + 1 }) : wpAny (model prog w) A (binaryOp .Mod (.int a t) (.int b u)) Q E s :=
  mod_int' (by omega) (by rw [fm _ (by omega)]; exact h _ (Int.emod_nonneg _ (by omega)) (Int.emod_lt_of_pos _ hb))

local macro_rules | `(tactic| walk_at "binaryOp Pow int int") => `(tactic| (k_here; refine' r_pow ?ka ?kb ?kc ?ke ?_; (case ka => decide); (case kb => decide); (case kc => decide); (case ke => first | exact ten6 | exact ten4)))
local macro_rules | `(tactic| walk_at "binaryOp Mod int int") => `(tactic| (k_here; refine' r_mod_any ?ka ?_; (case ka => decide); intro n9 ha9 hb9))
local macro_rules | `(tactic| walk_at "binaryOp Add int int") => `(tactic| (k_here; refine' r_add_to ?ke ?_; (case ke => exact add_noon)))
local macro_rules | `(tactic| walk_at "call ref") => `(tactic| (k_here; (with_reducible show wpAny _ _ (call (Value.ref 64) _) _ _ _); k_dflt ((first | refine' c_tojd_g _ _ _ _ ?ka ?kb ?k1 ?k2 ?k3 ?k4 ?k5 ?k6 ?k7 ?k8 ?_ | refine' c_tojd _ _ _ _ _ _ ?ka ?kb ?kc ?kd ?ke ?kf ?k1 ?k2 ?k3 ?k4 ?k5 ?k6 ?k7 ?k8 ?_); (case ka => first | assumption | decide | omega); (case kb => first | assumption | decide | omega); (try (case kc => decide)); (try (case kd => decide)); (try (case ke => decide)); (try (case kf => exact (glen_pos _ _).2)); (case k1 => k_asm); (case k2 => k_asm); (case k3 => k_asm); (case k4 => k_asm); (case k5 => k_asm); (case k6 => first | exact rfl | assumption); (case k7 => ktr_room); (case k8 => ktr_units); k_whole; intro t9 h9 tk9 F9 N9; (try dsimp only); (try k_fold))))
local macro_rules | `(tactic| walk_at "call ref") => `(tactic| (k_here; (with_reducible show wpAny _ _ (call (Value.ref 107) _) _ _ _); k_dflt ((first | refine' c_jtojd_j _ _ _ _ ?ka ?kb ?k1 ?k2 ?k3 ?k4 ?k5 ?k6 ?k7 ?k8 ?_ | refine' c_jtojd _ _ _ _ _ _ ?ka ?kb ?kc ?kd ?ke ?kf ?k1 ?k2 ?k3 ?k4 ?k5 ?k6 ?k7 ?k8 ?_); (case ka => first | assumption | decide | omega); (case kb => first | assumption | decide | omega); (try (case kc => decide)); (try (case kd => decide)); (try (case ke => decide)); (try (case kf => exact jlen_pos _ _)); (case k1 => k_asm); (case k2 => k_asm); (case k3 => k_asm); (case k4 => k_asm); (case k5 => k_asm); (case k6 => first | exact rfl | assumption); (case k7 => ktr_room); (case k8 => ktr_units); k_whole; intro t9 h9 tk9 F9 N9; (try dsimp only); (try k_fold))))
local macro_rules | `(tactic| walk_at "call ref") => `(tactic| (k_here; (with_reducible show wpAny _ _ (call (Value.ref 71) _) _ _ _); k_dflt (refine' c_fromjd _ _ _ rfl ?ka ?kb ?k1 ?k2 ?k3 ?k4 ?k5 ?k6 ?k7 ?k8 ?_; (case ka => omega); (case kb => omega); (case k1 => k_asm); (case k2 => k_asm); (case k3 => k_asm); (case k4 => k_asm); (case k5 => k_asm); (case k6 => first | exact rfl | assumption); (case k7 => ktr_room); (case k8 => ktr_units); k_whole; intro a9 u9 v9 w9 h9 tk9 F9 N9 l9; (try k_lt l9); (try dsimp only); (try k_fold))))
local macro_rules | `(tactic| walk_at "call ref") => `(tactic| (k_here; (with_reducible show wpAny _ _ (call (Value.ref 100) _) _ _ _); k_dflt (refine' c_jfromjd _ _ _ rfl ?ka ?kb ?k1 ?k2 ?k3 ?k4 ?k5 ?k6 ?k7 ?k8 ?_; (case ka => omega); (case kb => omega); (case k1 => k_asm); (case k2 => k_asm); (case k3 => k_asm); (case k4 => k_asm); (case k5 => k_asm); (case k6 => first | exact rfl | assumption); (case k7 => ktr_room); (case k8 => ktr_units); k_whole; intro a9 u9 v9 w9 h9 tk9 F9 N9 l9; (try k_lt l9); (try dsimp only); (try k_fold))))
local macro_rules | `(tactic| walk_at "call ref") => `(tactic| (k_here; (with_reducible show wpAny _ _ (call (Value.ref 240) _) _ _ _); k_dflt (refine' c_lawgreg _ _ _ rfl ?ka ?kb ?k1 ?k2 ?k3 ?k4 ?k5 ?k6 ?k7 ?k8 ?_; (case ka => omega); (case kb => omega); (case k1 => k_asm); (case k2 => k_asm); (case k3 => k_asm); (case k4 => k_asm); (case k5 => k_asm); (case k6 => first | exact rfl | assumption); (case k7 => ktr_room); (case k8 => ktr_units); k_whole; intro a9 u9 v9 w9 h9 tk9 F9 N9 l9; (try k_lt l9); (try dsimp only); (try k_fold))))
local macro_rules | `(tactic| walk_at "call ref") => `(tactic| (k_here; (with_reducible show wpAny _ _ (call (Value.ref 247) _) _ _ _); k_dflt (refine' c_lawjul _ _ _ rfl ?ka ?kb ?k1 ?k2 ?k3 ?k4 ?k5 ?k6 ?k7 ?k8 ?_; (case ka => omega); (case kb => omega); (case k1 => k_asm); (case k2 => k_asm); (case k3 => k_asm); (case k4 => k_asm); (case k5 => k_asm); (case k6 => first | exact rfl | assumption); (case k7 => ktr_room); (case k8 => ktr_units); k_whole; intro a9 u9 v9 w9 h9 tk9 F9 N9 l9; (try k_lt l9); (try dsimp only); (try k_fold))))
local macro_rules | `(tactic| walk_at "call ref") => `(tactic| (k_here; (with_reducible show wpAny _ _ (call (Value.ref 212) _) _ _ _); k_dflt (refine' c_day _ _ _ rfl ?ka ?kb ?k1 ?k2 ?k3 ?k4 ?k5 ?k6 ?k7 ?k8 ?_; (case ka => omega); (case kb => omega); (case k1 => k_asm); (case k2 => k_asm); (case k3 => k_asm); (case k4 => k_asm); (case k5 => k_asm); (case k6 => first | exact rfl | assumption); (case k7 => ktr_room); (case k8 => ktr_units); k_whole; intro t9 h9 tk9 F9 N9; (try dsimp only); (try k_fold))))
local macro_rules | `(tactic| walk_at "binaryOp Add float int") => `(tactic| (k_here; refine' r_add_fi ?ka ?ke ?_; (case ka => omega); (case ke => first | exact add_W (by omega) (by omega) | exact add_2i (by omega) (by omega))))
local macro_rules | `(tactic| walk_at "binaryOp Sub float int") => `(tactic| (k_here; refine' r_sub_fi ?ka ?ke ?_; (case ka => omega); (case ke => exact Mine.sub_W (by omega) (by omega))))
local macro_rules | `(tactic| walk_at "binaryOp Sub float float") => `(tactic| (k_here; refine' r_sub_ff ?ke ?_; (case ke => first | exact sub_WW (by omega) (by omega) | exact sub_22 (by omega) (by omega))))
local macro_rules | `(tactic| walk_at "binaryOp Add float float") => `(tactic| (k_here; refine' r_add_ff ?ke ?_; (case ke => first | exact add_back (by omega) (by omega) | exact add_back2 (by omega) (by omega) (by omega))))
local macro_rules | `(tactic| walk_at "compareOp Eq float float") => `(tactic| (k_here; refine' r_eq_t ?ka ?kb ?ke ?_; (case ka => omega); (case kb => omega); (case ke => omega)))
local macro_rules | `(tactic| walk_at "compareOp NotEq float float") => `(tactic| (k_here; refine' r_ne_t ?ka ?kb ?ke ?_; (case ka => omega); (case kb => omega); (case ke => omega)))

local macro_rules | `(tactic| walk_at "subscriptTail Name Constant ref int") => `(tactic| (k_here; (with_reducible show wpAny _ _ (subscriptTail _ _ (Value.ref _) (Value.int _ _)) _ _ _); k_dflt (refine' item_tupleT ?t ?a ?b ?c ?d ?_; (case t => exact News.isTup (by k_asm) (by k_mem)); (case a => decide); (case b => decide); (case c => rfl); (case d => rfl); k_whole)))

set_option maxHeartbeats 4000000 in
theorem main : PySem.Challenge.rw_ba5008_01.Holds := hd (by
  k_go0
  all_goals try k_fold
  have e1 := rd1601
  have e2 := rd1
  have e3 := jrd1
  k_steps)

end Mine
open PySem PySem.W PyProof.Rows
theorem PySem.Challenge.cw_ba5008_01_holds : PySem.Challenge.rw_ba5008_01.Holds :=
  Mine.main
