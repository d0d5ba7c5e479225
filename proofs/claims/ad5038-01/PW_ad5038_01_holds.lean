import PyProof.Rows.All
import Wide.All
import OpenK.AllK
import Wide.FinOn
import PySem.Challenge.RW_ad5038_01
set_option Elab.async false
set_option linter.all false

section
open PySem PySem.W PyProof.Rows
namespace Mine
set_option maxRecDepth 100000 in
set_option maxHeartbeats 8000000 in
open_top hd for PySem.Challenge.rw_ad5038_01
end Mine
end

section
namespace Mine
open PySem PySem.Float64

/-- n/d rounded to the nearest double -/
def Qf (n : Int) (d : Nat) : UInt64 := ofFrac (decide (n < 0)) n.natAbs d
/-- the double n/128 -/
def D (n : Int) : UInt64 := ofFrac (decide (n < 0)) n.natAbs 128
theorem D_eq (n : Int) : D n = Qf n 128 := rfl

def Rep (g : Int) : Prop := ∃ t, V t = g.natAbs

theorem rep_pow {q : Int} {k : Nat} (hq : q.natAbs ≤ 2 ^ 53) (hk : 52 ≤ k) : Rep (q * 2 ^ k) := by
  have e0 : (q * 2 ^ k).natAbs = q.natAbs * 2 ^ k := by
    rw [Int.natAbs_mul]; congr 1
  unfold Rep
  rw [e0]
  generalize q.natAbs = a at *
  by_cases h0 : a = 0
  · subst h0; exact ⟨0, by rw [V_zero]; simp⟩
  have h1 := Nat.log2_self_le h0
  have h2 := @Nat.lt_log2_self a
  by_cases h3 : a = 2 ^ 53
  · refine ⟨k * 2 ^ 52 + a, V_at (by omega) (.inl (by omega))⟩
  have h4 : a.log2 < 53 := (Nat.log2_lt h0).2 (by omega)
  generalize hl : a.log2 = l at *
  have h5 : 2 ^ l * 2 ^ (52 - l) = 2 ^ 52 := by rw [← Nat.pow_add]; congr 1; omega
  have h6 : 2 ^ (l + 1) * 2 ^ (52 - l) = 2 ^ 53 := by rw [← Nat.pow_add]; congr 1; omega
  have h7 : 2 ^ 52 ≤ a * 2 ^ (52 - l) := by rw [← h5]; exact Nat.mul_le_mul_right _ h1
  have h8 : a * 2 ^ (52 - l) ≤ 2 ^ 53 := by rw [← h6]; exact Nat.mul_le_mul_right _ (Nat.le_of_lt h2)
  refine ⟨(k - (52 - l)) * 2 ^ 52 + a * 2 ^ (52 - l), ?_⟩
  rw [V_at h8 (.inl h7), Nat.mul_assoc, ← Nat.pow_add]
  congr 2
  omega

theorem rep_zero : Rep 0 := ⟨0, by rw [V_zero]; rfl⟩

/-- what a rounded result says of its value -/
theorem right_near {r : UInt64} {neg : Bool} {W Dn : Nat} (h : Right r neg W Dn) (hov : 2 * W < Dn * ((2 ^ 54 - 1) * 2 ^ 2045)) :
    ∃ t, r = pack neg t ∧ t < infMag ∧ val r = sgn neg (V t) ∧ ∀ g : Int, Rep g → (sgn neg W - Dn * val r).natAbs ≤ (sgn neg W - Dn * g).natAbs := by
  obtain ⟨t, hr, ht, hi, hn⟩ := h
  have hlt : t < infMag := by
    rcases Nat.lt_or_ge t infMag with h | h
    · exact h
    · exfalso
      have := hi.mp (by omega)
      exact absurd this (Nat.not_le.mpr hov)
  have hv : val r = sgn neg (V t) := by rw [hr]; exact val_pack neg hlt
  refine ⟨t, hr, hlt, hv, fun g ⟨t', hg⟩ => ?_⟩
  have h1 := (hn hlt t').1
  have h0 := (hn hlt 0).1
  rw [V_zero, Nat.mul_zero] at h0
  rw [hv]
  have key : ∀ v : Nat, (sgn neg W - (Dn : Int) * sgn neg v).natAbs = dist W (Dn * v) := by
    intro v
    have e : ((Dn * v : Nat) : Int) = (Dn : Int) * v := by rw [Int.natCast_mul]
    cases neg
    · show ((W : Int) - (Dn : Int) * (v : Int)).natAbs = _
      rw [← e]; unfold dist; omega
    · show (-(W : Int) - (Dn : Int) * -(v : Int)).natAbs = _
      rw [Int.mul_neg, ← e]; unfold dist; omega
  rw [key]
  by_cases hs : g = sgn neg g.natAbs
  · rw [hs, key, ← hg]; exact h1
  · have h2 : dist W 0 = W := by unfold dist; omega
    rw [h2] at h0
    refine Nat.le_trans h0 ?_
    have hp : 0 ≤ (Dn : Int) * g.natAbs := Int.mul_nonneg (by omega) (by omega)
    cases neg
    · have hs' : ¬ g = (g.natAbs : Int) := hs
      have e : (Dn : Int) * g = -((Dn : Int) * g.natAbs) := by rw [← Int.mul_neg]; congr 1; omega
      show W ≤ ((W : Int) - (Dn : Int) * g).natAbs
      rw [e]; omega
    · have hs' : ¬ g = -(g.natAbs : Int) := hs
      have e : (Dn : Int) * g = (Dn : Int) * g.natAbs := by congr 1; omega
      show W ≤ (-(W : Int) - (Dn : Int) * g).natAbs
      rw [e]; omega

theorem near_ge {X D v g : Int} (hD : 0 < D) (h : (X - D * v).natAbs ≤ (X - D * g).natAbs) (hg : D * g ≤ X) : g ≤ v := by
  rcases Int.lt_or_le v g with hlt | hge
  · have := Int.mul_lt_mul_of_pos_left hlt hD
    omega
  · exact hge
theorem near_le {X D v g : Int} (hD : 0 < D) (h : (X - D * v).natAbs ≤ (X - D * g).natAbs) (hg : X ≤ D * g) : v ≤ g := by
  rcases Int.lt_or_le g v with hlt | hge
  · have := Int.mul_lt_mul_of_pos_left hlt hD
    omega
  · exact hge
theorem near_lt {X D v g g2 : Int} (hD : 0 < D) (h : (X - D * v).natAbs ≤ (X - D * g).natAbs) (hlt : g < g2) (hg : 2 * X < D * g + D * g2) : v < g2 := by
  rcases Int.lt_or_le v g2 with h1 | h1
  · exact h1
  · have h2 := Int.mul_le_mul_of_nonneg_left h1 (Int.le_of_lt hD)
    have h3 := Int.mul_lt_mul_of_pos_left hlt hD
    omega
theorem near_gt {X D v g g2 : Int} (hD : 0 < D) (h : (X - D * v).natAbs ≤ (X - D * g).natAbs) (hlt : g2 < g) (hg : D * g + D * g2 < 2 * X) : g2 < v := by
  rcases Int.lt_or_le g2 v with h1 | h1
  · exact h1
  · have h2 := Int.mul_le_mul_of_nonneg_left h1 (Int.le_of_lt hD)
    have h3 := Int.mul_lt_mul_of_pos_left hlt hD
    omega

theorem dist_comm' (a b : Nat) : dist a b = dist b a := by unfold dist; omega

theorem right_unique {r r' : UInt64} {neg : Bool} {W Dn : Nat} (hD : 0 < Dn) (h : Right r neg W Dn) (h' : Right r' neg W Dn) : r = r' := by
  obtain ⟨t, hr, ht, hi, hn⟩ := h
  obtain ⟨t', hr', ht', hi', hn'⟩ := h'
  suffices hs : t = t' by rw [hr, hr', hs]
  by_cases hc : t = infMag
  · rw [hc]; exact (hi'.mpr (hi.mp hc)).symm
  by_cases hc' : t' = infMag
  · exact absurd (hi.mpr (hi'.mp hc')) hc
  have hl : t < infMag := by omega
  have hl' : t' < infMag := by omega
  have gen : ∀ a b : Nat, a < b → (∀ c, dist W (Dn * V a) ≤ dist W (Dn * V c) ∧ (V c ≠ V a → dist W (Dn * V a) = dist W (Dn * V c) → a % 2 = 0)) →
      (∀ c, dist W (Dn * V b) ≤ dist W (Dn * V c) ∧ (V c ≠ V b → dist W (Dn * V b) = dist W (Dn * V c) → b % 2 = 0)) → False := by
    intro a b hab ha hb
    have hV := V_lt hab
    have e : dist W (Dn * V a) = dist W (Dn * V b) := Nat.le_antisymm (ha b).1 (hb a).1
    have ea := (ha b).2 (by omega) e
    have eb := (hb a).2 (by omega) e.symm
    have hm1 : V a < V (a + 1) := V_succ a
    have hm2 : V (a + 1) < V b := V_lt (by omega)
    have m1 := Nat.mul_lt_mul_of_pos_left hm1 hD
    have m2 := Nat.mul_lt_mul_of_pos_left hm2 hD
    have h3 := (ha (a + 1)).1
    show False
    clear hm1 hm2 hV ha hb
    generalize Dn * V a = x at *
    generalize Dn * V b = y at *
    generalize Dn * V (a + 1) = z at *
    unfold dist at e h3
    omega
  rcases Nat.lt_trichotomy t t' with h | h | h
  · exact (gen t t' h (hn hl) (hn' hl')).elim
  · exact h
  · exact (gen t' t h (hn' hl') (hn hl)).elim

/-- a rounded quotient is what any right rounding of the same number is -/
theorem Qf_right {n : Int} {d W Dn : Nat} (hd : 0 < d) (hW : n.natAbs * 2 ^ 1074 * Dn = W * d) (hD : 0 < Dn) : Right (Qf n d) (decide (n < 0)) W Dn := ofFrac_right hd hW hD

theorem no_over {n d : Nat} (hd : 0 < d) (hn : n ≤ 2 ^ 100) : 2 * (n * 2 ^ 1074) < d * ((2 ^ 54 - 1) * 2 ^ 2045) := by
  have e : (2 : Nat) ^ 2045 = 2 ^ 971 * 2 ^ 1074 := by rw [← Nat.pow_add]
  have e2 : (2 : Nat) ^ 971 = 2 ^ 100 * 2 ^ 871 := by rw [← Nat.pow_add]
  have hK : 0 < (2 : Nat) ^ 1074 := Nat.two_pow_pos _
  have hJ : 0 < (2 : Nat) ^ 871 := Nat.two_pow_pos _
  rw [e, e2]
  generalize (2 : Nat) ^ 1074 = K at *
  generalize (2 : Nat) ^ 871 = J at *
  have h1 : 2 * n < (2 ^ 54 - 1) * (2 ^ 100 * J) := by
    have : 2 ^ 100 * 1 ≤ 2 ^ 100 * J := Nat.mul_le_mul_left _ hJ
    generalize 2 ^ 100 * J = z at *
    omega
  calc 2 * (n * K) = (2 * n) * K := by rw [Nat.mul_assoc]
    _ < ((2 ^ 54 - 1) * (2 ^ 100 * J)) * K := Nat.mul_lt_mul_of_pos_right h1 hK
    _ = 1 * ((2 ^ 54 - 1) * (2 ^ 100 * J * K)) := by rw [Nat.one_mul, Nat.mul_assoc]
    _ ≤ d * ((2 ^ 54 - 1) * (2 ^ 100 * J * K)) := Nat.mul_le_mul_right _ hd

theorem sgn_dec (n : Int) : sgn (decide (n < 0)) n.natAbs = n := by unfold sgn; by_cases h : n < 0 <;> simp [h] <;> omega
theorem sgn_dec_mul (n : Int) (k : Nat) : sgn (decide (n < 0)) (n.natAbs * k) = n * k := by rw [sgn_mul, sgn_dec]

theorem pow_cast (k : Nat) : ((2 ^ k : Nat) : Int) = (2 : Int) ^ k := by simp

/-- the value of a rounded quotient: nearest among all that can be written -/
theorem Qf_near {n : Int} {d : Nat} (hd : 0 < d) (hn : n.natAbs ≤ 2 ^ 100) :
    (∃ m e, decode (Qf n d) = .fin (decide (n < 0)) m e) ∧ ∀ g : Int, Rep g → (n * 2 ^ 1074 - d * val (Qf n d)).natAbs ≤ (n * 2 ^ 1074 - d * g).natAbs := by
  obtain ⟨t, hr, hlt, hv, hg⟩ := right_near (Qf_right (n := n) (W := n.natAbs * 2 ^ 1074) hd rfl hd) (no_over hd hn)
  rw [sgn_dec_mul, pow_cast] at hg
  obtain ⟨m, e, hd', _⟩ := decode_pack (decide (n < 0)) hlt
  exact ⟨⟨m, e, by rw [hr]; exact hd'⟩, hg⟩

theorem natAbs_mul_pow (a : Int) (k : Nat) : (a * 2 ^ k).natAbs = a.natAbs * 2 ^ k := by rw [← pow_cast, Int.natAbs_mul, Int.natAbs_natCast]
theorem p1074 : (2 : Int) ^ 1074 = 128 * 2 ^ 1067 := by rw [show (128 : Int) = 2 ^ 7 from rfl, ← Int.pow_add]
theorem p1074n : (2 : Nat) ^ 1074 = 128 * 2 ^ 1067 := by rw [show (128 : Nat) = 2 ^ 7 from rfl, ← Nat.pow_add]
theorem ppos (k : Nat) : (0 : Int) < 2 ^ k := by rw [← pow_cast]; exact Int.ofNat_lt.mpr (Nat.two_pow_pos k)

theorem D_val {n : Int} (hn : n.natAbs ≤ 2 ^ 53) : val (D n) = n * 2 ^ 1067 := by
  have h := (Qf_near (n := n) (d := 128) (by decide) (Nat.le_trans hn (by decide))).2 (n * 2 ^ 1067) (rep_pow hn (by decide))
  rw [← D_eq] at h
  have e : n * 2 ^ 1074 - ((128 : Nat) : Int) * (n * 2 ^ 1067) = 0 := by
    rw [p1074]; generalize (2 : Int) ^ 1067 = P
    have : n * (128 * P) = 128 * (n * P) := by rw [← Int.mul_assoc, Int.mul_comm n 128, Int.mul_assoc]
    omega
  rw [e] at h
  rw [p1074] at h
  generalize (2 : Int) ^ 1067 = P at *
  have : n * (128 * P) = 128 * (n * P) := by rw [← Int.mul_assoc, Int.mul_comm n 128, Int.mul_assoc]
  omega
theorem D_fin {n : Int} (hn : n.natAbs ≤ 2 ^ 53) : ∃ m e, decode (D n) = .fin (decide (n < 0)) m e :=
  (Qf_near (n := n) (d := 128) (by decide) (Nat.le_trans hn (by decide))).1
theorem D_right (n : Int) : Right (D n) (decide (n < 0)) (n * 2 ^ 1067).natAbs 1 := by
  refine Qf_right (d := 128) (by decide) ?_ (by decide)
  rw [natAbs_mul_pow, Nat.mul_one, Nat.mul_assoc, p1074n, Nat.mul_comm 128]
theorem D_zero : zero false = D 0 := by decide +kernel
theorem neg_mul_pos {s : Int} (k : Nat) : decide (s * 2 ^ k < 0) = decide (s < 0) := by
  have hp := ppos k
  generalize (2 : Int) ^ k = P at *
  apply decide_eq_decide.mpr
  constructor
  · intro h
    rcases Int.lt_or_le s 0 with h2 | h2
    · exact h2
    · have := Int.mul_nonneg h2 (Int.le_of_lt hp); omega
  · intro h; exact Int.mul_neg_of_neg_of_pos h hp
theorem mul_pow_ne {s : Int} (k : Nat) (h : s ≠ 0) : s * 2 ^ k ≠ 0 := Int.mul_ne_zero h (by have := ppos k; omega)

theorem D_add {a b : Int} (ha : a.natAbs ≤ 2 ^ 53) (hb : b.natAbs ≤ 2 ^ 53) : add (D a) (D b) = D (a + b) := by
  obtain ⟨m, e, hx⟩ := D_fin ha
  obtain ⟨k, f, hy⟩ := D_fin hb
  have h := add_right hx hy
  rw [D_val ha, D_val hb, ← Int.add_mul] at h
  by_cases h0 : a + b = 0
  · rw [h.1 (by rw [h0, Int.zero_mul]), h0, ← D_zero]
    congr 1
    by_cases h1 : a < 0 <;> by_cases h2 : b < 0 <;> simp [h1, h2]; omega
  · have h1 := h.2 (mul_pow_ne _ h0)
    rw [neg_mul_pos] at h1
    exact right_unique (by decide) h1 (D_right _)
theorem D_sub {a b : Int} (ha : a.natAbs ≤ 2 ^ 53) (hb : b.natAbs ≤ 2 ^ 53) : sub (D a) (D b) = D (a - b) := by
  obtain ⟨m, e, hx⟩ := D_fin ha
  obtain ⟨k, f, hy⟩ := D_fin hb
  have h := sub_right hx hy
  rw [D_val ha, D_val hb, ← Int.sub_mul] at h
  by_cases h0 : a - b = 0
  · rw [h.1 (by rw [h0, Int.zero_mul]), h0, ← D_zero]
    congr 1
    by_cases h1 : a < 0 <;> by_cases h2 : b < 0 <;> simp [h1, h2]; omega
  · have h1 := h.2 (mul_pow_ne _ h0)
    rw [neg_mul_pos] at h1
    exact right_unique (by decide) h1 (D_right _)

theorem D_mul {a b c : Int} (ha : a.natAbs ≤ 2 ^ 53) (hb : b.natAbs ≤ 2 ^ 53) (hp : 0 < a ∨ 0 < b) (hc : a * b = 128 * c) : mul (D a) (D b) = D c := by
  obtain ⟨m, e, hx⟩ := D_fin ha
  obtain ⟨k, f, hy⟩ := D_fin hb
  have h := mul_right hx hy
  rw [D_val ha, D_val hb, natAbs_mul_pow, natAbs_mul_pow] at h
  have hs : (decide (a < 0) != decide (b < 0)) = decide (c < 0) := by
    rcases hp with hp | hp
    · have h1 : ¬ a < 0 := by omega
      by_cases h2 : b < 0
      · have := Int.mul_neg_of_pos_of_neg hp h2
        have h3 : c < 0 := by omega
        simp [h1, h2, h3]
      · have := Int.mul_nonneg (Int.le_of_lt hp) (show 0 ≤ b by omega)
        have h3 : ¬ c < 0 := by omega
        simp [h1, h2, h3]
    · have h1 : ¬ b < 0 := by omega
      by_cases h2 : a < 0
      · have := Int.mul_neg_of_neg_of_pos h2 hp
        have h3 : c < 0 := by omega
        simp [h1, h2, h3]
      · have := Int.mul_nonneg (show 0 ≤ a by omega) (Int.le_of_lt hp)
        have h3 : ¬ c < 0 := by omega
        simp [h1, h2, h3]
  rw [hs] at h
  refine right_unique (Nat.two_pow_pos _) h (Qf_right (d := 128) (by decide) ?_ (Nat.two_pow_pos _))
  have hn : a.natAbs * b.natAbs = 128 * c.natAbs := by rw [← Int.natAbs_mul, hc, Int.natAbs_mul]; rfl
  have e2 : (2 : Nat) ^ 1074 = 128 * 2 ^ 1067 := by rw [show (128 : Nat) = 2 ^ 7 from rfl, ← Nat.pow_add]
  rw [e2]
  generalize (2 : Nat) ^ 1067 = P at *
  calc c.natAbs * (128 * P) * (128 * P) = (128 * c.natAbs) * P * P * 128 := by ac_rfl
    _ = a.natAbs * b.natAbs * P * P * 128 := by rw [hn]
    _ = a.natAbs * P * (b.natAbs * P) * 128 := by ac_rfl

theorem D_div {a b : Int} {n : Int} {d : Nat} (ha : a.natAbs ≤ 2 ^ 53) (hb : b.natAbs ≤ 2 ^ 53) (hp : 0 < b) (hd : 0 < d) (hc : a * d = n * b) : div (D a) (D b) = Qf n d := by
  obtain ⟨m, e, hx⟩ := D_fin ha
  obtain ⟨k, f, hy⟩ := D_fin hb
  have hk : k ≠ 0 := by
    intro h0
    have := val_natAbs hy
    rw [D_val hb, h0, Nat.zero_mul] at this
    have h1 : b * 2 ^ 1067 = 0 := by omega
    exact mul_pow_ne 1067 (show b ≠ 0 by omega) h1
  have h := div_right hx hy hk
  rw [D_val ha, D_val hb, natAbs_mul_pow, natAbs_mul_pow] at h
  have hs : (decide (a < 0) != decide (b < 0)) = decide (n < 0) := by
    have h1 : ¬ b < 0 := by omega
    by_cases h2 : a < 0
    · have := Int.mul_neg_of_neg_of_pos h2 (show (0 : Int) < d by omega)
      have h3 : n < 0 := by
        rcases Int.lt_or_le n 0 with h4 | h4
        · exact h4
        · have := Int.mul_nonneg h4 (Int.le_of_lt hp); omega
      simp [h1, h2, h3]
    · have := Int.mul_nonneg (show 0 ≤ a by omega) (show (0 : Int) ≤ d by omega)
      have h3 : ¬ n < 0 := fun h4 => by
        have := Int.mul_neg_of_neg_of_pos h4 hp; omega
      simp [h1, h2, h3]
  rw [hs] at h
  have hpos : 0 < b.natAbs * 2 ^ 1067 := Nat.mul_pos (by omega) (Nat.two_pow_pos _)
  refine right_unique hpos h (Qf_right hd ?_ hpos)
  have hn : a.natAbs * d = n.natAbs * b.natAbs := by
    have := congrArg Int.natAbs hc
    rw [Int.natAbs_mul, Int.natAbs_mul, Int.natAbs_natCast] at this
    exact this
  generalize (2 : Nat) ^ 1074 = U at *
  generalize (2 : Nat) ^ 1067 = P at *
  calc n.natAbs * U * (b.natAbs * P) = (n.natAbs * b.natAbs) * (P * U) := by ac_rfl
    _ = a.natAbs * d * (P * U) := by rw [hn]
    _ = a.natAbs * P * U * d := by ac_rfl
theorem D_div' {a b : Int} (ha : a.natAbs ≤ 2 ^ 53) (hb : b.natAbs ≤ 2 ^ 53) (hp : 0 < b) : div (D a) (D b) = Qf a b.toNat :=
  D_div ha hb hp (by omega) (by congr 1; omega)
theorem D_div128 {a b : Int} (ha : (128 * a).natAbs ≤ 2 ^ 53) (hb : (128 * b).natAbs ≤ 2 ^ 53) (hp : 0 < b) : div (D (128 * a)) (D (128 * b)) = Qf a b.toNat :=
  D_div ha hb (by omega) (by omega) (by rw [show ((b.toNat : Nat) : Int) = b by omega]; ac_rfl)

theorem Qf_reduce {n n' : Int} {d d' : Nat} (hd : 0 < d) (hd' : 0 < d') (h : n * d' = n' * d) : Qf n d = Qf n' d' := by
  have hs : decide (n < 0) = decide (n' < 0) := by
    have p1 : (0 : Int) < d := by omega
    have p2 : (0 : Int) < d' := by omega
    by_cases h1 : n < 0
    · have := Int.mul_neg_of_neg_of_pos h1 p2
      have : n' < 0 := by
        rcases Int.lt_or_le n' 0 with h4 | h4
        · exact h4
        · have := Int.mul_nonneg h4 (Int.le_of_lt p1); omega
      simp [h1, this]
    · have := Int.mul_nonneg (show 0 ≤ n by omega) (Int.le_of_lt p2)
      have : ¬ n' < 0 := fun h4 => by have := Int.mul_neg_of_neg_of_pos h4 p1; omega
      simp [h1, this]
  have hr := Qf_right (n := n) (d := d) (W := n.natAbs * 2 ^ 1074) (Dn := d) hd rfl hd
  rw [hs] at hr
  refine right_unique hd hr (Qf_right hd' ?_ hd)
  have hn : n.natAbs * d' = n'.natAbs * d := by
    have := congrArg Int.natAbs h
    rw [Int.natAbs_mul, Int.natAbs_mul, Int.natAbs_natCast, Int.natAbs_natCast] at this
    exact this
  generalize (2 : Nat) ^ 1074 = U at *
  calc n'.natAbs * U * d = (n'.natAbs * d) * U := by ac_rfl
    _ = n.natAbs * d' * U := by rw [hn]
    _ = n.natAbs * U * d' := by ac_rfl
theorem ofInt_D (i : Int) : ofInt i = D (128 * i) := by
  have e : ofInt i = Qf i 1 := by unfold ofInt Qf; rfl
  rw [e, D_eq]
  exact Qf_reduce (n := i) (n' := 128 * i) (d := 1) (d' := 128) (by decide) (by decide) (by omega)
/-- a quotient that comes out in 128ths -/
theorem Qf_D {n : Int} {d : Nat} {c : Int} (hd : 0 < d) (h : n * 128 = c * d) : Qf n d = D c := Qf_reduce hd (by decide) h

theorem D_cmp {a b : Int} (ha : a.natAbs ≤ 2 ^ 53) (hb : b.natAbs ≤ 2 ^ 53) : cmp (D a) (D b) = some (compare a b) := by
  obtain ⟨m, e, hx⟩ := D_fin ha
  obtain ⟨k, f, hy⟩ := D_fin hb
  rw [cmp_right hx hy, D_val ha, D_val hb]
  have hp := ppos 1067
  generalize (2 : Int) ^ 1067 = P at *
  congr 1
  rcases Int.lt_trichotomy a b with h | h | h
  · rw [Int.compare_eq_lt.mpr h, Int.compare_eq_lt.mpr (Int.mul_lt_mul_of_pos_right h hp)]
  · subst h; simp
  · rw [Int.compare_eq_gt.mpr h, Int.compare_eq_gt.mpr (Int.mul_lt_mul_of_pos_right h hp)]
theorem D_cmpInt {a i : Int} (ha : a.natAbs ≤ 2 ^ 53) : cmpInt (D a) i = some (compare a (128 * i)) := by
  obtain ⟨m, e, hx⟩ := D_fin ha
  rw [cmpInt_right hx, D_val ha, p1074]
  have hp := ppos 1067
  generalize (2 : Int) ^ 1067 = P at *
  congr 1
  rw [show i * (128 * P) = (128 * i) * P by ac_rfl]
  rcases Int.lt_trichotomy a (128 * i) with h | h | h
  · rw [Int.compare_eq_lt.mpr h, Int.compare_eq_lt.mpr (Int.mul_lt_mul_of_pos_right h hp)]
  · subst h; simp
  · rw [Int.compare_eq_gt.mpr h, Int.compare_eq_gt.mpr (Int.mul_lt_mul_of_pos_right h hp)]
set_option maxRecDepth 10000 in
theorem D_isZero {a : Int} (ha : a.natAbs ≤ 2 ^ 53) : isZero (D a) = decide (a = 0) := by
  obtain ⟨m, e, hx⟩ := D_fin ha
  have hv := val_natAbs hx
  rw [D_val ha, natAbs_mul_pow] at hv
  have hp0 := Nat.two_pow_pos 1067
  generalize (2 : Nat) ^ 1067 = P at *
  have h1 : m = 0 ↔ a = 0 := by
    constructor
    · intro h; subst h
      rw [Nat.zero_mul] at hv
      have := Nat.mul_eq_zero.mp hv
      omega
    · intro h; subst h
      have h2 : m * 2 ^ (e + 1074).toNat = 0 := by rw [← hv, Int.natAbs_zero, Nat.zero_mul]
      rcases Nat.mul_eq_zero.mp h2 with h3 | h3
      · exact h3
      · have := Nat.two_pow_pos (e + 1074).toNat; omega
  unfold isZero
  rw [hx]
  by_cases h : m = 0
  · have := h1.mp h; subst h; simp [this]
  · have : ¬ a = 0 := fun q => h (h1.mpr q)
    cases m with
    | zero => exact absurd rfl h
    | succ k => simp [this]
theorem D_isFinite {a : Int} (ha : a.natAbs ≤ 2 ^ 53) : isFinite (D a) = true := by
  obtain ⟨m, e, hx⟩ := D_fin ha
  unfold isFinite; rw [hx]
theorem Qf_isFinite {n : Int} {d : Nat} (hd : 0 < d) (hn : n.natAbs ≤ 2 ^ 100) : isFinite (Qf n d) = true := by
  obtain ⟨⟨m, e, hx⟩, _⟩ := Qf_near hd hn
  unfold isFinite; rw [hx]

theorem floorOf_val {x : UInt64} {sg : Bool} {m : Nat} {e : Int} (h : decode x = .fin sg m e) : floorOf sg m e = val x / 2 ^ 1074 := by
  have he := decode_ge h
  rw [val_eq h, sgn_mul, pow_cast]
  unfold floorOf
  split
  · rename_i h0
    have e1 : (e + 1074).toNat = e.toNat + 1074 := by omega
    rw [e1, Int.pow_add, ← Int.mul_assoc, Int.mul_ediv_cancel _ (by have := ppos 1074; omega)]
  · rename_i h0
    have e1 : 1074 = (-e).toNat + (e + 1074).toNat := by omega
    have e2 : (2 : Int) ^ 1074 = 2 ^ (-e).toNat * 2 ^ (e + 1074).toNat := by rw [← Int.pow_add, ← e1]
    rw [e2, Int.mul_ediv_mul_of_pos_left _ _ (ppos _), Int.fdiv_eq_ediv_of_nonneg _ (Int.le_of_lt (ppos _))]
theorem sgn_not' (b : Bool) (m : Nat) : sgn (!b) m = -sgn b m := by cases b <;> simp [sgn]
theorem floorOf_not {x : UInt64} {sg : Bool} {m : Nat} {e : Int} (h : decode x = .fin sg m e) : floorOf (!sg) m e = (-val x) / 2 ^ 1074 := by
  have he := decode_ge h
  rw [val_eq h, sgn_mul, pow_cast]
  unfold floorOf
  rw [sgn_not', ← Int.neg_mul]
  split
  · rename_i h0
    have e1 : (e + 1074).toNat = e.toNat + 1074 := by omega
    rw [e1, Int.pow_add, ← Int.mul_assoc, Int.mul_ediv_cancel _ (by have := ppos 1074; omega)]
  · rename_i h0
    have e1 : 1074 = (-e).toNat + (e + 1074).toNat := by omega
    have e2 : (2 : Int) ^ 1074 = 2 ^ (-e).toNat * 2 ^ (e + 1074).toNat := by rw [← Int.pow_add, ← e1]
    rw [e2, Int.mul_ediv_mul_of_pos_left _ _ (ppos _), Int.fdiv_eq_ediv_of_nonneg _ (Int.le_of_lt (ppos _))]

open PySem.Flt in
theorem toInt_fin {f : Bool → Nat → Int → Int} {x : UInt64} {sg : Bool} {m : Nat} {e : Int} (h : decode x = .fin sg m e) : toInt f x = f sg m e := by unfold toInt; rw [h]

theorem edivP (n : Int) : n * 2 ^ 1067 / 2 ^ 1074 = n / 128 := by
  rw [p1074, Int.mul_comm n, Int.mul_comm (128 : Int), Int.mul_ediv_mul_of_pos _ _ (ppos _)]
open PySem.Flt in
theorem D_floor {n : Int} (hn : n.natAbs ≤ 2 ^ 53) : toInt floorOf (D n) = n / 128 := by
  obtain ⟨m, e, hx⟩ := D_fin hn
  rw [toInt_fin hx, floorOf_val hx, D_val hn, edivP]
open PySem.Flt in
theorem D_ceil {n : Int} (hn : n.natAbs ≤ 2 ^ 53) : toInt ceilOf (D n) = -((-n) / 128) := by
  obtain ⟨m, e, hx⟩ := D_fin hn
  rw [toInt_fin hx]
  unfold ceilOf
  rw [floorOf_not hx, D_val hn, ← Int.neg_mul, edivP]
open PySem.Flt in
theorem D_trunc {n : Int} (hn : n.natAbs ≤ 2 ^ 53) (h0 : 0 ≤ n) : toInt truncOf (D n) = n / 128 := by
  obtain ⟨m, e, hx⟩ := D_fin hn
  rw [toInt_fin hx]
  unfold truncOf
  rw [if_neg (by simp; omega), floorOf_val hx, D_val hn, edivP]

/-- floor of a rounded quotient: j more bits than the whole part leave room for the least gap 1/d -/
theorem Qf_floor_val {n : Int} {d j : Nat} (hd : 0 < d) (hj : j ≤ 52) (hn : n.natAbs ≤ 2 ^ 100) (hk1 : -(2 ^ (53 - j) : Int) ≤ n / d) (hk2 : n / d + 1 ≤ 2 ^ (53 - j)) (hdj : d < 2 ^ (j + 1)) :
    val (Qf n d) / 2 ^ 1074 = n / d := by
  have hg := (Qf_near hd hn).2
  have hdp : (0 : Int) < d := by omega
  have hnd := Int.mul_ediv_add_emod n d
  have hr0 := Int.emod_nonneg n (show (d : Int) ≠ 0 by omega)
  have hr1 := Int.emod_lt_of_pos n hdp
  generalize n / (d : Int) = k at *
  generalize n % (d : Int) = r at *
  have hU := ppos 1074
  have e1 : (2 : Int) ^ 1074 = 2 ^ j * 2 ^ (1074 - j) := by rw [← Int.pow_add]; congr 1; omega
  have e2 : (2 : Int) ^ 53 = 2 ^ j * 2 ^ (53 - j) := by rw [← Int.pow_add]; congr 1; omega
  have e3 : (2 : Int) ^ (j + 1) = 2 * 2 ^ j := by rw [Int.pow_succ, Int.mul_comm]
  have hdj' : (d : Int) < 2 * 2 ^ j := by rw [← e3, ← pow_cast]; omega
  have hJ := ppos j
  have hKJ : ((k + 1) * 2 ^ j) ≤ 2 ^ 53 := by
    rw [e2, Int.mul_comm (k + 1)]; exact Int.mul_le_mul_of_nonneg_left hk2 (Int.le_of_lt hJ)
  have hKJ2 : -(2 ^ 53 : Int) ≤ k * 2 ^ j := by
    rw [e2, Int.mul_comm k, ← Int.mul_neg]; exact Int.mul_le_mul_of_nonneg_left hk1 (Int.le_of_lt hJ)
  have eK : (k + 1) * 2 ^ j = k * 2 ^ j + 2 ^ j := by rw [Int.add_mul, Int.one_mul]
  have hkb : k.natAbs ≤ 2 ^ 53 := by
    have p1 : (2 : Int) ^ (53 - j) ≤ 2 ^ 53 := by
      rw [← pow_cast, ← pow_cast]; exact Int.ofNat_le.mpr (Nat.pow_le_pow_right (by decide) (by omega))
    have q1 : (2 : Int) ^ 53 = 9007199254740992 := by decide
    generalize (2 : Int) ^ (53 - j) = z at *
    omega
  have q53 : (2 : Int) ^ 53 = 9007199254740992 := by decide
  have lo : k * 2 ^ 1074 ≤ val (Qf n d) := near_ge hdp (hg _ (rep_pow hkb (by decide))) (by
    rw [← Int.mul_assoc]; exact Int.mul_le_mul_of_nonneg_right (by omega) (Int.le_of_lt hU))
  have hrep : Rep (((k + 1) * 2 ^ j - 1) * 2 ^ (1074 - j)) := rep_pow (by generalize (k + 1) * 2 ^ j = z at *; generalize k * 2 ^ j = z' at *; omega) (by omega)
  have hi : val (Qf n d) < (k + 1) * 2 ^ 1074 := by
    refine near_lt hdp (hg _ hrep) ?_ ?_
    · rw [e1, ← Int.mul_assoc]
      exact Int.mul_lt_mul_of_pos_right (by omega) (ppos _)
    · rw [e1]
      have hG := ppos (1074 - j)
      generalize (2 : Int) ^ (1074 - j) = G at *
      generalize (2 : Int) ^ j = J at *
      have a1 : 2 * (n * (J * G)) = (2 * n * J) * G := by simp only [Int.mul_assoc]
      have a2 : (d : Int) * (((k + 1) * J - 1) * G) + d * ((k + 1) * (J * G)) = (2 * (d * (k + 1)) * J - d) * G := by
        simp only [Int.sub_mul, Int.mul_sub, Int.mul_add, Int.add_mul, Int.one_mul, Int.mul_one, Int.mul_assoc, Int.two_mul]
        omega
      rw [a1, a2]
      refine Int.mul_lt_mul_of_pos_right ?_ hG
      have a3 : d * (k + 1) = n - r + d := by rw [Int.mul_add, Int.mul_one]; omega
      rw [a3]
      have a4 : 2 * (n - r + d) * J = 2 * n * J + 2 * ((d - r) * J) := by
        simp only [Int.mul_add, Int.add_mul, Int.mul_sub, Int.sub_mul, Int.mul_assoc]; omega
      have a5 : 1 * J ≤ (d - r) * J := Int.mul_le_mul_of_nonneg_right (by omega) (Int.le_of_lt hJ)
      rw [a4]
      omega
  have l1 := Int.le_ediv_of_mul_le hU lo
  have l2 := Int.ediv_lt_of_lt_mul hU hi
  clear hg hnd hr0 hr1 e1 e2 e3 hrep lo hi hU hdj' hKJ hKJ2 eK hkb hk1 hk2
  generalize val (Qf n d) / 2 ^ 1074 = z at *
  omega
open PySem.Flt in
theorem Qf_floor {n : Int} {d : Nat} (j : Nat) (hd : 0 < d) (hj : j ≤ 52) (hn : n.natAbs ≤ 2 ^ 100) (hk1 : -(2 ^ (53 - j) : Int) ≤ n / d) (hk2 : n / d + 1 ≤ 2 ^ (53 - j)) (hdj : d < 2 ^ (j + 1)) :
    toInt floorOf (Qf n d) = n / d := by
  obtain ⟨⟨m, e, hx⟩, _⟩ := Qf_near hd hn
  rw [toInt_fin hx, floorOf_val hx]
  exact Qf_floor_val hd hj hn hk1 hk2 hdj
open PySem.Flt in
theorem Qf_trunc {n : Int} {d : Nat} (j : Nat) (hd : 0 < d) (hj : j ≤ 52) (h0 : 0 ≤ n) (hn : n.natAbs ≤ 2 ^ 100) (hk1 : -(2 ^ (53 - j) : Int) ≤ n / d) (hk2 : n / d + 1 ≤ 2 ^ (53 - j)) (hdj : d < 2 ^ (j + 1)) :
    toInt truncOf (Qf n d) = n / d := by
  obtain ⟨⟨m, e, hx⟩, _⟩ := Qf_near hd hn
  rw [toInt_fin hx]
  unfold truncOf
  rw [if_neg (by simp; omega), floorOf_val hx]
  exact Qf_floor_val hd hj hn hk1 hk2 hdj

theorem Qf_neg_val {n : Int} {d : Nat} (hd : 0 < d) (hn : n.natAbs ≤ 2 ^ 100) (h0 : n ≠ 0) : val (Qf n d) = -val (Qf (-n) d) := by
  have hw : (-n).natAbs = n.natAbs := Int.natAbs_neg n
  obtain ⟨t, hr, hlt, hv, hg⟩ := right_near (Qf_right (n := n) (W := n.natAbs * 2 ^ 1074) hd rfl hd) (no_over hd hn)
  have e1 : Qf n d = pack (decide (n < 0)) (roundMag n.natAbs d) := by unfold Qf ofFrac; rfl
  have e2 : Qf (-n) d = pack (decide (-n < 0)) (roundMag n.natAbs d) := by unfold Qf ofFrac; rw [hw]
  have ht : roundMag n.natAbs d < infMag := by
    have h := (Qf_right (n := n) (W := n.natAbs * 2 ^ 1074) hd rfl hd)
    have hle : roundMag n.natAbs d ≤ infMag := by rw [roundMag_min]; omega
    rcases Nat.lt_or_ge (roundMag n.natAbs d) infMag with h | h
    · exact h
    · exfalso
      have := (roundMag_over (n := n.natAbs) hd).mp (by omega)
      exact absurd this (Nat.not_le.mpr (no_over hd hn))
  rw [e1, e2, val_pack _ ht, val_pack _ ht]
  by_cases h : n < 0
  · have : ¬ 0 < n := by omega
    simp [h, this, sgn]
  · have : 0 < n := by omega
    simp [h, this, sgn]
open PySem.Flt in
theorem Qf_ceil {n : Int} {d : Nat} (j : Nat) (hd : 0 < d) (hj : j ≤ 52) (hn : n.natAbs ≤ 2 ^ 100) (hk1 : -(2 ^ (53 - j) : Int) ≤ -n / d) (hk2 : -n / d + 1 ≤ 2 ^ (53 - j)) (hdj : d < 2 ^ (j + 1)) :
    toInt ceilOf (Qf n d) = -(-n / d) := by
  obtain ⟨⟨m, e, hx⟩, _⟩ := Qf_near hd hn
  rw [toInt_fin hx]
  unfold ceilOf
  rw [floorOf_not hx]
  by_cases h0 : n = 0
  · subst h0
    have : val (Qf 0 d) = 0 := by
      have e : Qf 0 d = D 0 := Qf_reduce hd (by decide) (by rw [Int.zero_mul, Int.zero_mul])
      rw [e, D_val (by decide), Int.zero_mul]
    rw [this]; simp
  · rw [Qf_neg_val hd hn h0, Int.neg_neg, Qf_floor_val hd hj (by rw [Int.natAbs_neg]; exact hn) hk1 hk2 hdj]

/-- the remainder, as % gives it, by a divisor above nought -/
theorem D_mod {a b : Int} (ha : a.natAbs ≤ 2 ^ 53) (hb : b.natAbs ≤ 2 ^ 53) (hp : 0 < b) : (divmod (D a) (D b)).2 = D (a % b) := by
  obtain ⟨m, e, hx⟩ := D_fin ha
  obtain ⟨k, f, hy⟩ := D_fin hb
  have hvx := val_natAbs hx
  have hvy := val_natAbs hy
  rw [D_val ha, natAbs_mul_pow] at hvx
  rw [D_val hb, natAbs_mul_pow] at hvy
  have hex := decode_ge hx
  have hey := decode_ge hy
  have hk : k ≠ 0 := by
    intro h0
    rw [h0, Nat.zero_mul] at hvy
    have hp0 := Nat.two_pow_pos 1067
    rcases Nat.mul_eq_zero.mp hvy with h | h
    · omega
    · generalize (2 : Nat) ^ 1067 = P at *; omega
  have hb0 : decide (b < 0) = false := by simp; omega
  rw [hb0] at hy
  have hf : fmod (D a) (D b) = ofBin (decide (a < 0)) ((m * 2 ^ (e - min e f).toNat) % (k * 2 ^ (f - min e f).toNat)) (min e f) := by
    unfold fmod
    rw [hx, hy]
    show (if k == 0 then nan else ofBin (decide (a < 0)) ((sgn false (m * 2 ^ (e - min e f).toNat)).toNat % (sgn false (k * 2 ^ (f - min e f).toNat)).toNat) (min e f)) = _
    rw [if_neg (by simpa using hk)]
    rfl
  have hfr : Right (fmod (D a) (D b)) (decide (a < 0)) ((a.natAbs % b.natAbs) * 2 ^ 1067) 1 := by
    rw [hf]
    unfold ofBin
    generalize hM : (m * 2 ^ (e - min e f).toNat) % (k * 2 ^ (f - min e f).toNat) = M
    show Right (ofFrac (decide (a < 0)) (shift M 1 (min e f)).1 (shift M 1 (min e f)).2) _ _ _
    refine ofFrac_right (shift_pos _ _ _ (by decide)) ?_ (by decide)
    rw [← hM]
    have h1 := shift_one ((m * 2 ^ (e - min e f).toNat) % (k * 2 ^ (f - min e f).toNat)) (min e f) 1074 (by omega)
    rw [Nat.mul_one, h1]
    refine congrArg (· * _) ?_
    have q1 : m * 2 ^ (e - min e f).toNat * 2 ^ (min e f + ((1074 : Nat) : Int)).toNat = m * 2 ^ (e + 1074).toNat := by rw [Nat.mul_assoc, ← Nat.pow_add, show (e - min e f).toNat + (min e f + ((1074 : Nat) : Int)).toNat = (e + 1074).toNat by omega]
    have q2 : k * 2 ^ (f - min e f).toNat * 2 ^ (min e f + ((1074 : Nat) : Int)).toNat = k * 2 ^ (f + 1074).toNat := by rw [Nat.mul_assoc, ← Nat.pow_add, show (f - min e f).toNat + (min e f + ((1074 : Nat) : Int)).toNat = (f + 1074).toNat by omega]
    rw [← Nat.mul_mod_mul_right, q1, q2, ← hvx, ← hvy, Nat.mul_mod_mul_right]
  -- the remainder, with the left side's sign
  have hmb : a.natAbs % b.natAbs < b.natAbs := Nat.mod_lt _ (by omega)
  have hDr : ∀ r : Int, r.natAbs = a.natAbs % b.natAbs → decide (r < 0) = decide (a < 0) → fmod (D a) (D b) = D r := by
    intro r h1 h2
    have := D_right r
    rw [natAbs_mul_pow, h1, h2] at this
    exact right_unique (by decide) hfr this
  have hlt0 : ∀ r : Int, r.natAbs ≤ 2 ^ 53 → lt (D r) (zero false) = decide (r < 0) := by
    intro r hr
    unfold lt
    rw [D_zero, D_cmp hr (by decide)]
    by_cases h : r < 0
    · rw [Int.compare_eq_lt.mpr h]; simp [h]
    · rcases Int.lt_or_eq_of_le (show 0 ≤ r by omega) with h3 | h3
      · rw [Int.compare_eq_gt.mpr h3]; simp [h]
      · rw [← h3]; simp
  have hcs : copysign (zero false) (D b) = D 0 := by
    have hnan : isNaN (zero false) = false := by decide +kernel
    have hsb : signBit (D b) = false := by
      unfold signBit
      unfold decode at hy
      simp only at hy
      split at hy
      · split at hy <;> cases hy
      · split at hy
        · have h2 := congrArg (fun x => match x with | Num.fin s _ _ => s | _ => true) hy
          simpa using h2
        · have h2 := congrArg (fun x => match x with | Num.fin s _ _ => s | _ => true) hy
          simpa using h2
    unfold copysign
    rw [hnan, hsb]
    decide +kernel
  have hm : (divmod (D a) (D b)).2 = (if isZero (fmod (D a) (D b)) then copysign (zero false) (D b) else if lt (D b) (zero false) != lt (fmod (D a) (D b)) (zero false) then add (fmod (D a) (D b)) (D b) else fmod (D a) (D b)) := by
    unfold divmod
    simp only
    split
    · rfl
    · split <;> rfl
  rw [hm]
  have hmod : (a % b).natAbs < b.natAbs := by have := Int.emod_nonneg a (show b ≠ 0 by omega); have := Int.emod_lt_of_pos a hp; omega
  by_cases hz : a.natAbs % b.natAbs = 0
  · have hz' : a % b = 0 := by
      have h1 : b.natAbs ∣ a.natAbs := Nat.dvd_of_mod_eq_zero hz
      exact Int.emod_eq_zero_of_dvd (Int.natAbs_dvd_natAbs.mp h1)
    have hiz : isZero (fmod (D a) (D b)) = true := by
      obtain ⟨t, hr, hlt, hv, hg⟩ := right_near hfr (by rw [hz, Nat.zero_mul, Nat.one_mul]; have := Nat.two_pow_pos 2045; generalize (2 : Nat) ^ 2045 = Z at *; omega)
      obtain ⟨m', e', hd', _⟩ := decode_pack (decide (a < 0)) hlt
      have h0 := hg 0 rep_zero
      rw [hz, Nat.zero_mul] at h0
      have hs0 : sgn (decide (a < 0)) 0 = 0 := by unfold sgn; split <;> rfl
      have hs0' : sgn (decide (a < 0)) 0 = 0 := hs0
      have hv0 : val (fmod (D a) (D b)) = 0 := by
        have h00 : ((0 : Nat) : Int) = 0 := rfl
        rw [hs0] at h0
        omega
      have hd2 : decode (fmod (D a) (D b)) = .fin (decide (a < 0)) m' e' := by rw [hr]; exact hd'
      have hv2 := val_natAbs hd2
      rw [hv0, Int.natAbs_zero] at hv2
      have hm0 : m' = 0 := by
        rcases Nat.mul_eq_zero.mp hv2.symm with h | h
        · exact h
        · have := Nat.two_pow_pos (e' + 1074).toNat; omega
      unfold isZero
      rw [hd2, hm0]
      rfl
    rw [if_pos hiz, hcs, hz']
  · by_cases hneg : a < 0
    · have hr := hDr (-((a.natAbs % b.natAbs : Nat) : Int)) (by omega) (by simp [hneg]; omega)
      have hb' : (-((a.natAbs % b.natAbs : Nat) : Int)).natAbs ≤ 2 ^ 53 := by omega
      rw [hr, D_isZero hb', hlt0 _ hb', hlt0 _ hb]
      have c1 : ¬ (-((a.natAbs % b.natAbs : Nat) : Int)) = 0 := by omega
      have c2 : -((a.natAbs % b.natAbs : Nat) : Int) < 0 := by omega
      have c3 : ¬ b < 0 := by omega
      rw [decide_eq_false c1, decide_eq_true c2, decide_eq_false c3, if_neg (by decide), if_pos (by decide), D_add hb' hb]
      refine congrArg D ?_
      have e1 : ((a.natAbs % b.natAbs : Nat) : Int) = (-a) % b := by
        rw [Int.natCast_emod, show ((a.natAbs : Nat) : Int) = -a by omega, show ((b.natAbs : Nat) : Int) = b by omega]
      rw [e1]
      have h3 : (-a) % b ≠ 0 := by rw [← e1]; omega
      have h4 := Int.emod_nonneg (-a) (show b ≠ 0 by omega)
      have h5 := Int.emod_lt_of_pos (-a) hp
      have h6 := Int.mul_ediv_add_emod (-a) b
      have h7 : a = (b - (-a) % b) + b * (-((-a) / b) - 1) := by rw [Int.mul_sub, Int.mul_neg, Int.mul_one]; omega
      have h8 : a % b = b - (-a) % b := by
        conv => lhs; rw [h7]
        rw [Int.add_mul_emod_self_left]
        exact Int.emod_eq_of_lt (by omega) (by omega)
      omega
    · have hr := hDr ((a.natAbs % b.natAbs : Nat) : Int) (by omega) (by simp [hneg]; omega)
      have hb' : ((a.natAbs % b.natAbs : Nat) : Int).natAbs ≤ 2 ^ 53 := by omega
      rw [hr, D_isZero hb', hlt0 _ hb', hlt0 _ hb]
      have c1 : ¬ ((a.natAbs % b.natAbs : Nat) : Int) = 0 := by omega
      have c2 : ¬ ((a.natAbs % b.natAbs : Nat) : Int) < 0 := by omega
      have c3 : ¬ b < 0 := by omega
      rw [decide_eq_false c1, decide_eq_false c2, decide_eq_false c3, if_neg (by decide), if_neg (by decide)]
      refine congrArg D ?_
      rw [Int.natCast_emod, show ((a.natAbs : Nat) : Int) = a by omega, show ((b.natAbs : Nat) : Int) = b by omega]
end Mine
end

section
namespace Mine
open PySem PySem.Float64 PySem.Flt

/-- the divisor as an int -/
def Qz (n d : Int) : UInt64 := Qf n d.toNat

theorem le53 {a : Int} (h1 : -9007199254740992 ≤ a) (h2 : a ≤ 9007199254740992) : a.natAbs ≤ 2 ^ 53 := by omega
theorem le100 {a : Int} {d : Int} (hd : 0 < d) (hd2 : d < 268435456) (h1 : -(137438953472 * d) ≤ a) (h2 : a < 137438953472 * d) : a.natAbs ≤ 2 ^ 100 := by omega

theorem Qz_floor {n d : Int} (hd : 0 < d) (hd2 : d < 131072) (h1 : -(137438953472 * d) ≤ n) (h2 : n < 137438953472 * d) : toInt floorOf (Qz n d) = n / d := by
  have e : ((d.toNat : Nat) : Int) = d := by omega
  have l1 : -137438953472 ≤ n / d := Int.le_ediv_of_mul_le hd (by omega)
  have l2 : n / d < 137438953472 := Int.ediv_lt_of_lt_mul hd (by omega)
  have := Qf_floor (n := n) (d := d.toNat) 16 (by omega) (by omega) (le100 hd (by omega) h1 h2) (by rw [e]; exact l1) (by rw [e]; show _ ≤ (137438953472 : Int); omega) (by omega)
  rw [e] at this
  exact this
theorem Qz_trunc {n d : Int} (hd : 0 < d) (hd2 : d < 131072) (h1 : 0 ≤ n) (h2 : n < 137438953472 * d) : toInt truncOf (Qz n d) = n / d := by
  have e : ((d.toNat : Nat) : Int) = d := by omega
  have l1 : -137438953472 ≤ n / d := Int.le_ediv_of_mul_le hd (by omega)
  have l2 : n / d < 137438953472 := Int.ediv_lt_of_lt_mul hd (by omega)
  have := Qf_trunc (n := n) (d := d.toNat) 16 (by omega) (by omega) h1 (le100 hd (by omega) (by omega) h2) (by rw [e]; exact l1) (by rw [e]; show _ ≤ (137438953472 : Int); omega) (by omega)
  rw [e] at this
  exact this
theorem Qz_ceil {n d : Int} (hd : 0 < d) (hd2 : d < 131072) (h1 : -(137438953472 * d) < n) (h2 : n < 137438953472 * d) : toInt ceilOf (Qz n d) = -(-n / d) := by
  have e : ((d.toNat : Nat) : Int) = d := by omega
  have l1 : -137438953472 ≤ -n / d := Int.le_ediv_of_mul_le hd (by omega)
  have l2 : -n / d < 137438953472 := Int.ediv_lt_of_lt_mul hd (by omega)
  have := Qf_ceil (n := n) (d := d.toNat) 16 (by omega) (by omega) (le100 hd (by omega) (by omega) h2) (by rw [e]; exact l1) (by rw [e]; show _ ≤ (137438953472 : Int); omega) (by omega)
  rw [e] at this
  exact this
theorem Qz_reduce {n d : Int} (hd : 0 < d) (hm : n % 128 = 0) (hdm : d % 128 = 0) : Qz n d = Qf (n / 128) (d / 128).toNat := by
  unfold Qz
  refine Qf_reduce (by omega) (by omega) ?_
  have e1 : n = 128 * (n / 128) := by omega
  have e2 : d = 128 * (d / 128) := by omega
  have e3 : ((d.toNat : Nat) : Int) = 128 * (d / 128) := by omega
  have e4 : (((d / 128).toNat : Nat) : Int) = d / 128 := by omega
  rw [e3, e4]
  conv => lhs; rw [e1]
  rw [Int.mul_comm 128 (n / 128), Int.mul_assoc]
theorem Qz_floor128 {n d : Int} (hd : 0 < d) (hd2 : d < 268435456) (hm : n % 128 = 0) (hdm : d % 128 = 0) (h1 : -(4294967296 * d) ≤ n) (h2 : n < 4294967296 * d) : toInt floorOf (Qz n d) = n / d := by
  rw [Qz_reduce hd hm hdm]
  have hd' : 0 < d / 128 := by omega
  have e : (((d / 128).toNat : Nat) : Int) = d / 128 := by omega
  have b1 : -(4294967296 * (d / 128)) ≤ n / 128 := by omega
  have b2 : n / 128 < 4294967296 * (d / 128) := by omega
  have l1 : -4294967296 ≤ (n / 128) / (d / 128) := Int.le_ediv_of_mul_le hd' (by omega)
  have l2 : (n / 128) / (d / 128) < 4294967296 := Int.ediv_lt_of_lt_mul hd' (by omega)
  have := Qf_floor (n := n / 128) (d := (d / 128).toNat) 20 (by omega) (by omega) (le100 hd' (by omega) (by omega) (by omega)) (by rw [e]; show -(8589934592 : Int) ≤ _; omega) (by rw [e]; show _ ≤ (8589934592 : Int); omega) (by omega)
  rw [this, e]
  have e1 : n = n / 128 * 128 := by omega
  have e2 : d = d / 128 * 128 := by omega
  conv => rhs; rw [e1, e2]
  rw [Int.mul_ediv_mul_of_pos_left _ _ (by decide)]
theorem Qz_isFinite {n d : Int} (hd : 0 < d) (hd2 : d < 268435456) (h1 : -(137438953472 * d) ≤ n) (h2 : n < 137438953472 * d) : isFinite (Qz n d) = true :=
  Qf_isFinite (by omega) (le100 hd hd2 h1 h2)
theorem Qz_D {n d c : Int} (hd : 0 < d) (h : n * 128 = c * d) : Qz n d = D c := by
  unfold Qz
  refine Qf_D (by omega) ?_
  rw [show ((d.toNat : Nat) : Int) = d by omega]; exact h

/-- the gregorian month's sum: all its values -/
def gmOk (m adj d : Int) : Bool := isFinite (add (add (Qf (367 * m - 362) 12) (ofInt adj)) (ofInt d)) && decide (toInt floorOf (add (add (Qf (367 * m - 362) 12) (ofInt adj)) (ofInt d)) = (367 * m - 362) / 12 + adj + d)
theorem gm_tab : ∀ m : Fin 12, ∀ a : Fin 3, ∀ d : Fin 31, gmOk ((m.val : Int) + 1) (-(a.val : Int)) ((d.val : Int) + 1) = true := by decide +kernel
theorem gm_at {m adj d : Int} (hm : 1 ≤ m ∧ m ≤ 12) (ha : -2 ≤ adj ∧ adj ≤ 0) (hd : 1 ≤ d ∧ d ≤ 31) :
    isFinite (add (add (Qf (367 * m - 362) 12) (ofInt adj)) (ofInt d)) = true ∧ toInt floorOf (add (add (Qf (367 * m - 362) 12) (ofInt adj)) (ofInt d)) = (367 * m - 362) / 12 + adj + d := by
  have h := gm_tab ⟨(m - 1).toNat, by omega⟩ ⟨(-adj).toNat, by omega⟩ ⟨(d - 1).toNat, by omega⟩
  rw [show (((m - 1).toNat : Nat) : Int) + 1 = m by omega, show -(((-adj).toNat : Nat) : Int) = adj by omega, show (((d - 1).toNat : Nat) : Int) + 1 = d by omega] at h
  unfold gmOk at h
  simpa using h

/-- 30.6001 -/
def c306 : UInt64 := 4629306380116972641
theorem j1_tab : ∀ m : Fin 16, isFinite (mul c306 (ofInt (m.val : Int))) = true ∧ toInt floorOf (mul c306 (ofInt (m.val : Int))) = 306001 * (m.val : Int) / 10000 := by decide +kernel
theorem j1_at {m : Int} (hm : 0 ≤ m ∧ m ≤ 15) : isFinite (mul c306 (ofInt m)) = true ∧ toInt floorOf (mul c306 (ofInt m)) = 306001 * m / 10000 := by
  have h := j1_tab ⟨m.toNat, by omega⟩
  rw [show ((m.toNat : Nat) : Int) = m by omega] at h
  exact h
theorem j2_tab : ∀ m : Fin 500, isFinite (div (ofInt (m.val : Int)) c306) = true ∧ toInt floorOf (div (ofInt (m.val : Int)) c306) = 10000 * (m.val : Int) / 306001 := by decide +kernel
theorem j2_at {m : Int} (hm : 0 ≤ m ∧ m < 500) : isFinite (div (ofInt m) c306) = true ∧ toInt floorOf (div (ofInt m) c306) = 10000 * m / 306001 := by
  have h := j2_tab ⟨m.toNat, by omega⟩
  rw [show ((m.toNat : Nat) : Int) = m by omega] at h
  exact h

/-- 122.1 -/
def c122 : UInt64 := 4638292440600962662
theorem c122_dec : decode c122 = .fin false 8592023664092774 (-46) := by
  have e1 : (c122.toNat / 2 ^ 63 == 1) = false := by decide +kernel
  have e2 : c122.toNat / 2 ^ 52 % 2048 = 1029 := by decide +kernel
  have e3 : c122.toNat % 2 ^ 52 = 4088424036722278 := by decide +kernel
  unfold decode
  simp only [e1, e2, e3]
  rfl
theorem p1067 : (2 : Int) ^ 1067 = 549755813888 * 2 ^ 1028 := by rw [show (549755813888 : Int) = 2 ^ 39 from rfl, ← Int.pow_add]
theorem p1074' : (2 : Int) ^ 1074 = 65536 * 2 ^ 1058 := by rw [show (65536 : Int) = 2 ^ 16 from rfl, ← Int.pow_add]

theorem jc_at {b : Int} (h1 : -50000000000000 ≤ b) (h2 : b ≤ 50000000000000) :
    isFinite (div (sub (D (128 * b)) c122) (D 46752)) = true ∧ toInt floorOf (div (sub (D (128 * b)) c122) (D 46752)) = (20 * b - 2442) / 7305 := by
  obtain ⟨m, e, hx⟩ := D_fin (n := 128 * b) (by omega)
  have hc := c122_dec
  have hvx := D_val (n := 128 * b) (by omega)
  have hvc : val c122 = 8592023664092774 * 2 ^ 1028 := by
    rw [val_eq hc]
    have e1 : (-46 + 1074 : Int).toNat = 1028 := by decide
    rw [e1, sgn_mul, pow_cast]
    rfl
  have hs := (sub_right hx hc).2
  rw [hvx, hvc] at hs
  have hY : 128 * b * 2 ^ 1067 - 8592023664092774 * 2 ^ 1028 = (70368744177664 * b - 8592023664092774) * 2 ^ 1028 := by
    rw [p1067]; generalize (2 : Int) ^ 1028 = P
    rw [Int.sub_mul]
    have : 128 * b * (549755813888 * P) = 70368744177664 * b * P := by
      rw [← Int.mul_assoc, Int.mul_assoc 128 b, Int.mul_comm b, ← Int.mul_assoc]; rfl
    rw [this]
  rw [hY] at hs
  generalize hYd : 70368744177664 * b - 8592023664092774 = Y at *
  have hY0 : Y ≠ 0 := by omega
  have hs := hs (mul_pow_ne _ hY0)
  rw [neg_mul_pos, natAbs_mul_pow] at hs
  have hYb : Y.natAbs ≤ 2 ^ 100 := by omega
  have hov : 2 * (Y.natAbs * 2 ^ 1028) < 1 * ((2 ^ 54 - 1) * 2 ^ 2045) := by
    have h := no_over (n := Y.natAbs) (d := 1) (by decide) hYb
    have hle : (2 : Nat) ^ 1028 ≤ 2 ^ 1074 := Nat.pow_le_pow_right (by decide) (by decide)
    have := Nat.mul_le_mul_left Y.natAbs hle
    exact Nat.lt_of_le_of_lt (Nat.mul_le_mul_left 2 this) h
  obtain ⟨t, hr, hlt, hv, hg⟩ := right_near hs hov
  have hXs : sgn (decide (Y < 0)) (Y.natAbs * 2 ^ 1028) = Y * 2 ^ 1028 := by rw [sgn_dec_mul, pow_cast]
  have hg0 := hg ((128 * b - 15629) * 2 ^ 1067) (rep_pow (by omega) (by decide))
  rw [hXs] at hg0
  obtain ⟨m', e', hds, _⟩ := decode_pack (decide (Y < 0)) hlt
  rw [← hr] at hds
  have hgG : (128 * b - 15629) * 2 ^ 1067 = (Y - 109951162778) * 2 ^ 1028 := by
    rw [p1067]; generalize (2 : Int) ^ 1028 = P
    rw [← Int.mul_assoc]
    refine congrArg (· * P) ?_
    omega
  rw [hgG] at hg0
  have hP := ppos 1028
  have e1 : Y * 2 ^ 1028 - ((1 : Nat) : Int) * ((Y - 109951162778) * 2 ^ 1028) = 109951162778 * 2 ^ 1028 := by
    generalize (2 : Int) ^ 1028 = P
    rw [Int.sub_mul]; omega
  rw [e1] at hg0
  generalize hvv : val (sub (D (128 * b)) c122) = v at *
  have lo : (Y - 109951162778) * 2 ^ 1028 ≤ v := by rw [Int.sub_mul]; generalize Y * 2 ^ 1028 = z at *; generalize (2 : Int) ^ 1028 = P at *; omega
  have hi : v ≤ (Y + 109951162778) * 2 ^ 1028 := by rw [Int.add_mul]; generalize Y * 2 ^ 1028 = z at *; generalize (2 : Int) ^ 1028 = P at *; omega
  have hsv : sgn (decide (Y < 0)) v.natAbs = v := by
    rw [hv]; unfold sgn; split <;> omega
  -- the quotient
  obtain ⟨k', f', hy⟩ := D_fin (n := 46752) (by decide)
  have hvy := D_val (n := 46752) (by decide)
  have hk0 : k' ≠ 0 := by
    intro h0
    have h3 := val_natAbs hy
    rw [hvy, h0, Nat.zero_mul] at h3
    have h4 := mul_pow_ne (s := 46752) 1067 (by decide)
    omega
  have hq := div_right hds hy hk0
  rw [hvv, hvy, natAbs_mul_pow] at hq
  have hneg : (decide (Y < 0) != decide ((46752 : Int) < 0)) = decide (Y < 0) := by simp
  rw [hneg] at hq
  have hvb : v.natAbs ≤ 2 ^ 101 * 2 ^ 1028 := by
    have b1 : (Y + 109951162778) * 2 ^ 1028 ≤ 2 ^ 101 * 2 ^ 1028 := Int.mul_le_mul_of_nonneg_right (by omega) (Int.le_of_lt hP)
    have b2 : -(2 ^ 101 * 2 ^ 1028) ≤ (Y - 109951162778) * 2 ^ 1028 := by rw [← Int.neg_mul]; exact Int.mul_le_mul_of_nonneg_right (by omega) (Int.le_of_lt hP)
    rw [← pow_cast 1028] at *
    generalize (2 : Nat) ^ 1028 = P at *
    generalize (Y + 109951162778) * (P : Int) = z1 at *
    generalize (Y - 109951162778) * (P : Int) = z2 at *
    omega
  have hov2 : 2 * (v.natAbs * 2 ^ 1074) < ((46752 : Int).natAbs * 2 ^ 1067) * ((2 ^ 54 - 1) * 2 ^ 2045) := by
    have q1 : v.natAbs * 2 ^ 1074 ≤ 2 ^ 101 * 2 ^ 1028 * 2 ^ 1074 := Nat.mul_le_mul_right _ hvb
    refine Nat.lt_of_le_of_lt (Nat.mul_le_mul_left 2 q1) ?_
    decide +kernel
  obtain ⟨t2, hr2, hlt2, hv2, hg2⟩ := right_near hq hov2
  have hX2 : sgn (decide (Y < 0)) (v.natAbs * 2 ^ 1074) = v * 2 ^ 1074 := by rw [sgn_mul, hsv, pow_cast]
  rw [hX2] at hg2
  have eD : (((46752 : Int).natAbs * 2 ^ 1067 : Nat) : Int) = 46752 * 2 ^ 1067 := by rw [Int.natCast_mul, pow_cast]; rfl
  rw [eD] at hg2
  obtain ⟨m2, e2, hd2, _⟩ := decode_pack (decide (Y < 0)) hlt2
  rw [← hr2] at hd2
  have hDp : (0 : Int) < 46752 * 2 ^ 1067 := by have := ppos 1067; omega
  refine ⟨by unfold isFinite; rw [hd2], ?_⟩
  rw [toInt_fin hd2, floorOf_val hd2]
  generalize val (div (sub (D (128 * b)) c122) (D 46752)) = z at *
  generalize hk : (20 * b - 2442) / 7305 = k
  have l1 : k * 2 ^ 1074 ≤ z := by
    refine near_ge hDp (hg2 _ (rep_pow (by omega) (by decide))) ?_
    have e5 : 46752 * 2 ^ 1067 * (k * 2 ^ 1074) = (46752 * 549755813888 * k) * 2 ^ 1028 * 2 ^ 1074 := by
      rw [p1067]; generalize (2 : Int) ^ 1028 = P; generalize (2 : Int) ^ 1074 = U; ac_rfl
    rw [e5]
    refine Int.mul_le_mul_of_nonneg_right ?_ (Int.le_of_lt (ppos _))
    refine Int.le_trans ?_ lo
    exact Int.mul_le_mul_of_nonneg_right (by omega) (Int.le_of_lt hP)
  have l2 : z < (k + 1) * 2 ^ 1074 := by
    refine near_lt hDp (hg2 (((k + 1) * 65536 - 1) * 2 ^ 1058) (rep_pow (by omega) (by decide))) ?_ ?_
    · rw [p1074', ← Int.mul_assoc]
      exact Int.mul_lt_mul_of_pos_right (by omega) (ppos _)
    · have e6 : 46752 * 2 ^ 1067 * (((k + 1) * 65536 - 1) * 2 ^ 1058) + 46752 * 2 ^ 1067 * ((k + 1) * 2 ^ 1074) = (46752 * 549755813888 * ((k + 1) * 131072 - 1)) * 2 ^ 1028 * 2 ^ 1058 := by
        rw [p1067, p1074']; generalize (2 : Int) ^ 1028 = P; generalize (2 : Int) ^ 1058 = U
        have a1 : 46752 * (549755813888 * P) * (((k + 1) * 65536 - 1) * U) = (46752 * 549755813888 * ((k + 1) * 65536 - 1)) * P * U := by ac_rfl
        have a2 : 46752 * (549755813888 * P) * ((k + 1) * (65536 * U)) = (46752 * 549755813888 * ((k + 1) * 65536)) * P * U := by ac_rfl
        rw [a1, a2, ← Int.add_mul, ← Int.add_mul]
        refine congrArg (· * U) (congrArg (· * P) ?_)
        omega
      have e7 : 2 * (v * 2 ^ 1074) = (131072 * v) * 2 ^ 1058 := by
        rw [p1074']; generalize (2 : Int) ^ 1058 = U
        have : v * (65536 * U) = 65536 * (v * U) := by ac_rfl
        rw [this, Int.mul_assoc]; omega
      rw [e6, e7]
      refine Int.mul_lt_mul_of_pos_right ?_ (ppos _)
      have b3 : 131072 * v ≤ 131072 * ((Y + 109951162778) * 2 ^ 1028) := by omega
      refine Int.lt_of_le_of_lt b3 ?_
      rw [← Int.mul_assoc]
      exact Int.mul_lt_mul_of_pos_right (by omega) hP
  have r1 := Int.le_ediv_of_mul_le (ppos 1074) l1
  have r2 := Int.ediv_lt_of_lt_mul (ppos 1074) l2
  generalize z / 2 ^ 1074 = zz at *
  omega
end Mine
end

section
namespace Mine
open PySem PySem.Float64 PySem.Flt PySem.W PySem.Calls PyProof.Rows

abbrev Ok53 (a : Int) : Prop := -9007199254740992 ≤ a ∧ a ≤ 9007199254740992
theorem Ok53.n {a : Int} (h : Ok53 a) : a.natAbs ≤ 2 ^ 53 := le53 h.1 h.2
theorem small_fits {n : Int} (h : Ok53 (128 * n)) : n.natAbs < 2 ^ 1024 - 2 ^ 970 := Nat.lt_of_le_of_lt (show n.natAbs ≤ 2 ^ 53 by omega) (by decide +kernel)
theorem small_over {n : Int} (h : Ok53 (128 * n)) : ¬ Over n := by
  have := small_fits h
  unfold Over; omega

theorem lit_half : (4602678819172646912 : UInt64) = D 64 := by decide +kernel
theorem lit_greg : (4700144277945057280 : UInt64) = D 220342464 := by decide +kernel
theorem lit_arm : (4701007892789067776 : UInt64) = D 246080192 := by decide +kernel
theorem lit_sark : (4701801086275551232 : UInt64) = D 271002944 := by decide +kernel
theorem lit_copt : (4700589253736792064 : UInt64) = D 233603776 := by decide +kernel
theorem lit_fr : (4702356487823949824 : UInt64) = D 304107456 := by decide +kernel
theorem lit_365 : (4645128764097822720 : UInt64) = D 46720 := by decide +kernel
theorem lit_1461 : (4654140361399074816 : UInt64) = D 187008 := by decide +kernel
theorem lit_4 : (4616189618054758400 : UInt64) = D 512 := by decide +kernel
theorem lit_isl : (4701119295650791424 : UInt64) = D 249400256 := by decide +kernel
theorem lit_295 : (4628996729495093248 : UInt64) = D 3776 := by decide +kernel
theorem lit_36525 : (4645133162144333824 : UInt64) = D 46752 := by decide +kernel
theorem lit_15245 : (4654419637352529920 : UInt64) = D 195136 := by decide +kernel
theorem lit_30 : (4629137466983448576 : UInt64) = D 3840 := by decide +kernel

-- whole numbers beyond a 128th of 2^53
theorem Z_near {n : Int} (hn : n.natAbs ≤ 2 ^ 53) : (∃ m e, decode (ofInt n) = .fin (decide (n < 0)) m e) ∧ val (ofInt n) = n * 2 ^ 1074 := by
  have e : ofInt n = Qf n 1 := by unfold ofInt Qf; rfl
  rw [e]
  have h := Qf_near (n := n) (d := 1) (by decide) (Nat.le_trans hn (by decide))
  refine ⟨h.1, ?_⟩
  have h2 := h.2 (n * 2 ^ 1074) (rep_pow hn (by decide))
  generalize val (Qf n 1) = v at *
  generalize n * 2 ^ 1074 = z at *
  omega
theorem Z_right (n : Int) : Right (ofInt n) (decide (n < 0)) (n * 2 ^ 1074).natAbs 1 := by
  have h := ofInt_right n
  rw [natAbs_mul_pow]; exact h
theorem Z_zero : zero false = ofInt 0 := by decide +kernel
theorem Z_add {a b : Int} (ha : Ok53 a) (hb : Ok53 b) : add (ofInt a) (ofInt b) = ofInt (a + b) := by
  obtain ⟨⟨m, e, hx⟩, va⟩ := Z_near ha.n
  obtain ⟨⟨k, f, hy⟩, vb⟩ := Z_near hb.n
  have h := add_right hx hy
  rw [va, vb, ← Int.add_mul] at h
  by_cases h0 : a + b = 0
  · rw [h.1 (by rw [h0, Int.zero_mul]), h0, ← Z_zero]
    congr 1
    by_cases h1 : a < 0 <;> by_cases h2 : b < 0 <;> simp [h1, h2]; omega
  · have h1 := h.2 (mul_pow_ne _ h0)
    rw [neg_mul_pos] at h1
    exact right_unique (by decide) h1 (Z_right _)
theorem Z_mul {a b : Int} (ha : Ok53 a) (hb : Ok53 b) (hp : 0 < a) : mul (ofInt a) (ofInt b) = ofInt (a * b) := by
  obtain ⟨⟨m, e, hx⟩, va⟩ := Z_near ha.n
  obtain ⟨⟨k, f, hy⟩, vb⟩ := Z_near hb.n
  have h := mul_right hx hy
  rw [va, vb, natAbs_mul_pow, natAbs_mul_pow] at h
  have hs : (decide (a < 0) != decide (b < 0)) = decide (a * b < 0) := by
    have h1 : ¬ a < 0 := by omega
    by_cases h2 : b < 0
    · have h3 := Int.mul_neg_of_pos_of_neg hp h2
      simp [h1, h2, h3]
    · have h3 : ¬ a * b < 0 := by have := Int.mul_nonneg (Int.le_of_lt hp) (show 0 ≤ b by omega); omega
      rw [decide_eq_false h1, decide_eq_false h2, decide_eq_false h3]; rfl
  rw [hs] at h
  have e : ofInt (a * b) = Qf (a * b) 1 := by unfold ofInt Qf; rfl
  rw [e]
  refine right_unique (Nat.two_pow_pos _) h (Qf_right (d := 1) (by decide) ?_ (Nat.two_pow_pos _))
  rw [Int.natAbs_mul]
  generalize (2 : Nat) ^ 1074 = U at *
  rw [Nat.mul_one]; ac_rfl
theorem Z_div {a b : Int} (ha : Ok53 a) (hb : Ok53 b) (hp : 0 < b) : div (ofInt a) (ofInt b) = Qz a b := by
  obtain ⟨⟨m, e, hx⟩, va⟩ := Z_near ha.n
  obtain ⟨⟨k, f, hy⟩, vb⟩ := Z_near hb.n
  have hk : k ≠ 0 := by
    intro h0
    have := val_natAbs hy
    rw [vb, h0, Nat.zero_mul] at this
    have h1 : b * 2 ^ 1074 = 0 := by omega
    exact mul_pow_ne 1074 (show b ≠ 0 by omega) h1
  have h := div_right hx hy hk
  rw [va, vb, natAbs_mul_pow, natAbs_mul_pow] at h
  have hs : (decide (a < 0) != decide (b < 0)) = decide (a < 0) := by
    have h1 : ¬ b < 0 := by omega
    rw [decide_eq_false h1, Bool.bne_false]
  rw [hs] at h
  have hpos : 0 < b.natAbs * 2 ^ 1074 := Nat.mul_pos (by omega) (Nat.two_pow_pos _)
  unfold Qz
  refine right_unique hpos h (Qf_right (by omega) ?_ hpos)
  rw [show b.toNat = b.natAbs by omega]
  generalize (2 : Nat) ^ 1074 = U at *
  ac_rfl

section
variable {prog : Program} {w : World} {A : Around} {E : Value → Shared → Prop} {s : Shared} {x y : UInt64} {a b n : Int} {t u : Tok} {Q : Value → Shared → Prop}
-- + - *
theorem r_add_ff (hx : x = D a) (hy : y = D b) (ha : Ok53 a) (hb : Ok53 b) (h : Q (.float (D (a + b)) s.toks) { s with toks := s.toks + 1 }) : wpAny (model prog w) A (binaryOp .Add (.float x t) (.float y u)) Q E s := by
  subst hx; subst hy
  rw [← D_add ha.n hb.n] at h
  exact add_float h
theorem r_sub_ff (hx : x = D a) (hy : y = D b) (ha : Ok53 a) (hb : Ok53 b) (h : Q (.float (D (a - b)) s.toks) { s with toks := s.toks + 1 }) : wpAny (model prog w) A (binaryOp .Sub (.float x t) (.float y u)) Q E s := by
  subst hx; subst hy
  rw [← D_sub ha.n hb.n] at h
  exact sub_float h
theorem r_iadd_ff (hx : x = D a) (hy : y = D b) (ha : Ok53 a) (hb : Ok53 b) (h : Q (.float (D (a + b)) s.toks) { s with toks := s.toks + 1 }) : wpAny (model prog w) A (inplaceOp .Add (.float x t) (.float y u)) Q E s := by
  subst hx; subst hy
  rw [← D_add ha.n hb.n] at h
  exact iadd_float h
theorem r_add_fi (hA : A.handled = none) (hx : x = D a) (ha : Ok53 a) (hn : Ok53 (128 * n)) (h : Q (.float (D (a + 128 * n)) s.toks) { s with toks := s.toks + 1 }) : wpAny (model prog w) A (binaryOp .Add (.float x t) (.int n u)) Q E s := by
  subst hx
  rw [← D_add ha.n hn.n, ← ofInt_D] at h
  exact add_fi_sharp hA (fun ho => absurd ho (by have := small_fits hn; omega)) (fun _ => h)
theorem r_add_if (hA : A.handled = none) (hx : x = D a) (ha : Ok53 a) (hn : Ok53 (128 * n)) (h : Q (.float (D (128 * n + a)) s.toks) { s with toks := s.toks + 1 }) : wpAny (model prog w) A (binaryOp .Add (.int n u) (.float x t)) Q E s := by
  subst hx
  rw [← D_add hn.n ha.n, ← ofInt_D] at h
  exact add_if_sharp hA (fun ho => absurd ho (by have := small_fits hn; omega)) (fun _ => h)
theorem r_sub_fi (hA : A.handled = none) (hx : x = D a) (ha : Ok53 a) (hn : Ok53 (128 * n)) (h : Q (.float (D (a - 128 * n)) s.toks) { s with toks := s.toks + 1 }) : wpAny (model prog w) A (binaryOp .Sub (.float x t) (.int n u)) Q E s := by
  subst hx
  rw [← D_sub ha.n hn.n, ← ofInt_D] at h
  exact sub_fi_sharp hA (fun ho => absurd ho (by have := small_fits hn; omega)) (fun _ => h)
theorem r_sub_if (hA : A.handled = none) (hx : x = D a) (ha : Ok53 a) (hn : Ok53 (128 * n)) (h : Q (.float (D (128 * n - a)) s.toks) { s with toks := s.toks + 1 }) : wpAny (model prog w) A (binaryOp .Sub (.int n u) (.float x t)) Q E s := by
  subst hx
  rw [← D_sub hn.n ha.n, ← ofInt_D] at h
  exact sub_if_sharp hA (fun ho => absurd ho (by have := small_fits hn; omega)) (fun _ => h)
theorem r_iadd_fi (hA : A.handled = none) (hx : x = D a) (ha : Ok53 a) (hn : Ok53 (128 * n)) (h : Q (.float (D (a + 128 * n)) s.toks) { s with toks := s.toks + 1 }) : wpAny (model prog w) A (inplaceOp .Add (.float x t) (.int n u)) Q E s := by
  subst hx
  rw [← D_add ha.n hn.n, ← ofInt_D] at h
  exact iadd_fi hA (fun ho => absurd ho (small_over hn)) (fun _ => h)
theorem r_isub_fi (hA : A.handled = none) (hx : x = D a) (ha : Ok53 a) (hn : Ok53 (128 * n)) (h : Q (.float (D (a - 128 * n)) s.toks) { s with toks := s.toks + 1 }) : wpAny (model prog w) A (inplaceOp .Sub (.float x t) (.int n u)) Q E s := by
  subst hx
  rw [← D_sub ha.n hn.n, ← ofInt_D] at h
  exact isub_fi hA (fun ho => absurd ho (small_over hn)) (fun _ => h)
theorem r_mul_fi (hA : A.handled = none) (hx : x = D a) (ha : Ok53 a) (hn : Ok53 (128 * n)) (hp : 0 < a ∨ 0 < 128 * n) (h : Q (.float (D (a * n)) s.toks) { s with toks := s.toks + 1 }) : wpAny (model prog w) A (binaryOp .Mult (.float x t) (.int n u)) Q E s := by
  subst hx
  rw [← D_mul (c := a * n) ha.n hn.n hp (by ac_rfl), ← ofInt_D] at h
  exact mul_fi_sharp hA (fun ho => absurd ho (by have := small_fits hn; omega)) (fun _ => h)
theorem r_mul_if (hA : A.handled = none) (hx : x = D a) (ha : Ok53 a) (hn : Ok53 (128 * n)) (hp : 0 < 128 * n ∨ 0 < a) (h : Q (.float (D (n * a)) s.toks) { s with toks := s.toks + 1 }) : wpAny (model prog w) A (binaryOp .Mult (.int n u) (.float x t)) Q E s := by
  subst hx
  rw [← D_mul (c := n * a) hn.n ha.n hp (by ac_rfl), ← ofInt_D] at h
  exact mul_if_sharp hA (fun ho => absurd ho (by have := small_fits hn; omega)) (fun _ => h)
-- / and %
theorem zero_D {b : Int} (hb : Ok53 b) (hp : 0 < b) : ¬ isZero (D b) = true := by rw [D_isZero hb.n]; simp; omega
theorem r_div_fi (hA : A.handled = none) (hx : x = D a) (ha : Ok53 a) (hn : Ok53 (128 * n)) (hp : 0 < n) (h : Q (.float (Qz a (128 * n)) s.toks) { s with toks := s.toks + 1 }) : wpAny (model prog w) A (binaryOp .Div (.float x t) (.int n u)) Q E s := by
  subst hx
  have e : Qz a (128 * n) = Float64.div (D a) (ofInt n) := by rw [ofInt_D]; exact (D_div' ha.n hn.n (by omega)).symm
  rw [e] at h
  exact truediv_fi hA (fun ho => absurd ho (small_over hn)) (fun h0 => by omega) (fun _ _ => h)
theorem r_div_if (hA : A.handled = none) (hx : x = D a) (ha : Ok53 a) (hn : Ok53 (128 * n)) (hp : 0 < a) (h : Q (.float (Qz (128 * n) a) s.toks) { s with toks := s.toks + 1 }) : wpAny (model prog w) A (binaryOp .Div (.int n u) (.float x t)) Q E s := by
  subst hx
  have e : Qz (128 * n) a = Float64.div (ofInt n) (D a) := by rw [ofInt_D]; exact (D_div' hn.n ha.n hp).symm
  rw [e] at h
  exact truediv_if hA (fun ho => absurd ho (small_over hn)) (fun _ h0 => absurd h0 (zero_D ha hp)) (fun _ _ => h)
theorem r_div_ff (hA : A.handled = none) (hx : x = D a) (hy : y = D b) (ha : Ok53 a) (hb : Ok53 b) (hp : 0 < b) (h : Q (.float (Qz a b) s.toks) { s with toks := s.toks + 1 }) : wpAny (model prog w) A (binaryOp .Div (.float x t) (.float y u)) Q E s := by
  subst hx; subst hy
  have e : Qz a b = Float64.div (D a) (D b) := (D_div' ha.n hb.n hp).symm
  rw [e] at h
  exact truediv_float_or hA (fun h0 => absurd h0 (zero_D hb hp)) (fun _ => h)
theorem r_div_ii {m n : Int} (hA : A.handled = none) (hm : Ok53 m) (hp : 0 < n) (h : Q (.float (Qz m n) s.toks) { s with toks := s.toks + 1 }) : wpAny (model prog w) A (binaryOp .Div (.int m t) (.int n u)) Q E s := by
  refine div_ii_fits hA (Nat.lt_of_le_of_lt hm.n (by decide +kernel)) (fun h0 => by omega) (fun _ _ => ?_)
  have e : ofFrac (decide (m < 0) != decide (n < 0)) m.natAbs n.natAbs = Qz m n := by
    unfold Qz Qf
    have h1 : decide (n < 0) = false := by simp; omega
    rw [h1, Bool.bne_false]
    congr 1
    omega
  rw [e]
  exact h
theorem r_mod_fi (hA : A.handled = none) (hx : x = D a) (ha : Ok53 a) (hn : Ok53 (128 * n)) (hp : 0 < n) (h : ∀ r, r = a % (128 * n) → Q (.float (D r) s.toks) { s with toks := s.toks + 1 }) : wpAny (model prog w) A (binaryOp .Mod (.float x t) (.int n u)) Q E s := by
  subst hx
  have h := h _ rfl
  rw [← D_mod ha.n hn.n (by omega), ← ofInt_D] at h
  exact mod_fi hA (fun ho => absurd ho (small_over hn)) (fun h0 => by omega) (fun _ _ => h)
theorem r_mod_if (hA : A.handled = none) (hx : x = D a) (ha : Ok53 a) (hn : Ok53 (128 * n)) (hp : 0 < a) (h : ∀ r, r = (128 * n) % a → Q (.float (D r) s.toks) { s with toks := s.toks + 1 }) : wpAny (model prog w) A (binaryOp .Mod (.int n u) (.float x t)) Q E s := by
  subst hx
  have h := h _ rfl
  rw [← D_mod hn.n ha.n hp, ← ofInt_D] at h
  exact mod_if hA (fun ho => absurd ho (small_over hn)) (fun _ h0 => absurd h0 (zero_D ha hp)) (fun _ _ => h)
theorem r_mod_ff (hA : A.handled = none) (hx : x = D a) (hy : y = D b) (ha : Ok53 a) (hb : Ok53 b) (hp : 0 < b) (h : ∀ r, r = a % b → Q (.float (D r) s.toks) { s with toks := s.toks + 1 }) : wpAny (model prog w) A (binaryOp .Mod (.float x t) (.float y u)) Q E s := by
  subst hx; subst hy
  have h := h _ rfl
  rw [← D_mod ha.n hb.n hp] at h
  exact mod_ff hA (fun h0 => absurd h0 (zero_D hb hp)) (fun _ => h)
-- floor, ceil, trunc, int
theorem fin_floor (hf : isFinite x = true) (hA : A.handled = none) {v : Int} (hv : toInt floorOf x = v) (h : Q (.int v s.toks) { s with toks := s.toks + 1 }) : wpAny (model prog w) A (call (.builtin "math.floor") [.float x t]) Q E s :=
  call_floor_float hA (fun h0 => by rw [not_nan_of_finite hf] at h0; cases h0) (fun h0 => by rw [not_inf_of_finite hf] at h0; cases h0) (fun _ => by rw [hv]; exact h)
theorem fin_ceil (hf : isFinite x = true) (hA : A.handled = none) {v : Int} (hv : toInt ceilOf x = v) (h : Q (.int v s.toks) { s with toks := s.toks + 1 }) : wpAny (model prog w) A (call (.builtin "math.ceil") [.float x t]) Q E s :=
  call_ceil_float hA (fun h0 => by rw [not_nan_of_finite hf] at h0; cases h0) (fun h0 => by rw [not_inf_of_finite hf] at h0; cases h0) (fun _ => by rw [hv]; exact h)
theorem fin_trunc (hf : isFinite x = true) (hA : A.handled = none) {v : Int} (hv : toInt truncOf x = v) (h : Q (.int v s.toks) { s with toks := s.toks + 1 }) : wpAny (model prog w) A (call (.builtin "math.trunc") [.float x t]) Q E s :=
  call_trunc_float hA (fun h0 => by rw [not_nan_of_finite hf] at h0; cases h0) (fun h0 => by rw [not_inf_of_finite hf] at h0; cases h0) (fun _ => by rw [hv]; exact h)
theorem fin_int (hf : isFinite x = true) (hA : A.handled = none) {v : Int} (hv : toInt truncOf x = v) (h : Q (.int v s.toks) { s with toks := s.toks + 1 }) : wpAny (model prog w) A (call (.type "int") [.float x t]) Q E s :=
  call_int_float3 hA (fun h0 => by rw [not_nan_of_finite hf] at h0; cases h0) (fun h0 => by rw [not_inf_of_finite hf] at h0; cases h0) (fun _ => by rw [hv]; exact h)
theorem r_floor_D (hA : A.handled = none) (hx : x = D a) (ha : Ok53 a) (h : ∀ q, q = a / 128 → Q (.int q s.toks) { s with toks := s.toks + 1 }) : wpAny (model prog w) A (call (.builtin "math.floor") [.float x t]) Q E s := by
  subst hx; exact fin_floor (D_isFinite ha.n) hA (D_floor ha.n) (h _ rfl)
theorem r_ceil_D (hA : A.handled = none) (hx : x = D a) (ha : Ok53 a) (h : ∀ q, q = -((-a) / 128) → Q (.int q s.toks) { s with toks := s.toks + 1 }) : wpAny (model prog w) A (call (.builtin "math.ceil") [.float x t]) Q E s := by
  subst hx; exact fin_ceil (D_isFinite ha.n) hA (D_ceil ha.n) (h _ rfl)
theorem r_trunc_D (hA : A.handled = none) (hx : x = D a) (ha : Ok53 a) (h0 : 0 ≤ a) (h : ∀ q, q = a / 128 → Q (.int q s.toks) { s with toks := s.toks + 1 }) : wpAny (model prog w) A (call (.builtin "math.trunc") [.float x t]) Q E s := by
  subst hx; exact fin_trunc (D_isFinite ha.n) hA (D_trunc ha.n h0) (h _ rfl)
theorem r_int_D (hA : A.handled = none) (hx : x = D a) (ha : Ok53 a) (h0 : 0 ≤ a) (h : ∀ q, q = a / 128 → Q (.int q s.toks) { s with toks := s.toks + 1 }) : wpAny (model prog w) A (call (.type "int") [.float x t]) Q E s := by
  subst hx; exact fin_int (D_isFinite ha.n) hA (D_trunc ha.n h0) (h _ rfl)
theorem r_floor_Q {d : Int} (hA : A.handled = none) (hx : x = Qz a d) (hd : 0 < d) (hd2 : d < 131072) (h1 : -(137438953472 * d) ≤ a) (h2 : a < 137438953472 * d) (h : ∀ q, q = a / d → Q (.int q s.toks) { s with toks := s.toks + 1 }) : wpAny (model prog w) A (call (.builtin "math.floor") [.float x t]) Q E s := by
  subst hx; exact fin_floor (Qz_isFinite hd (by omega) h1 h2) hA (Qz_floor hd hd2 h1 h2) (h _ rfl)
theorem r_floor_Q128 {d : Int} (hA : A.handled = none) (hx : x = Qz a d) (hd : 0 < d) (hd2 : d < 268435456) (hm : a % 128 = 0) (hdm : d % 128 = 0) (h1 : -(4294967296 * d) ≤ a) (h2 : a < 4294967296 * d) (h : ∀ q, q = a / d → Q (.int q s.toks) { s with toks := s.toks + 1 }) : wpAny (model prog w) A (call (.builtin "math.floor") [.float x t]) Q E s := by
  subst hx; exact fin_floor (Qz_isFinite hd hd2 (by omega) (by omega)) hA (Qz_floor128 hd hd2 hm hdm h1 h2) (h _ rfl)
theorem r_ceil_Q {d : Int} (hA : A.handled = none) (hx : x = Qz a d) (hd : 0 < d) (hd2 : d < 131072) (h1 : -(137438953472 * d) < a) (h2 : a < 137438953472 * d) (h : ∀ q, q = -(-a / d) → Q (.int q s.toks) { s with toks := s.toks + 1 }) : wpAny (model prog w) A (call (.builtin "math.ceil") [.float x t]) Q E s := by
  subst hx; exact fin_ceil (Qz_isFinite hd (by omega) (by omega) h2) hA (Qz_ceil hd hd2 h1 h2) (h _ rfl)
theorem r_trunc_Q {d : Int} (hA : A.handled = none) (hx : x = Qz a d) (hd : 0 < d) (hd2 : d < 131072) (h1 : 0 ≤ a) (h2 : a < 137438953472 * d) (h : ∀ q, q = a / d → Q (.int q s.toks) { s with toks := s.toks + 1 }) : wpAny (model prog w) A (call (.builtin "math.trunc") [.float x t]) Q E s := by
  subst hx; exact fin_trunc (Qz_isFinite hd (by omega) (by omega) h2) hA (Qz_trunc hd hd2 h1 h2) (h _ rfl)
theorem Qz_trunc128 {n d : Int} (hd : 0 < d) (hd2 : d < 16777216) (hm : n % 128 = 0) (hdm : d % 128 = 0) (h1 : 0 ≤ n) (h2 : n < 137438953472 * d) : isFinite (Qz n d) = true ∧ toInt truncOf (Qz n d) = n / d := by
  have hd' : 0 < d / 128 := by omega
  have e0 : Qz n d = Qz (n / 128) (d / 128) := by rw [Qz_reduce hd hm hdm]; rfl
  have b2 : n / 128 < 137438953472 * (d / 128) := by omega
  refine ⟨by rw [e0]; exact Qz_isFinite hd' (by omega) (by omega) b2, ?_⟩
  rw [e0, Qz_trunc hd' (by omega) (by omega) b2]
  have e1 : n = n / 128 * 128 := by omega
  have e2 : d = d / 128 * 128 := by omega
  conv => rhs; rw [e1, e2]
  rw [Int.mul_ediv_mul_of_pos_left _ _ (by decide)]
theorem r_trunc_Q128 {d : Int} (hA : A.handled = none) (hx : x = Qz a d) (hd : 0 < d) (hd2 : d < 16777216) (hm : a % 128 = 0) (hdm : d % 128 = 0) (h1 : 0 ≤ a) (h2 : a < 137438953472 * d) (h : ∀ q, q = a / d → Q (.int q s.toks) { s with toks := s.toks + 1 }) : wpAny (model prog w) A (call (.builtin "math.trunc") [.float x t]) Q E s := by
  subst hx
  have g := Qz_trunc128 hd hd2 hm hdm h1 h2
  exact fin_trunc g.1 hA g.2 (h _ rfl)
-- comparisons
theorem cmp_lt_iff (a b : Int) : (some (compare a b) == some Ordering.lt) = decide (a < b) := by
  rcases Int.lt_trichotomy a b with h | h | h
  · rw [Int.compare_eq_lt.mpr h]; simp [h]
  · subst h; simp
  · rw [Int.compare_eq_gt.mpr h]; simp; omega
theorem cmp_eq_iff (a b : Int) : (some (compare a b) == some Ordering.eq) = decide (a = b) := by
  rcases Int.lt_trichotomy a b with h | h | h
  · rw [Int.compare_eq_lt.mpr h]; simp; omega
  · subst h; simp
  · rw [Int.compare_eq_gt.mpr h]; simp; omega
theorem r_lt_fi (hx : x = D a) (ha : Ok53 a) (h : Q (.bool (decide (a < 128 * n))) s) : wpAny (model prog w) A (compareOp .Lt (.float x t) (.int n u)) Q E s := by
  subst hx; refine lt_fi ?_; rw [D_cmpInt ha.n, cmp_lt_iff]; exact h
theorem r_eq_fi (hx : x = D a) (ha : Ok53 a) (h : Q (.bool (decide (a = 128 * n))) s) : wpAny (model prog w) A (compareOp .Eq (.float x t) (.int n u)) Q E s := by
  subst hx; refine eq_fi ?_; rw [D_cmpInt ha.n, cmp_eq_iff]; exact h
theorem r_eq_if (hx : x = D a) (ha : Ok53 a) (h : Q (.bool (decide (a = 128 * n))) s) : wpAny (model prog w) A (compareOp .Eq (.int n u) (.float x t)) Q E s := by
  subst hx; refine eq_if ?_; rw [D_cmpInt ha.n, cmp_eq_iff]; exact h
theorem r_mul_f365 (hx : x = D a) (ha : Ok53 a) (h : Q (.float (D (365 * a)) s.toks) { s with toks := s.toks + 1 }) : wpAny (model prog w) A (binaryOp .Mult (.float x t) (.float 4645128764097822720 u)) Q E s := by
  subst hx
  refine mul_float ?_
  rw [lit_365, D_mul (c := 365 * a) ha.n (by decide) (.inr (by decide)) (by omega)]
  exact h
theorem r_mul30Z (hA : A.handled = none) (hx : x = D a) (ha : Ok53 a) (h128 : a % 128 = 0) (h : ∀ k, 128 * k = a → Q (.float (ofInt (30 * k)) s.toks) { s with toks := s.toks + 1 }) : wpAny (model prog w) A (binaryOp .Mult (.int 30 u) (.float x t)) Q E s := by
  subst hx
  have e : a = 128 * (a / 128) := by omega
  have h := h (a / 128) e.symm
  rw [← Z_mul (by decide) ⟨by omega, by omega⟩ (by decide), ofInt_D (a / 128), ← e] at h
  exact mul_if_sharp hA (fun ho => absurd ho (by have := small_fits (n := 30) (by decide); omega)) (fun _ => h)
theorem r_addZ (hA : A.handled = none) (hx : x = ofInt a) (ha : Ok53 a) (hn : Ok53 (128 * n)) (h : Q (.float (ofInt (a + n)) s.toks) { s with toks := s.toks + 1 }) : wpAny (model prog w) A (binaryOp .Add (.float x t) (.int n u)) Q E s := by
  subst hx
  rw [← Z_add ha ⟨by omega, by omega⟩] at h
  exact add_fi_sharp hA (fun ho => absurd ho (by have := small_fits hn; omega)) (fun _ => h)
theorem r_divZ (hA : A.handled = none) (hx : x = ofInt a) (ha : Ok53 a) (hn : Ok53 (128 * n)) (hp : 0 < n) (h : Q (.float (Qz a n) s.toks) { s with toks := s.toks + 1 }) : wpAny (model prog w) A (binaryOp .Div (.float x t) (.int n u)) Q E s := by
  subst hx
  rw [← Z_div ha ⟨by omega, by omega⟩ hp] at h
  exact truediv_fi hA (fun ho => absurd ho (small_over hn)) (fun h0 => by omega) (fun _ _ => h)
theorem r_lt_ff (hx : x = D a) (hy : y = D b) (ha : Ok53 a) (hb : Ok53 b) (h : Q (.bool (decide (a < b))) s) : wpAny (model prog w) A (compareOp .Lt (.float x t) (.float y u)) Q E s := by
  subst hx; subst hy; refine AutoFloatOps.lt_0 ?_; rw [D_cmp ha.n hb.n, cmp_lt_iff]; exact h
theorem r_eq_ff (hx : x = D a) (hy : y = D b) (ha : Ok53 a) (hb : Ok53 b) (h : Q (.bool (decide (a = b))) s) : wpAny (model prog w) A (compareOp .Eq (.float x t) (.float y u)) Q E s := by
  subst hx; subst hy; refine AutoFloatOps.eq_0 ?_; rw [D_cmp ha.n hb.n, cmp_eq_iff]; exact h
theorem r_le_ff (hx : x = D a) (hy : y = D b) (ha : Ok53 a) (hb : Ok53 b) (h : Q (.bool (decide (a ≤ b))) s) : wpAny (model prog w) A (compareOp .LtE (.float x t) (.float y u)) Q E s := by
  subst hx; subst hy; refine AutoFloatOps.le_0 ?_; rw [D_cmp ha.n hb.n, cmp_eq_iff, cmp_lt_iff]
  have e : (decide (a < b) || decide (a = b)) = decide (a ≤ b) := by
    by_cases h1 : a < b
    · have h2 : a ≤ b := by omega
      simp [h1, h2]
    · by_cases h2 : a = b
      · subst h2; simp
      · have h3 : ¬ a ≤ b := by omega
        simp [h1, h2, h3]
  rw [e]; exact h
-- the remainder of ints by a divisor above nought
theorem r_mod_ii {m n : Int} (hA : A.handled = none) (hp : 0 < n) (h : Q (.int (m % n) s.toks) { s with toks := s.toks + 1 }) : wpAny (model prog w) A (binaryOp .Mod (.int m t) (.int n u)) Q E s :=
  mod_int (show n ≠ 0 by omega) (by rw [Int.fmod_eq_emod_of_nonneg _ (Int.le_of_lt hp)]; exact h)
-- the gregorian month's sum
theorem r_floor_gm {m adj d : Int} (hA : A.handled = none) (hx : x = Float64.add (Float64.add (Qz (367 * m - 362) 12) (ofInt adj)) (ofInt d)) (hm : 1 ≤ m ∧ m ≤ 12) (ha : -2 ≤ adj ∧ adj ≤ 0) (hd : 1 ≤ d ∧ d ≤ 31)
    (h : ∀ q, q = (367 * m - 362) / 12 + adj + d → Q (.int q s.toks) { s with toks := s.toks + 1 }) : wpAny (model prog w) A (call (.builtin "math.floor") [.float x t]) Q E s := by
  subst hx
  have g := gm_at hm ha hd
  exact fin_floor g.1 hA g.2 (h _ rfl)
theorem r_add_Qi {m adj c : Int} (hA : A.handled = none) (hx : x = Qz m c) (hn : Ok53 (128 * adj)) (h : Q (.float (Float64.add (Qz m c) (ofInt adj)) s.toks) { s with toks := s.toks + 1 }) : wpAny (model prog w) A (binaryOp .Add (.float x t) (.int adj u)) Q E s := by
  subst hx
  exact add_fi_sharp hA (fun ho => absurd ho (by have := small_fits hn; omega)) (fun _ => h)
theorem r_add_Qii {m adj c d : Int} (hA : A.handled = none) (hx : x = Float64.add (Qz m c) (ofInt adj)) (hn : Ok53 (128 * d)) (h : Q (.float (Float64.add (Float64.add (Qz m c) (ofInt adj)) (ofInt d)) s.toks) { s with toks := s.toks + 1 }) : wpAny (model prog w) A (binaryOp .Add (.float x t) (.int d u)) Q E s := by
  subst hx
  exact add_fi_sharp hA (fun ho => absurd ho (by have := small_fits hn; omega)) (fun _ => h)
-- the julian calendar's two odd numbers
theorem r_mul_306 (hA : A.handled = none) (hn : Ok53 (128 * n)) (h : Q (.float (Float64.mul c306 (ofInt n)) s.toks) { s with toks := s.toks + 1 }) : wpAny (model prog w) A (binaryOp .Mult (.float 4629306380116972641 t) (.int n u)) Q E s :=
  mul_fi_sharp hA (fun ho => absurd ho (by have := small_fits hn; omega)) (fun _ => h)
theorem r_floor_306 (hA : A.handled = none) (hx : x = Float64.mul c306 (ofInt n)) (hn : 0 ≤ n ∧ n ≤ 15) (h : ∀ q, q = 306001 * n / 10000 → Q (.int q s.toks) { s with toks := s.toks + 1 }) : wpAny (model prog w) A (call (.builtin "math.floor") [.float x t]) Q E s := by
  subst hx
  exact fin_floor (j1_at hn).1 hA (j1_at hn).2 (h _ rfl)
theorem r_div_306 (hA : A.handled = none) (hn : Ok53 (128 * n)) (h : Q (.float (Float64.div (ofInt n) c306) s.toks) { s with toks := s.toks + 1 }) : wpAny (model prog w) A (binaryOp .Div (.int n u) (.float 4629306380116972641 t)) Q E s :=
  truediv_if hA (fun ho => absurd ho (small_over hn)) (fun _ h0 => absurd h0 (by decide +kernel)) (fun _ _ => h)
theorem r_floor_d306 (hA : A.handled = none) (hx : x = Float64.div (ofInt n) c306) (hn : 0 ≤ n ∧ n < 500) (h : ∀ q, q = 10000 * n / 306001 → Q (.int q s.toks) { s with toks := s.toks + 1 }) : wpAny (model prog w) A (call (.builtin "math.floor") [.float x t]) Q E s := by
  subst hx
  exact fin_floor (j2_at hn).1 hA (j2_at hn).2 (h _ rfl)
theorem r_sub_122 (hA : A.handled = none) (hn : Ok53 (128 * n)) (h : Q (.float (Float64.sub (D (128 * n)) c122) s.toks) { s with toks := s.toks + 1 }) : wpAny (model prog w) A (binaryOp .Sub (.int n u) (.float 4638292440600962662 t)) Q E s := by
  rw [← ofInt_D] at h
  exact sub_if_sharp hA (fun ho => absurd ho (by have := small_fits hn; omega)) (fun _ => h)
theorem r_div_122 (hA : A.handled = none) (hx : x = Float64.sub (D (128 * n)) c122) (h : Q (.float (Float64.div (Float64.sub (D (128 * n)) c122) (D 46752)) s.toks) { s with toks := s.toks + 1 }) : wpAny (model prog w) A (binaryOp .Div (.float x t) (.float 4645133162144333824 u)) Q E s := by
  subst hx
  rw [← lit_36525] at h
  exact truediv_float_or hA (fun h0 => absurd h0 (by decide +kernel)) (fun _ => h)
theorem r_floor_122 (hA : A.handled = none) (hx : x = Float64.div (Float64.sub (D (128 * n)) c122) (D 46752)) (hn : -50000000000000 ≤ n ∧ n ≤ 50000000000000) (h : ∀ q, q = (20 * n - 2442) / 7305 → Q (.int q s.toks) { s with toks := s.toks + 1 }) : wpAny (model prog w) A (call (.builtin "math.floor") [.float x t]) Q E s := by
  subst hx
  exact fin_floor (jc_at hn.1 hn.2).1 hA (jc_at hn.1 hn.2).2 (h _ rfl)
-- an int and a bool; the least of two
theorem r_add_ib {P : Prop} [Decidable P] {a : Int} (h : ∀ c, (P → c = a + 1) ∧ (¬ P → c = a) → Q (.int c s.toks) { s with toks := s.toks + 1 }) : wpAny (model prog w) A (binaryOp .Add (.int a t) (.bool (decide P))) Q E s := by
  refine add_int_bool (h _ ⟨fun hp => ?_, fun hp => ?_⟩) <;> simp [hp]
theorem r_add_it {a : Int} (h : Q (.int (a + 1) s.toks) { s with toks := s.toks + 1 }) : wpAny (model prog w) A (binaryOp .Add (.int a t) (.bool true)) Q E s := by
  refine add_int_bool ?_; simpa using h
theorem r_add_if0 {a : Int} (h : Q (.int a s.toks) { s with toks := s.toks + 1 }) : wpAny (model prog w) A (binaryOp .Add (.int a t) (.bool false)) Q E s := by
  refine add_int_bool ?_; simpa using h
theorem r_sub_ib {P : Prop} [Decidable P] {a : Int} (h : ∀ c, (P → c = a - 1) ∧ (¬ P → c = a) → Q (.int c s.toks) { s with toks := s.toks + 1 }) : wpAny (model prog w) A (binaryOp .Sub (.int a t) (.bool (decide P))) Q E s := by
  refine IntBool.sub_int_bool (h _ ⟨fun hp => ?_, fun hp => ?_⟩) <;> simp [hp]
end
section
variable {prog : Program} {w : World} {A : Around} {E : Value → Shared → Prop} {s : Shared} {a b : Int} {t u : Tok} {Q : Value → Shared → Prop} {h₀ : Heap} {L : Addr} {m : Str → Option Value} {news : List (Addr × Obj)}
theorem r_min_ii (hh : A.handled = none) (F : Fr h₀ L s.heap m) (N : News h₀ L s.heap news)
    (h : ∀ c, c = min a b → ∀ t h' tk, Fr h₀ L h' m → News h₀ L h' news → Q (.int c t) { s with heap := h', toks := tk }) :
    wpAny (model prog w) A (call (.builtin "min") [.int a t, .int b u]) Q E s :=
  min_two_N hh F N fun h' tk F' N' => h _ (by split <;> omega) _ _ _ F' N'
end
end Mine
end

section
namespace Mine
open PySem PySem.Float64 PySem.Flt PySem.W PySem.Calls PyProof.Rows
section
variable {prog : Program} {w : World} {A : Around} {E : Value → Shared → Prop} {s : Shared} {x y : UInt64} {a b n r : Int} {t u : Tok} {Q : Value → Shared → Prop}
theorem r_half (hA : A.handled = none) (hx : x = D (2 * r)) (ha : Ok53 (2 * r)) (h : Q (.float (D r) s.toks) { s with toks := s.toks + 1 }) : wpAny (model prog w) A (binaryOp .Div (.float x t) (.int 2 u)) Q E s := by
  refine r_div_fi hA hx ha (by decide) (by decide) ?_
  rw [Qz_D (c := r) (by decide) (by omega)]
  exact h
theorem r_64th {m : Int} (hA : A.handled = none) (hm : Ok53 m) (h : Q (.float (D (2 * m)) s.toks) { s with toks := s.toks + 1 }) : wpAny (model prog w) A (binaryOp .Div (.int m t) (.int 64 u)) Q E s := by
  refine r_div_ii hA hm (by decide) ?_
  rw [Qz_D (c := 2 * m) (by decide) (by omega)]
  exact h
end
/-- an item of a list of the ledger, at a written place -/
theorem r_itemL {prog : Program} {w : World} {A : Around} {E : Value → Shared → Prop} {s : Shared} {h₀ : Heap} {L l : Addr} {news : List (Addr × Obj)} {value slice : PySem.Expr} {vs : List Value} {n : Nat} {k : Int} {u : Tok} {v : Value} {Q : Value → Shared → Prop}
    (N : News h₀ L s.heap news) (hm : (l, ({ cls := .type "list", data := .seq vs.toArray n } : Obj)) ∈ news) (h0 : 0 ≤ k) (hhi : k < 2 ^ 63) (hx : vs[k.toNat]? = some v) (h : Q v s)
    (hs : subscripted slice false (.ref l) (.int k u) = operate [.ref l, .int k u] (getItem (.ref l) (.int k u)) := by with_unfolding_all rfl) :
    wpAny (model prog w) A (subscriptTail value slice (.ref l) (.int k u)) Q E s :=
  have hl : s.heap.IsList l vs.toArray := ⟨_, (N _ hm).1, rfl, _, rfl⟩
  tail_any hl.typeIs slot_list_getitem.lookup (wpAny_getItem_list hl h0 hhi (by simpa using hx) h) hs
end Mine
end

section
open PySem PySem.W PyProof.Rows PySem.Calls
namespace Mine
/-- the contract of a def: called from any def with these values it hands back R t and leaves nothing behind -/
abbrev Cl (w : World) (loose : List Str) (mean : ExcName → Option Value) (mg mb : Str → Option Value) (f : Addr) (vs : List Value) (nd nu : Nat) (R : Tok → Value) : Prop :=
  ∀ (dp un : Nat) (gd : Option (List Code)) (cn : Str) (cs : Scope) (a : Addr) (ccd : Value) (cl : List (Str × Addr)) (outer : List Env) (A₀ : Around) (base h₀ : Heap) (L : Addr) (m : Str → Option Value) (news : List (Addr × Obj)) (s : Shared) (Q E : Value → Shared → Prop),
    Below A₀ base outer h₀ → Fr h₀ L s.heap m → (hd.heap_39 w.params).In h₀ → News h₀ L s.heap news → Top hd.view_39 loose mean mg mb h₀ → cs.kind = .function →
    dp + nd < recursionLimit → un + nu < cLine →
    (∀ (t : Tok) (h' : Heap) (tk' : Nat), Fr h₀ L h' m → News h₀ L h' news → Q (R t) { s with heap := h', toks := tk' }) →
    wpAny (model PySem.Challenge.rw_ad5038_01.row.prog w) (ktrTop dp un gd cn cs L a ccd cl outer) (call (.ref f) vs) Q E s
theorem Cl.use {w : World} {loose : List Str} {mean : ExcName → Option Value} {mg mb : Str → Option Value} {f : Addr} {vs : List Value} {nd nu : Nat} {R : Tok → Value} (C : Cl w loose mean mg mb f vs nd nu R)
    {dp un : Nat} {gd : Option (List Code)} {cn : Str} {cs : Scope} {a : Addr} {ccd : Value} {cl : List (Str × Addr)} {outer : List Env} {A₀ : Around} {base h₀ : Heap} {L : Addr} {m : Str → Option Value} {news : List (Addr × Obj)} {s : Shared} {Q E : Value → Shared → Prop}
    (B : Below A₀ base outer h₀) (F : Fr h₀ L s.heap m) (X : (hd.heap_39 w.params).In h₀) (N : News h₀ L s.heap news) (T : Top hd.view_39 loose mean mg mb h₀) (hk : cs.kind = .function) (hdp : dp + nd < recursionLimit) (hun : un + nu < cLine)
    (h : ∀ (t : Tok) (h' : Heap) (tk' : Nat), Fr h₀ L h' m → News h₀ L h' news → Q (R t) { s with heap := h', toks := tk' }) :
    wpAny (model PySem.Challenge.rw_ad5038_01.row.prog w) (ktrTop dp un gd cn cs L a ccd cl outer) (call (.ref f) vs) Q E s :=
  C dp un gd cn cs a ccd cl outer A₀ base h₀ L m news s Q E B F X N T hk hdp hun h
section
variable {prog : Program} {w : World} {A : Around} {E : Value → Shared → Prop} {s : Shared} {h₀ : Heap} {L a : Addr} {m : Str → Option Value} {K : Frag} {n : Nat} {dd : Option Addr} {sl : Array (Option Value)} {x : Int} {u t1 t2 t3 t4 : Tok} {Q : Value → Shared → Prop}
theorem r_in4 (F : Fr h₀ L s.heap m) (X₀ : K.In h₀) (hl : K.lookup a = some ⟨.type "tuple", dd, .seq [Value.int 4 t1, Value.int 6 t2, Value.int 9 t3, Value.int 11 t4].toArray n, sl⟩)
    (h : Q (.bool (decide (x = 4 ∨ x = 6 ∨ x = 9 ∨ x = 11))) s) : wpAny (model prog w) A (compareOp .In (.int x u) (.ref a)) Q E s := by
  refine in_tuple_ints (tupK (X₀.keeps F.keep) hl) (IntsAre.cons 4 t1 (IntsAre.cons 6 t2 (IntsAre.cons 9 t3 (IntsAre.cons 11 t4 IntsAre.nil)))) ?_
  have e : ([4, 6, 9, 11].any (· == x)) = decide (x = 4 ∨ x = 6 ∨ x = 9 ∨ x = 11) := by
    apply Bool.eq_iff_iff.mpr
    simp only [List.any_cons, List.any_nil, Bool.or_false, Bool.or_eq_true, beq_iff_eq, decide_eq_true_eq]
    omega
  rw [e]; exact h
end
theorem leap_dec {y : Int} : (decide (y % 4 = 0) && (decide (y % 100 ≠ 0) || decide (y % 400 = 0))) = decide (y % 4 = 0 ∧ (y % 100 ≠ 0 ∨ y % 400 = 0)) := by
  rw [Bool.decide_and, Bool.decide_or]
section
variable {h₀ h' : Heap} {L : Addr} {m : Str → Option Value} {news : List (Addr × Obj)} {s : Shared} {Q : Value → Shared → Prop} {t : Tok} {tk' : Nat}
theorem retF {x y : Int} (hret : ∀ (t : Tok) (h' : Heap) (tk' : Nat), Fr h₀ L h' m → News h₀ L h' news → Q (.float (D x) t) { s with heap := h', toks := tk' }) (e : y = x) (F : Fr h₀ L h' m) (N : News h₀ L h' news) : Q (.float (D y) t) { s with heap := h', toks := tk' } := by
  subst e
  exact hret t h' tk' F N
end
/-- the gregorian day -/
def gadj (y m : Int) : Int := if m ≤ 2 then 0 else if y % 4 = 0 ∧ (y % 100 ≠ 0 ∨ y % 400 = 0) then -1 else -2
def gnum (y m d : Int) : Int := 1721424 + 365 * (y - 1) + (y - 1) / 4 - (y - 1) / 100 + (y - 1) / 400 + ((367 * m - 362) / 12 + gadj y m + d)
theorem gnum_lin (y m d : Int) : gnum y m d = gnum y m 1 - 1 + d := by unfold gnum; omega
theorem gnum_bd {y m d : Int} (h0 : -100000001000 ≤ y ∧ y ≤ 100000001000) (h1 : 1 ≤ m ∧ m ≤ 12) (h2 : 1 ≤ d ∧ d ≤ 31) : -40000000000000 ≤ gnum y m d ∧ gnum y m d ≤ 40000000000000 := by
  unfold gnum gadj; (repeat' split) <;> omega
/-- a contract that hands back a day's number, with what is known of it -/
abbrev CN (w : World) (loose : List Str) (mean : ExcName → Option Value) (mg mb : Str → Option Value) (f : Addr) (vs : List Value) (nd nu : Nat) (P : Int → Prop) : Prop :=
  ∀ (dp un : Nat) (gd : Option (List Code)) (cn : Str) (cs : Scope) (a : Addr) (ccd : Value) (cl : List (Str × Addr)) (outer : List Env) (A₀ : Around) (base h₀ : Heap) (L : Addr) (m : Str → Option Value) (news : List (Addr × Obj)) (s : Shared) (Q E : Value → Shared → Prop),
    Below A₀ base outer h₀ → Fr h₀ L s.heap m → (hd.heap_39 w.params).In h₀ → News h₀ L s.heap news → Top hd.view_39 loose mean mg mb h₀ → cs.kind = .function →
    dp + nd < recursionLimit → un + nu < cLine →
    (∀ (N : Int), P N → ∀ (t : Tok) (h' : Heap) (tk' : Nat), Fr h₀ L h' m → News h₀ L h' news → Q (.float (D (128 * N + 64)) t) { s with heap := h', toks := tk' }) →
    wpAny (model PySem.Challenge.rw_ad5038_01.row.prog w) (ktrTop dp un gd cn cs L a ccd cl outer) (call (.ref f) vs) Q E s
theorem CN.of {w : World} {loose : List Str} {mean : ExcName → Option Value} {mg mb : Str → Option Value} {f : Addr} {vs : List Value} {nd nu : Nat} {P : Int → Prop} {N : Int} (C : Cl w loose mean mg mb f vs nd nu (fun t => .float (D (128 * N + 64)) t)) (hP : P N) : CN w loose mean mg mb f vs nd nu P :=
  fun dp un gd cn cs a ccd cl outer A₀ base h₀ L m news s Q E B F X N' T hk hdp hun h => C dp un gd cn cs a ccd cl outer A₀ base h₀ L m news s Q E B F X N' T hk hdp hun (h N hP)
theorem CN.use {w : World} {loose : List Str} {mean : ExcName → Option Value} {mg mb : Str → Option Value} {f : Addr} {vs : List Value} {nd nu : Nat} {P : Int → Prop} (C : CN w loose mean mg mb f vs nd nu P)
    {dp un : Nat} {gd : Option (List Code)} {cn : Str} {cs : Scope} {a : Addr} {ccd : Value} {cl : List (Str × Addr)} {outer : List Env} {A₀ : Around} {base h₀ : Heap} {L : Addr} {m : Str → Option Value} {news : List (Addr × Obj)} {s : Shared} {Q E : Value → Shared → Prop}
    (B : Below A₀ base outer h₀) (F : Fr h₀ L s.heap m) (X : (hd.heap_39 w.params).In h₀) (N : News h₀ L s.heap news) (T : Top hd.view_39 loose mean mg mb h₀) (hk : cs.kind = .function) (hdp : dp + nd < recursionLimit) (hun : un + nu < cLine)
    (h : ∀ (N : Int), P N → ∀ (t : Tok) (h' : Heap) (tk' : Nat), Fr h₀ L h' m → News h₀ L h' news → Q (.float (D (128 * N + 64)) t) { s with heap := h', toks := tk' }) :
    wpAny (model PySem.Challenge.rw_ad5038_01.row.prog w) (ktrTop dp un gd cn cs L a ccd cl outer) (call (.ref f) vs) Q E s :=
  C dp un gd cn cs a ccd cl outer A₀ base h₀ L m news s Q E B F X N T hk hdp hun h
/-- what is known of a gregorian day's number, said for omega -/
abbrev GFact (y m d N : Int) : Prop := N = gnum y m d ∧ -40000000000000 ≤ N ∧ N ≤ 40000000000000 ∧
  (m ≤ 2 → N = 1721424 + 365 * (y - 1) + (y - 1) / 4 - (y - 1) / 100 + (y - 1) / 400 + ((367 * m - 362) / 12 + d)) ∧
  (¬ m ≤ 2 → y % 4 = 0 ∧ (y % 100 ≠ 0 ∨ y % 400 = 0) → N = 1721424 + 365 * (y - 1) + (y - 1) / 4 - (y - 1) / 100 + (y - 1) / 400 + ((367 * m - 362) / 12 - 1 + d)) ∧
  (¬ m ≤ 2 → ¬ (y % 4 = 0 ∧ (y % 100 ≠ 0 ∨ y % 400 = 0)) → N = 1721424 + 365 * (y - 1) + (y - 1) / 4 - (y - 1) / 100 + (y - 1) / 400 + ((367 * m - 362) / 12 - 2 + d))
theorem gfact {y m d : Int} (h0 : -100000001000 ≤ y ∧ y ≤ 100000001000) (h1 : 1 ≤ m ∧ m ≤ 12) (h2 : 1 ≤ d ∧ d ≤ 31) : GFact y m d (gnum y m d) := by
  have hb := gnum_bd h0 h1 h2
  refine ⟨rfl, hb.1, hb.2, fun a => ?_, fun a b => ?_, fun a b => ?_⟩
  · unfold gnum gadj; rw [if_pos a]; omega
  · unfold gnum gadj; rw [if_neg a, if_pos b]; omega
  · unfold gnum gadj; rw [if_neg a, if_neg b]; omega
/-- a tuple of three ints -/
abbrev tup3 (y mo d : Int) (t1 t2 t3 : Tok) (c : Nat) : Obj := { cls := .type "tuple", data := .seq #[.int y t1, .int mo t2, .int d t3] c }
/-- a contract that hands back a new tuple of three ints -/
abbrev CT (w : World) (loose : List Str) (mean : ExcName → Option Value) (mg mb : Str → Option Value) (f : Addr) (vs : List Value) (nd nu : Nat) (y mo d : Int) : Prop :=
  ∀ (dp un : Nat) (gd : Option (List Code)) (cn : Str) (cs : Scope) (a : Addr) (ccd : Value) (cl : List (Str × Addr)) (outer : List Env) (A₀ : Around) (base h₀ : Heap) (L : Addr) (m : Str → Option Value) (news : List (Addr × Obj)) (s : Shared) (Q E : Value → Shared → Prop),
    Below A₀ base outer h₀ → Fr h₀ L s.heap m → (hd.heap_39 w.params).In h₀ → News h₀ L s.heap news → Top hd.view_39 loose mean mg mb h₀ → cs.kind = .function →
    dp + nd < recursionLimit → un + nu < cLine →
    (∀ (D : Addr) (t1 t2 t3 : Tok) (c : Nat) (h' : Heap) (tk' : Nat), Fr h₀ L h' m → News h₀ L h' ((D, tup3 y mo d t1 t2 t3 c) :: news) → Q (.ref D) { s with heap := h', toks := tk' }) →
    wpAny (model PySem.Challenge.rw_ad5038_01.row.prog w) (ktrTop dp un gd cn cs L a ccd cl outer) (call (.ref f) vs) Q E s
theorem CT.use {w : World} {loose : List Str} {mean : ExcName → Option Value} {mg mb : Str → Option Value} {f : Addr} {vs : List Value} {nd nu : Nat} {y mo d : Int} (C : CT w loose mean mg mb f vs nd nu y mo d)
    {dp un : Nat} {gd : Option (List Code)} {cn : Str} {cs : Scope} {a : Addr} {ccd : Value} {cl : List (Str × Addr)} {outer : List Env} {A₀ : Around} {base h₀ : Heap} {L : Addr} {m : Str → Option Value} {news : List (Addr × Obj)} {s : Shared} {Q E : Value → Shared → Prop}
    (B : Below A₀ base outer h₀) (F : Fr h₀ L s.heap m) (X : (hd.heap_39 w.params).In h₀) (N : News h₀ L s.heap news) (T : Top hd.view_39 loose mean mg mb h₀) (hk : cs.kind = .function) (hdp : dp + nd < recursionLimit) (hun : un + nu < cLine)
    (h : ∀ (D : Addr) (t1 t2 t3 : Tok) (c : Nat) (h' : Heap) (tk' : Nat), Fr h₀ L h' m → News h₀ L h' ((D, tup3 y mo d t1 t2 t3 c) :: news) → Q (.ref D) { s with heap := h', toks := tk' }) :
    wpAny (model PySem.Challenge.rw_ad5038_01.row.prog w) (ktrTop dp un gd cn cs L a ccd cl outer) (call (.ref f) vs) Q E s :=
  C dp un gd cn cs a ccd cl outer A₀ base h₀ L m news s Q E B F X N T hk hdp hun h
theorem retT {y mo d y' mo' d' : Int} {h₀ h' : Heap} {L D : Addr} {m : Str → Option Value} {news : List (Addr × Obj)} {s : Shared} {Q : Value → Shared → Prop} {t1 t2 t3 : Tok} {c tk' : Nat}
    (hret : ∀ (D : Addr) (t1 t2 t3 : Tok) (c : Nat) (h' : Heap) (tk' : Nat), Fr h₀ L h' m → News h₀ L h' ((D, tup3 y mo d t1 t2 t3 c) :: news) → Q (.ref D) { s with heap := h', toks := tk' })
    (F : Fr h₀ L h' m) (N : News h₀ L h' ((D, tup3 y' mo' d' t1 t2 t3 c) :: news)) (e1 : y' = y) (e2 : mo' = mo) (e3 : d' = d) : Q (.ref D) { s with heap := h', toks := tk' } := by
  subst e1; subst e2; subst e3
  exact hret D t1 t2 t3 c h' tk' F N
/-- a fact that the closers are not to read -/
def Hide (P : Prop) : Prop := P
theorem Hide.mk {P : Prop} (h : P) : Hide P := h
theorem Hide.out {P : Prop} (h : Hide P) : P := h
theorem GFact.bd {y m d N : Int} (h : GFact y m d N) : -40000000000000 ≤ N ∧ N ≤ 40000000000000 := ⟨h.2.1, h.2.2.1⟩
/-- here the walk waits for a line of mine -/
def Stop (P : Prop) : Prop := P
theorem stop_here {P : Prop} (h : Stop P) : P := h
theorem stop_go {P : Prop} (h : P) : Stop P := h
/-- the ways of a statement that stores one int meet again: all that is kept of the int is R -/
structure JV (x : Str) (R : Int → Prop) (h₀ : Heap) (L : Addr) (m : Str → Option Value) (news : List (Addr × Obj)) (s : Shared) (f : Flow) (s' : Shared) : Prop where
  next : f = .next
  here : ∃ (r : Int) (t : Tok) (h : Heap) (tk : Nat), R r ∧ s' = { s with heap := h, toks := tk } ∧ Fr h₀ L h (fun y => if y = x then some (.int r t) else m y) ∧ News h₀ L h news
section
variable {M : Model} {A : Around} {E : Value → Shared → Prop} {s : Shared} {env : Env} {h₀ h : Heap} {L : Addr} {m : Str → Option Value} {news : List (Addr × Obj)} {x : Str} {R : Int → Prop}
theorem j_if {st : Stmt} {Q : Flow → Shared → Prop} (x : Str) (R : Int → Prop) (_F : Fr h₀ L s.heap m) (_N : News h₀ L s.heap news)
    (hc : wpAny M A (exec st env) (fun f s' => JV x R h₀ L m news s f s') E s)
    (hk : ∀ r, R r → ∀ (t : Tok) (h : Heap) (tk : Nat), Fr h₀ L h (fun y => if y = x then some (.int r t) else m y) → News h₀ L h news → Q .next { s with heap := h, toks := tk }) :
    wpAny M A (exec st env) Q E s := by
  refine wpAny_mono hc (fun f s' hq => ?_) fun _ _ h => h
  obtain ⟨hf, r, t, h, tk, hR, hs, F, N⟩ := hq
  subst hf; subst hs
  exact hk r hR t h tk F N
theorem JV.set {r : Int} {t : Tok} {tk : Nat} (F : Fr h₀ L h (fun y => if y = x then some (.int r t) else m y)) (N : News h₀ L h news) (hR : R r) : JV x R h₀ L m news s .next { s with heap := h, toks := tk } :=
  ⟨rfl, r, t, h, tk, hR, rfl, F, N⟩
theorem JV.same {r : Int} {t : Tok} {tk : Nat} (hold : m x = some (.int r t)) (F : Fr h₀ L h m) (N : News h₀ L h news) (hR : R r) : JV x R h₀ L m news s .next { s with heap := h, toks := tk } := by
  refine JV.set (r := r) (t := t) ?_ N hR
  have e : (fun y => if y = x then some (Value.int r t) else m y) = m := by
    funext y
    by_cases hy : y = x
    · rw [if_pos hy, hy, hold]
    · rw [if_neg hy]
  rw [e]; exact F
end
theorem bd_of {Y y : Int} (h : Y = y) (h0 : -100000000900 ≤ y ∧ y ≤ 100000000900) : -100000001000 ≤ Y ∧ Y ≤ 100000001000 := by omega
section
variable {prog : Program} {w : World} {A : Around} {E : Value → Shared → Prop} {s : Shared} {h₀ : Heap} {L D : Addr} {news : List (Addr × Obj)} {n : Nat} {x k : Int} {z : Str} {u t1 t2 t3 : Tok} {Q : Value → Shared → Prop}
/-- an int in a tuple of an int and a text -/
theorem r_in_ks (N : News h₀ L s.heap news) (hm : (D, ({ cls := .type "tuple", data := .seq [Value.int k t1, Value.str z t2].toArray n } : Obj)) ∈ news)
    (h : Q (.bool (decide (x = k))) s) : wpAny (model prog w) A (compareOp .In (.int x u) (.ref D)) Q E s := by
  have ht : s.heap.IsTuple D [Value.int k t1, Value.str z t2].toArray := ⟨_, (N _ hm).1, rfl, _, rfl⟩
  refine PySem.SeqAt.in_tupleAt (fun v => match v with | .int i _ => i == x | _ => false) ht (fun y hy => ?_) ?_
  · simp only [List.mem_toArray, List.mem_cons, List.not_mem_nil, or_false] at hy
    rcases hy with rfl | rfl
    · exact PySem.SeqAt.EqAt.int_int k t1 x u
    · exact PySem.SeqAt.EqAt.str_int z t2 x u
  · have e : ([Value.int k t1, Value.str z t2].toArray.any fun v => match v with | .int i _ => i == x | _ => false) = decide (x = k) := by
      simp only [List.any_toArray, List.any_cons, List.any_nil, Bool.or_false]
      by_cases h : x = k
      · subst h; simp
      · simp [h]; omega
    rw [e]; exact h
/-- an int in a tuple of three ints -/
theorem r_in3 {a b c : Int} (N : News h₀ L s.heap news) (hm : (D, ({ cls := .type "tuple", data := .seq [Value.int a t1, Value.int b t2, Value.int c t3].toArray n } : Obj)) ∈ news)
    (h : Q (.bool (decide (x = a ∨ x = b ∨ x = c))) s) : wpAny (model prog w) A (compareOp .In (.int x u) (.ref D)) Q E s := by
  refine in_tuple_ints ⟨_, (N _ hm).1, rfl, _, rfl⟩ (IntsAre.cons a t1 (IntsAre.cons b t2 (IntsAre.cons c t3 IntsAre.nil))) ?_
  have e : ([a, b, c].any (· == x)) = decide (x = a ∨ x = b ∨ x = c) := by
    apply Bool.eq_iff_iff.mpr
    simp only [List.any_cons, List.any_nil, Bool.or_false, Bool.or_eq_true, beq_iff_eq, decide_eq_true_eq]
    omega
  rw [e]; exact h
end
end Mine
end

section
open PySem PySem.W PyProof.Rows PySem.Calls
namespace Mine
/-- a module name, read with quick side goals -/
theorem name_KF {M : Model} {A : Around} {E : Value → Shared → Prop} {s : Shared} {K : Frag} {h₀ : Heap} {L a : Addr} {m mg mb : Str → Option Value} {cn : Str} {cs : Scope} {ccd : Value} {p : Program} {loose : List Str}
    {x : Str} {pos : Pos} {v : Value} {Q : Value → Shared → Prop} (F : Fr h₀ L s.heap m) (X : K.In h₀) (T : TopRead p loose mg mb h₀) (e : nsIn K mainGlobals x = some (some v)) (h : Q v s)
    (hk : cs.kind = .function) (hx : (cs.names.lookup x == some NameKind.globalImplicit) = true) (hd : (x == ("__debug__" : Str)) = false) :
    wpAny M A (eval (.Name x pos) (envOf cn cs L a ccd)) Q E s := name_K F X T e h hk (kindOf_of_beq hx) hd
end Mine
end

section
namespace Mine
/-- the julian day -/
def jnum (y m d : Int) : Int := if m ≤ 2 then 1461 * (y + 4715) / 4 + 306001 * (m + 13) / 10000 + d - 1525 else 1461 * (y + 4716) / 4 + 306001 * (m + 1) / 10000 + d - 1525
/-- the coptic day -/
def cnum (y m d : Int) : Int := d + (m - 1) * 30 + (y - 1) * 365 + y / 4 + 1825028
/-- the loose armenian day -/
def anum (y m d : Int) : Int := 1922501 + 365 * y + (m - 1) * 30 + d
/-- the day by Sarkawag's method -/
def snum (y m d : Int) : Int := 2117210 + 365 * (y - 533) + (y - 533) / 4 + (m - 1) * 30 + d
/-- the republican day -/
def fnum (y m d : Int) : Int := 2375838 + y / 4 * 1461 + y % 4 * 365 - 365 + (m - 1) * 30 + d
/-- the islamic day -/
def hnum (y m d : Int) : Int := d + (59 * (m - 1) + 1) / 2 + (y - 1) * 354 + (3 + 11 * y) / 30 + 1948438
/-- the indian day -/
def inum (y m d : Int) : Int :=
  gnum (y + 78) 3 (if (y + 78) % 4 = 0 ∧ ((y + 78) % 100 ≠ 0 ∨ (y + 78) % 400 = 0) then 21 else 22) +
  (if m = 1 then 0 else (if (y + 78) % 4 = 0 ∧ ((y + 78) % 100 ≠ 0 ∨ (y + 78) % 400 = 0) then 31 else 30) + (if m ≤ 7 then (m - 2) * 31 else 155 + (m - 7) * 30)) + d - 1
end Mine
end

section
namespace Mine
set_option maxHeartbeats 4000000
-- GREGORIAN
/-- the leap year's rule -/
abbrev Lp (y : Int) : Prop := y % 4 = 0 ∧ (y % 100 ≠ 0 ∨ y % 400 = 0)
structure LG (y m d : Int) : Prop where
  m1 : 1 ≤ m ∧ m ≤ 12
  d1 : 1 ≤ d ∧ d ≤ 31
  d30 : m = 4 ∨ m = 6 ∨ m = 9 ∨ m = 11 → d ≤ 30
  d29 : m = 2 → d ≤ 29
  dL : m = 2 → d = 29 → Lp y
/-- one in a leap year, else nought -/
def lq (y : Int) : Int := if Lp y then 1 else 0
theorem lq_cases (y : Int) : (lq y = 1 ∧ y % 4 = 0 ∧ (y % 100 ≠ 0 ∨ y % 400 = 0)) ∨ (lq y = 0 ∧ ¬ (y % 4 = 0 ∧ (y % 100 ≠ 0 ∨ y % 400 = 0))) := by
  unfold lq
  by_cases h : Lp y
  · rw [if_pos h]; exact .inl ⟨rfl, h⟩
  · rw [if_neg h]; exact .inr ⟨rfl, h⟩
/-- new year's day -/
theorem g_first (y : Int) : gnum y 1 1 = 1721425 + 365 * (y - 1) + (y - 1) / 4 - (y - 1) / 100 + (y - 1) / 400 := by unfold gnum gadj; rw [if_pos (by decide)]; omega
theorem g_next (y : Int) : gnum (y + 1) 1 1 = gnum y 1 1 + 365 + lq y := by
  rw [g_first, g_first]; have := lq_cases y; omega
theorem g_mono {y y' : Int} (h : y < y') : gnum (y + 1) 1 1 ≤ gnum y' 1 1 := by
  rw [g_first, g_first]
  by_cases e : y' = y + 1
  · subst e; omega
  · omega
theorem g_doy (y m d : Int) : gnum y m d = gnum y 1 1 + ((367 * m - 362) / 12 + gadj y m + d - 1) := by
  rw [g_first]; unfold gnum; omega
theorem m_cases {m : Int} (h : 1 ≤ m ∧ m ≤ 12) : m = 1 ∨ m = 2 ∨ m = 3 ∨ m = 4 ∨ m = 5 ∨ m = 6 ∨ m = 7 ∨ m = 8 ∨ m = 9 ∨ m = 10 ∨ m = 11 ∨ m = 12 := by omega
theorem gadj_facts (y m : Int) : (m ≤ 2 ∧ gadj y m = 0) ∨ (¬ m ≤ 2 ∧ gadj y m = lq y - 2) := by
  unfold gadj lq
  by_cases h : m ≤ 2
  · rw [if_pos h]; exact .inl ⟨h, rfl⟩
  · rw [if_neg h]
    by_cases hl : Lp y
    · rw [if_pos hl, if_pos hl]; exact .inr ⟨h, rfl⟩
    · rw [if_neg hl, if_neg hl]; exact .inr ⟨h, rfl⟩
/-- the month's length, in one row for each month -/
theorem LG.len {y m d : Int} (h : LG y m d) : 1 ≤ d ∧ d ≤ 31 ∧ (m = 4 → d ≤ 30) ∧ (m = 6 → d ≤ 30) ∧ (m = 9 → d ≤ 30) ∧ (m = 11 → d ≤ 30) ∧ (m = 2 → d ≤ 28 + lq y) := by
  obtain ⟨h1, h2, h3, h4, h5⟩ := h
  have hl := lq_cases y
  refine ⟨h2.1, h2.2, fun a => h3 (by omega), fun a => h3 (by omega), fun a => h3 (by omega), fun a => h3 (by omega), fun a => ?_⟩
  have := h4 a
  by_cases e : d = 29
  · have := h5 a e; unfold Lp at this; omega
  · omega
theorem lq_bd (y : Int) : 0 ≤ lq y ∧ lq y ≤ 1 := by have := lq_cases y; omega
theorem g_in {y m d : Int} (h : LG y m d) : gnum y 1 1 ≤ gnum y m d ∧ gnum y m d < gnum (y + 1) 1 1 := by
  have hd := h.len
  have hm := h.m1
  rw [g_next y, g_doy y m d]
  have ha := gadj_facts y m
  have hl := lq_bd y
  generalize gnum y 1 1 = G
  generalize gadj y m = g at *
  generalize lq y = l at *
  rcases m_cases hm with h | h | h | h | h | h | h | h | h | h | h | h <;> subst h <;> omega
theorem g_month {y m d m' d' : Int} (h : LG y m d) (h' : LG y m' d') (hm : m < m') : gnum y m d < gnum y m' d' := by
  have hd := h.len
  have h1 := h.m1
  have hd' := h'.len
  have h1' := h'.m1
  rw [g_doy y m d, g_doy y m' d']
  have ha := gadj_facts y m
  have hb := gadj_facts y m'
  have hl := lq_bd y
  generalize gnum y 1 1 = G
  generalize gadj y m = g at *
  generalize gadj y m' = g' at *
  generalize lq y = l at *
  rcases m_cases h1 with h | h | h | h | h | h | h | h | h | h | h | h <;> subst h <;> omega
theorem g_lt {y m d y' m' d' : Int} (h : LG y m d) (h' : LG y' m' d') (hl : y < y' ∨ (y = y' ∧ (m < m' ∨ (m = m' ∧ d < d')))) : gnum y m d < gnum y' m' d' := by
  rcases hl with hl | ⟨rfl, hl | ⟨rfl, hl⟩⟩
  · have := g_in h; have := g_in h'; have := g_mono hl; omega
  · exact g_month h h' hl
  · rw [gnum_lin y m d, gnum_lin y m d']; omega
/-- the year that from_jd finds -/
theorem g_chain {N a q q0 r1 q1 r2 q2 r3 yi Y : Int} (ha : 128 * N + 64 ≤ a ∧ a < 128 * N + 192) (hq : q = (a - 64) / 128)
    (h0 : q0 = (128 * q + 64 - 220342464) / (128 * 146097)) (h1 : r1 = (128 * q + 64 - 220342464) % (128 * 146097))
    (h2 : q1 = r1 / (128 * 36524)) (h3 : r2 = r1 % (128 * 36524)) (h4 : q2 = r2 / (128 * 1461)) (h5 : r3 = r2 % (128 * 1461)) (h6 : yi = r3 / (128 * 365))
    (hY : (¬ (q1 = 4 ∨ yi = 4) ∧ Y = q0 * 400 + q1 * 100 + q2 * 4 + yi + 1) ∨ ((q1 = 4 ∨ yi = 4) ∧ Y = q0 * 400 + q1 * 100 + q2 * 4 + yi)) :
    gnum Y 1 1 ≤ N ∧ N < gnum (Y + 1) 1 1 := by
  have e : q = N := by omega
  subst e
  clear ha hq
  generalize hd1 : r1 / 128 = d1
  generalize hd2 : r2 / 128 = d2
  generalize hd3 : r3 / 128 = d3
  have a1 : 128 * q + 64 - 220342464 = 128 * (q - 1721425) := by omega
  rw [a1] at h0 h1
  have b1 : r1 = 128 * d1 := by omega
  have b2 : r2 = 128 * d2 := by omega
  have b3 : r3 = 128 * d3 := by omega
  have c0 : q - 1721425 = 146097 * q0 + d1 ∧ 0 ≤ d1 ∧ d1 < 146097 := by omega
  have c1 : d1 = 36524 * q1 + d2 ∧ 0 ≤ d2 ∧ d2 < 36524 := by omega
  have c2 : d2 = 1461 * q2 + d3 ∧ 0 ≤ d3 ∧ d3 < 1461 := by omega
  have c3 : 365 * yi ≤ d3 ∧ d3 < 365 * yi + 365 := by omega
  clear h0 h1 h2 h3 h4 h5 h6 a1 b1 b2 b3 hd1 hd2 hd3
  have hn := g_next Y
  have hf := g_first Y
  rw [hn]
  clear hn
  generalize gnum Y 1 1 = G at *
  have k1 : 0 ≤ q1 ∧ q1 ≤ 4 := by omega
  have k2 : 0 ≤ q2 ∧ q2 ≤ 24 := by omega
  have k3 : 0 ≤ yi ∧ yi ≤ 4 := by omega
  rcases hY with ⟨hc, hY⟩ | ⟨hc, hY⟩
  · have z1 : (Y - 1) / 4 = 100 * q0 + 25 * q1 + q2 := by omega
    have z2 : (Y - 1) / 100 = 4 * q0 + q1 := by omega
    have z3 : (Y - 1) / 400 = q0 := by omega
    rw [z1, z2, z3] at hf
    have := lq_bd Y
    omega
  · have hl : Lp Y := by
      unfold Lp
      rcases hc with hc | hc
      · have : q2 = 0 := by omega
        have : yi = 0 := by omega
        omega
      · have : q1 ≤ 3 := by omega
        have : q2 ≤ 23 := by omega
        omega
    have hq1 : lq Y = 1 := by unfold lq; rw [if_pos hl]
    rw [hq1]
    rcases hc with hc | hc
    · have e2 : q2 = 0 := by omega
      have e3 : yi = 0 := by omega
      have z1 : (Y - 1) / 4 = 100 * q0 + 99 := by omega
      have z2 : (Y - 1) / 100 = 4 * q0 + 3 := by omega
      have z3 : (Y - 1) / 400 = q0 := by omega
      rw [z1, z2, z3] at hf
      omega
    · have e1 : q1 ≤ 3 := by omega
      have e2 : q2 ≤ 23 := by omega
      have z1 : (Y - 1) / 4 = 100 * q0 + 25 * q1 + q2 := by omega
      have z2 : (Y - 1) / 100 = 4 * q0 + q1 := by omega
      have z3 : (Y - 1) / 400 = q0 := by omega
      rw [z1, z2, z3] at hf
      omega
theorem g_year {y m d Y N : Int} (h : LG y m d) (hN : N = gnum y m d) (hY : gnum Y 1 1 ≤ N ∧ N < gnum (Y + 1) 1 1) : Y = y := by
  have := g_in h
  rcases Int.lt_trichotomy Y y with c | c | c
  · have := g_mono c; omega
  · exact c
  · have := g_mono c; omega
/-- the month -/
theorem g_mon {y m d yd adj c M : Int} (h : LG y m d) (hyd : yd = gnum y m d - gnum y 1 1) (hc : (Lp y → c = 58 + 1) ∧ (¬ Lp y → c = 58))
    (ha : (yd < c ∧ adj = 0) ∨ (¬ yd < c ∧ Lp y ∧ adj = 1) ∨ (¬ yd < c ∧ ¬ Lp y ∧ adj = 2)) (hM : M = ((yd + adj) * 12 + 373) / 367) : M = m := by
  have hd := h.len
  have h1 := h.m1
  rw [g_doy y m d] at hyd
  have hg := gadj_facts y m
  have hl := lq_cases y
  have hc2 : c = 58 + lq y := by rcases hl with hl | hl <;> (first | (have := hc.1 hl.2; omega) | (have := hc.2 hl.2; omega))
  have ha2 : (yd < 58 + lq y ∧ adj = 0) ∨ (¬ yd < 58 + lq y ∧ adj = 2 - lq y) := by
    rw [← hc2]
    rcases ha with ⟨a, b⟩ | ⟨a, b, e⟩ | ⟨a, b, e⟩
    · exact .inl ⟨a, b⟩
    · unfold Lp at b; exact .inr ⟨a, by omega⟩
    · unfold Lp at b; exact .inr ⟨a, by omega⟩
  have hl := lq_bd y
  clear hc ha hc2
  generalize gnum y 1 1 = G at *
  generalize gadj y m = g at *
  generalize lq y = l at *
  rcases m_cases h1 with h | h | h | h | h | h | h | h | h | h | h | h <;> subst h <;> omega
end Mine
end

section
namespace Mine
set_option maxHeartbeats 1000000
-- JULIAN
structure LJ (y m d : Int) : Prop where
  m1 : 1 ≤ m ∧ m ≤ 12
  d1 : 1 ≤ d ∧ d ≤ 31
  d30 : m = 4 ∨ m = 6 ∨ m = 9 ∨ m = 11 → d ≤ 30
  d29 : m = 2 → d ≤ 29
  dL : m = 2 → d = 29 → y % 4 = 0
theorem LJ.len {y m d : Int} (h : LJ y m d) : 1 ≤ d ∧ d ≤ 31 ∧ (m = 4 → d ≤ 30) ∧ (m = 6 → d ≤ 30) ∧ (m = 9 → d ≤ 30) ∧ (m = 11 → d ≤ 30) ∧ (m = 2 → d ≤ 29 ∧ (d = 29 → y % 4 = 0)) := by
  obtain ⟨h1, h2, h3, h4, h5⟩ := h
  exact ⟨h2.1, h2.2, fun a => h3 (by omega), fun a => h3 (by omega), fun a => h3 (by omega), fun a => h3 (by omega), fun a => ⟨h4 a, h5 a⟩⟩
theorem LJ.if_ {y m d : Int} (h : LJ y m d) : d ≤ (if m = 2 then (if y % 4 = 0 then 29 else 28) else if m = 4 ∨ m = 6 ∨ m = 9 ∨ m = 11 then 30 else 31) := by
  have := h.len
  (repeat' split) <;> omega
theorem j_facts {y m d N : Int} (h : LJ y m d) (hN : jnum y m d = N) : ∃ C R E : Int, (7305 * C ≤ 20 * (N + 1525) - 2442 ∧ 20 * (N + 1525) - 2442 < 7305 * C + 7305) ∧ R = N + 1525 - (46752 * C) / 128 ∧ (122 < R ∧ R < 489) ∧
    (306001 * E ≤ 10000 * R ∧ 10000 * R < 306001 * E + 306001) ∧ (4 ≤ E ∧ E ≤ 15) ∧ ((m ≤ 2 ∧ E = m + 13 ∧ C = y + 4715) ∨ (¬ m ≤ 2 ∧ E = m + 1 ∧ C = y + 4716)) ∧ d = R - (306001 * E) / 10000 := by
  have hd := h.len
  have hm := h.m1
  unfold jnum at hN
  by_cases c : m ≤ 2
  · rw [if_pos c] at hN
    refine ⟨y + 4715, N + 1525 - (46752 * (y + 4715)) / 128, m + 13, ?_⟩
    have e : (46752 * (y + 4715)) / 128 = 1461 * (y + 4715) / 4 := by omega
    rw [e]
    rcases m_cases hm with h | h | h | h | h | h | h | h | h | h | h | h <;> subst h <;> omega
  · rw [if_neg c] at hN
    refine ⟨y + 4716, N + 1525 - (46752 * (y + 4716)) / 128, m + 1, ?_⟩
    have e : (46752 * (y + 4716)) / 128 = 1461 * (y + 4716) / 4 := by omega
    rw [e]
    rcases m_cases hm with h | h | h | h | h | h | h | h | h | h | h | h <;> subst h <;> omega
/-- the day within the year that begins with March -/
theorem j_march {y m d : Int} (h : LJ y m d) : ∃ C e : Int, jnum y m d = 1461 * C / 4 + 306001 * e / 10000 + d - 1525 ∧ 4 ≤ e ∧ e ≤ 15 ∧ 1 ≤ d ∧ (e < 15 → d ≤ 306001 * (e + 1) / 10000 - 306001 * e / 10000) ∧ (e = 15 → d ≤ 29 ∧ (d = 29 → C % 4 = 3)) ∧
    ((m ≤ 2 ∧ C = y + 4715 ∧ e = m + 13) ∨ (¬ m ≤ 2 ∧ C = y + 4716 ∧ e = m + 1)) := by
  have hd := h.len
  have hm := h.m1
  unfold jnum
  by_cases c : m ≤ 2
  · rw [if_pos c]
    refine ⟨y + 4715, m + 13, rfl, ?_⟩
    rcases m_cases hm with h | h | h | h | h | h | h | h | h | h | h | h <;> subst h <;> omega
  · rw [if_neg c]
    refine ⟨y + 4716, m + 1, rfl, ?_⟩
    rcases m_cases hm with h | h | h | h | h | h | h | h | h | h | h | h <;> subst h <;> omega
theorem j_lt {y m d y' m' d' : Int} (h : LJ y m d) (h' : LJ y' m' d') (hl : y < y' ∨ (y = y' ∧ (m < m' ∨ (m = m' ∧ d < d')))) : jnum y m d < jnum y' m' d' := by
  have hm := h.m1
  have hm' := h'.m1
  obtain ⟨C, e, e1, e2, e3, e4, e5, e6, e7⟩ := j_march h
  obtain ⟨C', e', g1, g2, g3, g4, g5, g6, g7⟩ := j_march h'
  rw [e1, g1]
  have hx : C < C' ∨ (C = C' ∧ (e < e' ∨ (e = e' ∧ d < d'))) := by
    clear e1 e5 e6 g1 g5 g6
    rcases hl with hl | ⟨hl, hl2 | ⟨hl2, hl3⟩⟩ <;> omega
  clear e7 g7 hl hm hm' e1 g1
  have hT : e < 15 ∨ e = 15 := by omega
  rcases hx with hC | ⟨hC, he | ⟨he, hd⟩⟩
  · have a : d + 306001 * e / 10000 ≤ 488 ∧ (d + 306001 * e / 10000 = 488 → C % 4 = 3) := by
      rcases hT with a | a
      · have := e5 a; omega
      · have := e6 a; subst a; omega
    have b : 123 ≤ d' + 306001 * e' / 10000 := by omega
    clear e5 e6 g5 g6 hT
    generalize 306001 * e / 10000 = X at *
    generalize 306001 * e' / 10000 = Y at *
    omega
  · subst hC
    have := e5 (by omega)
    omega
  · subst hC; subst he
    omega
-- COPTIC
structure LC (y m d : Int) : Prop where
  m1 : 1 ≤ m ∧ m ≤ 13
  d1 : 1 ≤ d ∧ d ≤ 30
  d6 : m = 13 → d ≤ 6
  dL : m = 13 → d = 6 → y % 4 = 3
theorem c_year {y m d N : Int} (h : LC y m d) (hN : cnum y m d = N) : (4 * (N - 1825029) + 1463) / 1461 = y := by
  obtain ⟨h1, h2, h3, h4⟩ := h
  unfold cnum at hN; omega
theorem c_lt {y m d y' m' d' : Int} (h : LC y m d) (h' : LC y' m' d') (hl : y < y' ∨ (y = y' ∧ (m < m' ∨ (m = m' ∧ d < d')))) : cnum y m d < cnum y' m' d' := by
  obtain ⟨h1, h2, h3, h4⟩ := h
  obtain ⟨g1, g2, g3, g4⟩ := h'
  unfold cnum; omega
-- ARMENIAN, loose
structure LA (y m d : Int) : Prop where
  y1 : 1 ≤ y
  m1 : 1 ≤ m ∧ m ≤ 13
  d1 : 1 ≤ d ∧ d ≤ 30
  d6 : m = 13 → d ≤ 5
theorem a_lt {y m d y' m' d' : Int} (h : LA y m d) (h' : LA y' m' d') (hl : y < y' ∨ (y = y' ∧ (m < m' ∨ (m = m' ∧ d < d')))) : anum y m d < anum y' m' d' := by
  obtain ⟨h0, h1, h2, h3⟩ := h
  obtain ⟨g0, g1, g2, g3⟩ := h'
  unfold anum; omega
-- ARMENIAN, Sarkawag
structure LS (y m d : Int) : Prop where
  y1 : 533 ≤ y
  m1 : 1 ≤ m ∧ m ≤ 13
  d1 : 1 ≤ d ∧ d ≤ 30
  d6 : m = 13 → d ≤ 6
  dL : m = 13 → d = 6 → y % 4 = 0
theorem s_lt {y m d y' m' d' : Int} (h : LS y m d) (h' : LS y' m' d') (hl : y < y' ∨ (y = y' ∧ (m < m' ∨ (m = m' ∧ d < d')))) : snum y m d < snum y' m' d' := by
  obtain ⟨h0, h1, h2, h3, h4⟩ := h
  obtain ⟨g0, g1, g2, g3, g4⟩ := h'
  unfold snum; omega
-- REPUBLICAN
structure LF (y m d : Int) : Prop where
  y1 : 1 ≤ y
  m1 : 1 ≤ m ∧ m ≤ 13
  d1 : 1 ≤ d ∧ d ≤ 30
  d6 : m = 13 → d ≤ 6
  dL : m = 13 → d = 6 → y % 4 = 3
theorem f_lt {y m d y' m' d' : Int} (h : LF y m d) (h' : LF y' m' d') (hl : y < y' ∨ (y = y' ∧ (m < m' ∨ (m = m' ∧ d < d')))) : fnum y m d < fnum y' m' d' := by
  obtain ⟨h0, h1, h2, h3, h4⟩ := h
  obtain ⟨g0, g1, g2, g3, g4⟩ := h'
  unfold fnum; omega
-- ISLAMIC
structure LH (y m d : Int) : Prop where
  m1 : 1 ≤ m ∧ m ≤ 12
  d1 : 1 ≤ d ∧ d ≤ 30
  d29 : m % 2 = 0 → m < 12 → d ≤ 29
  dL : m = 12 → d = 30 → 19 ≤ (3 + 11 * y) % 30
theorem h_year {y m d N : Int} (h : LH y m d) (hN : hnum y m d = N) : (30 * (N - 1948439) + 10646) / 10631 = y := by
  obtain ⟨h1, h2, h3, h4⟩ := h
  unfold hnum at hN
  rcases m_cases h1 with h | h | h | h | h | h | h | h | h | h | h | h <;> subst h <;> omega
theorem h_first (y : Int) : hnum y 1 1 = 1 + (y - 1) * 354 + (3 + 11 * y) / 30 + 1948438 := by unfold hnum; omega
theorem h_mon {y m d N : Int} (h : LH y m d) (hN : hnum y m d = N) : min 12 (-(-(2 * (N - (29 + hnum y 1 1))) / 59) + 1) = m := by
  obtain ⟨h1, h2, h3, h4⟩ := h
  rw [h_first]
  unfold hnum at hN
  rcases m_cases h1 with h | h | h | h | h | h | h | h | h | h | h | h <;> subst h <;> omega
theorem h_lt {y m d y' m' d' : Int} (h : LH y m d) (h' : LH y' m' d') (hl : y < y' ∨ (y = y' ∧ (m < m' ∨ (m = m' ∧ d < d')))) : hnum y m d < hnum y' m' d' := by
  have k : ∀ {y m d : Int}, LH y m d → ∃ T : Int, hnum y m d = T + (y - 1) * 354 + (3 + 11 * y) / 30 + 1948438 ∧ 1 ≤ T ∧ T ≤ 355 ∧ (T = 355 → 19 ≤ (3 + 11 * y) % 30) ∧ T = d + (59 * (m - 1) + 1) / 2 := by
    intro y m d h
    obtain ⟨h1, h2, h3, h4⟩ := h
    unfold hnum
    refine ⟨d + (59 * (m - 1) + 1) / 2, ?_⟩
    rcases m_cases h1 with h | h | h | h | h | h | h | h | h | h | h | h <;> subst h <;> omega
  obtain ⟨T, e1, e2, e3, e4, e5⟩ := k h
  obtain ⟨T', g1, g2, g3, g4, g5⟩ := k h'
  rw [e1, g1]
  by_cases hC : y < y'
  · by_cases hz : y' = y + 1
    · subst hz; omega
    · omega
  · have hE : y = y' := by omega
    subst hE
    have : T < T' := by
      have hm := h.m1
      have hm' := h'.m1
      have hd := h.d1
      have hd' := h'.d1
      have a := h.d29
      rcases m_cases hm with h | h | h | h | h | h | h | h | h | h | h | h <;> subst h <;> omega
    omega
-- INDIAN
structure LI (y m d : Int) : Prop where
  m1 : 1 ≤ m ∧ m ≤ 12
  d1 : 1 ≤ d ∧ d ≤ 31
  d30 : 7 ≤ m → d ≤ 30
  dL : m = 1 → d ≤ 30 + lq (y + 78)
theorem i_doy {y m d : Int} (h : LI y m d) : ∃ T : Int, inum y m d = gnum (y + 78) 1 1 + 80 + T ∧ 0 ≤ T ∧ T ≤ 364 + lq (y + 78) ∧
    ((m = 1 ∧ T = d - 1) ∨ (2 ≤ m ∧ m ≤ 6 ∧ T = 30 + lq (y + 78) + (m - 2) * 31 + d - 1) ∨ (7 ≤ m ∧ T = 30 + lq (y + 78) + 155 + (m - 7) * 30 + d - 1)) := by
  obtain ⟨h1, h2, h3, h4⟩ := h
  unfold inum
  have hl := lq_cases (y + 78)
  have hg1 := g_doy (y + 78) 3 21
  have hg2 := g_doy (y + 78) 3 22
  have ha := gadj_facts (y + 78) 3
  generalize gadj (y + 78) 3 = g at *
  by_cases c : (y + 78) % 4 = 0 ∧ ((y + 78) % 100 ≠ 0 ∨ (y + 78) % 400 = 0)
  · rw [if_pos c, if_pos c]
    have hq : lq (y + 78) = 1 := by omega
    rw [hq] at *
    generalize gnum (y + 78) 3 21 = G1 at *
    generalize gnum (y + 78) 3 22 = G2 at *
    generalize gnum (y + 78) 1 1 = G at *
    by_cases c1 : m = 1
    · rw [if_pos c1]; exact ⟨d - 1, by omega⟩
    · rw [if_neg c1]
      by_cases c2 : m ≤ 7
      · rw [if_pos c2]; exact ⟨31 + (m - 2) * 31 + d - 1, by omega⟩
      · rw [if_neg c2]; exact ⟨31 + 155 + (m - 7) * 30 + d - 1, by omega⟩
  · rw [if_neg c, if_neg c]
    have hq : lq (y + 78) = 0 := by omega
    rw [hq] at *
    generalize gnum (y + 78) 3 21 = G1 at *
    generalize gnum (y + 78) 3 22 = G2 at *
    generalize gnum (y + 78) 1 1 = G at *
    by_cases c1 : m = 1
    · rw [if_pos c1]; exact ⟨d - 1, by omega⟩
    · rw [if_neg c1]
      by_cases c2 : m ≤ 7
      · rw [if_pos c2]; exact ⟨30 + (m - 2) * 31 + d - 1, by omega⟩
      · rw [if_neg c2]; exact ⟨30 + 155 + (m - 7) * 30 + d - 1, by omega⟩
theorem i_lt {y m d y' m' d' : Int} (h : LI y m d) (h' : LI y' m' d') (hl : y < y' ∨ (y = y' ∧ (m < m' ∨ (m = m' ∧ d < d')))) : inum y m d < inum y' m' d' := by
  obtain ⟨T, e1, e2, e3, e4⟩ := i_doy h
  obtain ⟨T', g1, g2, g3, g4⟩ := i_doy h'
  rw [e1, g1]
  by_cases hC : y < y'
  · have h1 := g_mono (show y + 78 < y' + 78 by omega)
    have h2 := g_next (y + 78)
    omega
  · have hE : y = y' := by omega
    subst hE
    obtain ⟨h1, h2, h3, h4⟩ := h
    obtain ⟨k1, k2, k3, k4⟩ := h'
    omega
/-- a day of the gregorian year has a date -/
theorem g_date {G N : Int} (h : gnum G 1 1 ≤ N ∧ N < gnum (G + 1) 1 1) : ∃ m d : Int, LG G m d ∧ gnum G m d = N := by
  rw [g_next] at h
  have hl := lq_cases G
  have hb := lq_bd G
  have key : ∀ m d : Int, 1 ≤ m ∧ m ≤ 12 → 1 ≤ d ∧ d ≤ 31 → (m = 4 ∨ m = 6 ∨ m = 9 ∨ m = 11 → d ≤ 30) → (m = 2 → d ≤ 28 + lq G) → gnum G m d = N → ∃ m d : Int, LG G m d ∧ gnum G m d = N := by
    intro m d a b c e f
    refine ⟨m, d, ⟨a, b, c, fun x => by have := e x; omega, fun x z => ?_⟩, f⟩
    have := e x
    unfold Lp; omega
  have hd : ∀ m d : Int, gnum G m d = gnum G 1 1 + ((367 * m - 362) / 12 + gadj G m + d - 1) := fun m d => g_doy G m d
  have ha := gadj_facts G
  generalize hT : N - gnum G 1 1 = T at *
  by_cases c1 : T < 31
  · exact key 1 (T + 1) (by omega) (by omega) (by omega) (by omega) (by rw [hd]; have := ha 1; omega)
  by_cases c2 : T < 59 + lq G
  · exact key 2 (T - 30) (by omega) (by omega) (by omega) (by omega) (by rw [hd]; have := ha 2; omega)
  by_cases c3 : T < 90 + lq G
  · exact key 3 (T - 58 - lq G) (by omega) (by omega) (by omega) (by omega) (by rw [hd]; have := ha 3; omega)
  by_cases c4 : T < 120 + lq G
  · exact key 4 (T - 89 - lq G) (by omega) (by omega) (by omega) (by omega) (by rw [hd]; have := ha 4; omega)
  by_cases c5 : T < 151 + lq G
  · exact key 5 (T - 119 - lq G) (by omega) (by omega) (by omega) (by omega) (by rw [hd]; have := ha 5; omega)
  by_cases c6 : T < 181 + lq G
  · exact key 6 (T - 150 - lq G) (by omega) (by omega) (by omega) (by omega) (by rw [hd]; have := ha 6; omega)
  by_cases c7 : T < 212 + lq G
  · exact key 7 (T - 180 - lq G) (by omega) (by omega) (by omega) (by omega) (by rw [hd]; have := ha 7; omega)
  by_cases c8 : T < 243 + lq G
  · exact key 8 (T - 211 - lq G) (by omega) (by omega) (by omega) (by omega) (by rw [hd]; have := ha 8; omega)
  by_cases c9 : T < 273 + lq G
  · exact key 9 (T - 242 - lq G) (by omega) (by omega) (by omega) (by omega) (by rw [hd]; have := ha 9; omega)
  by_cases c10 : T < 304 + lq G
  · exact key 10 (T - 272 - lq G) (by omega) (by omega) (by omega) (by omega) (by rw [hd]; have := ha 10; omega)
  by_cases c11 : T < 334 + lq G
  · exact key 11 (T - 303 - lq G) (by omega) (by omega) (by omega) (by omega) (by rw [hd]; have := ha 11; omega)
  · exact key 12 (T - 333 - lq G) (by omega) (by omega) (by omega) (by omega) (by rw [hd]; have := ha 12; omega)
end Mine
end

namespace Mine
section
open PySem PySem.W PyProof.Rows PySem.Calls PySem.Flt
local macro_rules | `(tactic| walk_at "binaryOp Mod int int") => `(tactic| ((with_reducible refine' r_mod_ii ?hA ?hp ?_); (case hA => with_plain (exact rfl)); (case hp => with_plain (omega))))
local macro_rules | `(tactic| walk_at "binaryOp Add float float") => `(tactic| ((with_reducible refine' r_add_ff ?hx ?hy ?ha ?hb ?_); (case hx => with_plain (first | with_reducible rfl | with_reducible exact lit_half | with_reducible exact lit_greg | with_reducible exact lit_arm | with_reducible exact lit_sark | with_reducible exact lit_copt | with_reducible exact lit_fr | with_reducible exact lit_365 | with_reducible exact lit_1461 | with_reducible exact lit_4 | with_reducible exact lit_isl | with_reducible exact lit_295 | with_reducible exact lit_36525 | with_reducible exact lit_15245 | with_reducible exact lit_30)); (case hy => with_plain (first | with_reducible rfl | with_reducible exact lit_half | with_reducible exact lit_greg | with_reducible exact lit_arm | with_reducible exact lit_sark | with_reducible exact lit_copt | with_reducible exact lit_fr | with_reducible exact lit_365 | with_reducible exact lit_1461 | with_reducible exact lit_4 | with_reducible exact lit_isl | with_reducible exact lit_295 | with_reducible exact lit_36525 | with_reducible exact lit_15245 | with_reducible exact lit_30)); (case ha => with_plain (omega)); (case hb => with_plain (omega))))
local macro_rules | `(tactic| walk_at "binaryOp Sub float float") => `(tactic| ((with_reducible refine' r_sub_ff ?hx ?hy ?ha ?hb ?_); (case hx => with_plain (first | with_reducible rfl | with_reducible exact lit_half | with_reducible exact lit_greg | with_reducible exact lit_arm | with_reducible exact lit_sark | with_reducible exact lit_copt | with_reducible exact lit_fr | with_reducible exact lit_365 | with_reducible exact lit_1461 | with_reducible exact lit_4 | with_reducible exact lit_isl | with_reducible exact lit_295 | with_reducible exact lit_36525 | with_reducible exact lit_15245 | with_reducible exact lit_30)); (case hy => with_plain (first | with_reducible rfl | with_reducible exact lit_half | with_reducible exact lit_greg | with_reducible exact lit_arm | with_reducible exact lit_sark | with_reducible exact lit_copt | with_reducible exact lit_fr | with_reducible exact lit_365 | with_reducible exact lit_1461 | with_reducible exact lit_4 | with_reducible exact lit_isl | with_reducible exact lit_295 | with_reducible exact lit_36525 | with_reducible exact lit_15245 | with_reducible exact lit_30)); (case ha => with_plain (omega)); (case hb => with_plain (omega))))
local macro_rules | `(tactic| walk_at "inplaceOp Add float float") => `(tactic| ((with_reducible refine' r_iadd_ff ?hx ?hy ?ha ?hb ?_); (case hx => with_plain (first | with_reducible rfl | with_reducible exact lit_half | with_reducible exact lit_greg | with_reducible exact lit_arm | with_reducible exact lit_sark | with_reducible exact lit_copt | with_reducible exact lit_fr | with_reducible exact lit_365 | with_reducible exact lit_1461 | with_reducible exact lit_4 | with_reducible exact lit_isl | with_reducible exact lit_295 | with_reducible exact lit_36525 | with_reducible exact lit_15245 | with_reducible exact lit_30)); (case hy => with_plain (first | with_reducible rfl | with_reducible exact lit_half | with_reducible exact lit_greg | with_reducible exact lit_arm | with_reducible exact lit_sark | with_reducible exact lit_copt | with_reducible exact lit_fr | with_reducible exact lit_365 | with_reducible exact lit_1461 | with_reducible exact lit_4 | with_reducible exact lit_isl | with_reducible exact lit_295 | with_reducible exact lit_36525 | with_reducible exact lit_15245 | with_reducible exact lit_30)); (case ha => with_plain (omega)); (case hb => with_plain (omega))))
local macro_rules | `(tactic| walk_at "binaryOp Add float int") => `(tactic| ((with_reducible refine' r_add_fi ?hA ?hx ?ha ?hn ?_); (case hA => with_plain (exact rfl)); (case hx => with_plain (first | with_reducible rfl | with_reducible exact lit_half | with_reducible exact lit_greg | with_reducible exact lit_arm | with_reducible exact lit_sark | with_reducible exact lit_copt | with_reducible exact lit_fr | with_reducible exact lit_365 | with_reducible exact lit_1461 | with_reducible exact lit_4 | with_reducible exact lit_isl | with_reducible exact lit_295 | with_reducible exact lit_36525 | with_reducible exact lit_15245 | with_reducible exact lit_30)); (case ha => with_plain (omega)); (case hn => with_plain (omega))))
local macro_rules | `(tactic| walk_at "binaryOp Add int float") => `(tactic| ((with_reducible refine' r_add_if ?hA ?hx ?ha ?hn ?_); (case hA => with_plain (exact rfl)); (case hx => with_plain (first | with_reducible rfl | with_reducible exact lit_half | with_reducible exact lit_greg | with_reducible exact lit_arm | with_reducible exact lit_sark | with_reducible exact lit_copt | with_reducible exact lit_fr | with_reducible exact lit_365 | with_reducible exact lit_1461 | with_reducible exact lit_4 | with_reducible exact lit_isl | with_reducible exact lit_295 | with_reducible exact lit_36525 | with_reducible exact lit_15245 | with_reducible exact lit_30)); (case ha => with_plain (omega)); (case hn => with_plain (omega))))
local macro_rules | `(tactic| walk_at "binaryOp Sub float int") => `(tactic| ((with_reducible refine' r_sub_fi ?hA ?hx ?ha ?hn ?_); (case hA => with_plain (exact rfl)); (case hx => with_plain (first | with_reducible rfl | with_reducible exact lit_half | with_reducible exact lit_greg | with_reducible exact lit_arm | with_reducible exact lit_sark | with_reducible exact lit_copt | with_reducible exact lit_fr | with_reducible exact lit_365 | with_reducible exact lit_1461 | with_reducible exact lit_4 | with_reducible exact lit_isl | with_reducible exact lit_295 | with_reducible exact lit_36525 | with_reducible exact lit_15245 | with_reducible exact lit_30)); (case ha => with_plain (omega)); (case hn => with_plain (omega))))
local macro_rules | `(tactic| walk_at "inplaceOp Add float int") => `(tactic| ((with_reducible refine' r_iadd_fi ?hA ?hx ?ha ?hn ?_); (case hA => with_plain (exact rfl)); (case hx => with_plain (first | with_reducible rfl | with_reducible exact lit_half | with_reducible exact lit_greg | with_reducible exact lit_arm | with_reducible exact lit_sark | with_reducible exact lit_copt | with_reducible exact lit_fr | with_reducible exact lit_365 | with_reducible exact lit_1461 | with_reducible exact lit_4 | with_reducible exact lit_isl | with_reducible exact lit_295 | with_reducible exact lit_36525 | with_reducible exact lit_15245 | with_reducible exact lit_30)); (case ha => with_plain (omega)); (case hn => with_plain (omega))))
local macro_rules | `(tactic| walk_at "inplaceOp Sub float int") => `(tactic| ((with_reducible refine' r_isub_fi ?hA ?hx ?ha ?hn ?_); (case hA => with_plain (exact rfl)); (case hx => with_plain (first | with_reducible rfl | with_reducible exact lit_half | with_reducible exact lit_greg | with_reducible exact lit_arm | with_reducible exact lit_sark | with_reducible exact lit_copt | with_reducible exact lit_fr | with_reducible exact lit_365 | with_reducible exact lit_1461 | with_reducible exact lit_4 | with_reducible exact lit_isl | with_reducible exact lit_295 | with_reducible exact lit_36525 | with_reducible exact lit_15245 | with_reducible exact lit_30)); (case ha => with_plain (omega)); (case hn => with_plain (omega))))
local macro_rules | `(tactic| walk_at "binaryOp Sub int float") => `(tactic| ((with_reducible refine' r_sub_if ?hA ?hx ?ha ?hn ?_); (case hA => with_plain (exact rfl)); (case hx => with_plain (first | with_reducible rfl | with_reducible exact lit_half | with_reducible exact lit_greg | with_reducible exact lit_arm | with_reducible exact lit_sark | with_reducible exact lit_copt | with_reducible exact lit_fr | with_reducible exact lit_365 | with_reducible exact lit_1461 | with_reducible exact lit_4 | with_reducible exact lit_isl | with_reducible exact lit_295 | with_reducible exact lit_36525 | with_reducible exact lit_15245 | with_reducible exact lit_30)); (case ha => with_plain (omega)); (case hn => with_plain (omega))))
local macro_rules | `(tactic| walk_at "binaryOp Mult float int") => `(tactic| ((with_reducible refine' r_mul_fi ?hA ?hx ?ha ?hn ?hp ?_); (case hA => with_plain (exact rfl)); (case hx => with_plain (first | with_reducible rfl | with_reducible exact lit_half | with_reducible exact lit_greg | with_reducible exact lit_arm | with_reducible exact lit_sark | with_reducible exact lit_copt | with_reducible exact lit_fr | with_reducible exact lit_365 | with_reducible exact lit_1461 | with_reducible exact lit_4 | with_reducible exact lit_isl | with_reducible exact lit_295 | with_reducible exact lit_36525 | with_reducible exact lit_15245 | with_reducible exact lit_30)); (case ha => with_plain (omega)); (case hn => with_plain (omega)); (case hp => with_plain (omega))))
local macro_rules | `(tactic| walk_at "binaryOp Mult int float") => `(tactic| ((with_reducible refine' r_mul_if ?hA ?hx ?ha ?hn ?hp ?_); (case hA => with_plain (exact rfl)); (case hx => with_plain (first | with_reducible rfl | with_reducible exact lit_half | with_reducible exact lit_greg | with_reducible exact lit_arm | with_reducible exact lit_sark | with_reducible exact lit_copt | with_reducible exact lit_fr | with_reducible exact lit_365 | with_reducible exact lit_1461 | with_reducible exact lit_4 | with_reducible exact lit_isl | with_reducible exact lit_295 | with_reducible exact lit_36525 | with_reducible exact lit_15245 | with_reducible exact lit_30)); (case ha => with_plain (omega)); (case hn => with_plain (omega)); (case hp => with_plain (omega))))
local macro_rules | `(tactic| walk_at "binaryOp Div float int") => `(tactic| ((with_reducible refine' r_div_fi ?hA ?hx ?ha ?hn ?hp ?_); (case hA => with_plain (exact rfl)); (case hx => with_plain (first | with_reducible rfl | with_reducible exact lit_half | with_reducible exact lit_greg | with_reducible exact lit_arm | with_reducible exact lit_sark | with_reducible exact lit_copt | with_reducible exact lit_fr | with_reducible exact lit_365 | with_reducible exact lit_1461 | with_reducible exact lit_4 | with_reducible exact lit_isl | with_reducible exact lit_295 | with_reducible exact lit_36525 | with_reducible exact lit_15245 | with_reducible exact lit_30)); (case ha => with_plain (omega)); (case hn => with_plain (omega)); (case hp => with_plain (omega))))
local macro_rules | `(tactic| walk_at "binaryOp Div int float") => `(tactic| ((with_reducible refine' r_div_if ?hA ?hx ?ha ?hn ?hp ?_); (case hA => with_plain (exact rfl)); (case hx => with_plain (first | with_reducible rfl | with_reducible exact lit_half | with_reducible exact lit_greg | with_reducible exact lit_arm | with_reducible exact lit_sark | with_reducible exact lit_copt | with_reducible exact lit_fr | with_reducible exact lit_365 | with_reducible exact lit_1461 | with_reducible exact lit_4 | with_reducible exact lit_isl | with_reducible exact lit_295 | with_reducible exact lit_36525 | with_reducible exact lit_15245 | with_reducible exact lit_30)); (case ha => with_plain (omega)); (case hn => with_plain (omega)); (case hp => with_plain (omega))))
local macro_rules | `(tactic| walk_at "binaryOp Div float float") => `(tactic| ((with_reducible refine' r_div_ff ?hA ?hx ?hy ?ha ?hb ?hp ?_); (case hA => with_plain (exact rfl)); (case hx => with_plain (first | with_reducible rfl | with_reducible exact lit_half | with_reducible exact lit_greg | with_reducible exact lit_arm | with_reducible exact lit_sark | with_reducible exact lit_copt | with_reducible exact lit_fr | with_reducible exact lit_365 | with_reducible exact lit_1461 | with_reducible exact lit_4 | with_reducible exact lit_isl | with_reducible exact lit_295 | with_reducible exact lit_36525 | with_reducible exact lit_15245 | with_reducible exact lit_30)); (case hy => with_plain (first | with_reducible rfl | with_reducible exact lit_half | with_reducible exact lit_greg | with_reducible exact lit_arm | with_reducible exact lit_sark | with_reducible exact lit_copt | with_reducible exact lit_fr | with_reducible exact lit_365 | with_reducible exact lit_1461 | with_reducible exact lit_4 | with_reducible exact lit_isl | with_reducible exact lit_295 | with_reducible exact lit_36525 | with_reducible exact lit_15245 | with_reducible exact lit_30)); (case ha => with_plain (omega)); (case hb => with_plain (omega)); (case hp => with_plain (omega))))
local macro_rules | `(tactic| walk_at "binaryOp Div int int") => `(tactic| ((with_reducible refine' r_div_ii ?hA ?hm ?hp ?_); (case hA => with_plain (exact rfl)); (case hm => with_plain (omega)); (case hp => with_plain (omega))))
local macro_rules | `(tactic| walk_at "binaryOp Mod float int") => `(tactic| ((with_reducible refine' r_mod_fi ?hA ?hx ?ha ?hn ?hp ?_); (case hA => with_plain (exact rfl)); (case hx => with_plain (first | with_reducible rfl | with_reducible exact lit_half | with_reducible exact lit_greg | with_reducible exact lit_arm | with_reducible exact lit_sark | with_reducible exact lit_copt | with_reducible exact lit_fr | with_reducible exact lit_365 | with_reducible exact lit_1461 | with_reducible exact lit_4 | with_reducible exact lit_isl | with_reducible exact lit_295 | with_reducible exact lit_36525 | with_reducible exact lit_15245 | with_reducible exact lit_30)); (case ha => with_plain (omega)); (case hn => with_plain (omega)); (case hp => with_plain (omega)); intro _ _))
local macro_rules | `(tactic| walk_at "binaryOp Mod int float") => `(tactic| ((with_reducible refine' r_mod_if ?hA ?hx ?ha ?hn ?hp ?_); (case hA => with_plain (exact rfl)); (case hx => with_plain (first | with_reducible rfl | with_reducible exact lit_half | with_reducible exact lit_greg | with_reducible exact lit_arm | with_reducible exact lit_sark | with_reducible exact lit_copt | with_reducible exact lit_fr | with_reducible exact lit_365 | with_reducible exact lit_1461 | with_reducible exact lit_4 | with_reducible exact lit_isl | with_reducible exact lit_295 | with_reducible exact lit_36525 | with_reducible exact lit_15245 | with_reducible exact lit_30)); (case ha => with_plain (omega)); (case hn => with_plain (omega)); (case hp => with_plain (omega)); intro _ _))
local macro_rules | `(tactic| walk_at "binaryOp Mod float float") => `(tactic| ((with_reducible refine' r_mod_ff ?hA ?hx ?hy ?ha ?hb ?hp ?_); (case hA => with_plain (exact rfl)); (case hx => with_plain (first | with_reducible rfl | with_reducible exact lit_half | with_reducible exact lit_greg | with_reducible exact lit_arm | with_reducible exact lit_sark | with_reducible exact lit_copt | with_reducible exact lit_fr | with_reducible exact lit_365 | with_reducible exact lit_1461 | with_reducible exact lit_4 | with_reducible exact lit_isl | with_reducible exact lit_295 | with_reducible exact lit_36525 | with_reducible exact lit_15245 | with_reducible exact lit_30)); (case hy => with_plain (first | with_reducible rfl | with_reducible exact lit_half | with_reducible exact lit_greg | with_reducible exact lit_arm | with_reducible exact lit_sark | with_reducible exact lit_copt | with_reducible exact lit_fr | with_reducible exact lit_365 | with_reducible exact lit_1461 | with_reducible exact lit_4 | with_reducible exact lit_isl | with_reducible exact lit_295 | with_reducible exact lit_36525 | with_reducible exact lit_15245 | with_reducible exact lit_30)); (case ha => with_plain (omega)); (case hb => with_plain (omega)); (case hp => with_plain (omega)); intro _ _))
local macro_rules | `(tactic| walk_at "call builtin:math.floor") => `(tactic| ((with_reducible refine' r_floor_Q ?hA ?hx ?hd ?hd2 ?h1 ?h2 ?_); (case hA => with_plain (exact rfl)); (case hx => with_plain (with_reducible rfl)); (case hd => with_plain (omega)); (case hd2 => with_plain (omega)); (case h1 => with_plain (omega)); (case h2 => with_plain (omega)); intro _ _))
local macro_rules | `(tactic| walk_at "call builtin:math.floor") => `(tactic| ((with_reducible refine' r_floor_Q128 ?hA ?hx ?hd ?hd2 ?hm ?hdm ?h1 ?h2 ?_); (case hA => with_plain (exact rfl)); (case hx => with_plain (with_reducible rfl)); (case hd => with_plain (omega)); (case hd2 => with_plain (omega)); (case hm => with_plain (omega)); (case hdm => with_plain (omega)); (case h1 => with_plain (omega)); (case h2 => with_plain (omega)); intro _ _))
local macro_rules | `(tactic| walk_at "call builtin:math.floor") => `(tactic| ((with_reducible refine' r_floor_D ?hA ?hx ?ha ?_); (case hA => with_plain (exact rfl)); (case hx => with_plain (first | with_reducible rfl | with_reducible exact lit_half | with_reducible exact lit_greg | with_reducible exact lit_arm | with_reducible exact lit_sark | with_reducible exact lit_copt | with_reducible exact lit_fr | with_reducible exact lit_365 | with_reducible exact lit_1461 | with_reducible exact lit_4 | with_reducible exact lit_isl | with_reducible exact lit_295 | with_reducible exact lit_36525 | with_reducible exact lit_15245 | with_reducible exact lit_30)); (case ha => with_plain (omega)); intro _ _))
local macro_rules | `(tactic| walk_at "call builtin:math.trunc") => `(tactic| ((with_reducible refine' r_trunc_Q ?hA ?hx ?hd ?hd2 ?h1 ?h2 ?_); (case hA => with_plain (exact rfl)); (case hx => with_plain (with_reducible rfl)); (case hd => with_plain (omega)); (case hd2 => with_plain (omega)); (case h1 => with_plain (omega)); (case h2 => with_plain (omega)); intro _ _))
local macro_rules | `(tactic| walk_at "call builtin:math.trunc") => `(tactic| ((with_reducible refine' r_trunc_Q128 ?hA ?hx ?hd ?hd2 ?hm ?hdm ?h1 ?h2 ?_); (case hA => with_plain (exact rfl)); (case hx => with_plain (with_reducible rfl)); (case hd => with_plain (omega)); (case hd2 => with_plain (omega)); (case hm => with_plain (omega)); (case hdm => with_plain (omega)); (case h1 => with_plain (omega)); (case h2 => with_plain (omega)); intro _ _))
local macro_rules | `(tactic| walk_at "call builtin:math.trunc") => `(tactic| ((with_reducible refine' r_trunc_D ?hA ?hx ?ha ?h0 ?_); (case hA => with_plain (exact rfl)); (case hx => with_plain (first | with_reducible rfl | with_reducible exact lit_half | with_reducible exact lit_greg | with_reducible exact lit_arm | with_reducible exact lit_sark | with_reducible exact lit_copt | with_reducible exact lit_fr | with_reducible exact lit_365 | with_reducible exact lit_1461 | with_reducible exact lit_4 | with_reducible exact lit_isl | with_reducible exact lit_295 | with_reducible exact lit_36525 | with_reducible exact lit_15245 | with_reducible exact lit_30)); (case ha => with_plain (omega)); (case h0 => with_plain (omega)); intro _ _))
local macro_rules | `(tactic| walk_at "call builtin:math.ceil") => `(tactic| ((with_reducible refine' r_ceil_Q ?hA ?hx ?hd ?hd2 ?h1 ?h2 ?_); (case hA => with_plain (exact rfl)); (case hx => with_plain (with_reducible rfl)); (case hd => with_plain (omega)); (case hd2 => with_plain (omega)); (case h1 => with_plain (omega)); (case h2 => with_plain (omega)); intro _ _))
local macro_rules | `(tactic| walk_at "call builtin:math.ceil") => `(tactic| ((with_reducible refine' r_ceil_D ?hA ?hx ?ha ?_); (case hA => with_plain (exact rfl)); (case hx => with_plain (first | with_reducible rfl | with_reducible exact lit_half | with_reducible exact lit_greg | with_reducible exact lit_arm | with_reducible exact lit_sark | with_reducible exact lit_copt | with_reducible exact lit_fr | with_reducible exact lit_365 | with_reducible exact lit_1461 | with_reducible exact lit_4 | with_reducible exact lit_isl | with_reducible exact lit_295 | with_reducible exact lit_36525 | with_reducible exact lit_15245 | with_reducible exact lit_30)); (case ha => with_plain (omega)); intro _ _))
local macro_rules | `(tactic| walk_at "call type:int") => `(tactic| ((with_reducible refine' r_int_D ?hA ?hx ?ha ?h0 ?_); (case hA => with_plain (exact rfl)); (case hx => with_plain (first | with_reducible rfl | with_reducible exact lit_half | with_reducible exact lit_greg | with_reducible exact lit_arm | with_reducible exact lit_sark | with_reducible exact lit_copt | with_reducible exact lit_fr | with_reducible exact lit_365 | with_reducible exact lit_1461 | with_reducible exact lit_4 | with_reducible exact lit_isl | with_reducible exact lit_295 | with_reducible exact lit_36525 | with_reducible exact lit_15245 | with_reducible exact lit_30)); (case ha => with_plain (omega)); (case h0 => with_plain (omega)); intro _ _))
local macro_rules | `(tactic| walk_at "compareOp Lt float int") => `(tactic| ((with_reducible refine' r_lt_fi ?hx ?ha ?_); (case hx => with_plain (first | with_reducible rfl | with_reducible exact lit_half | with_reducible exact lit_greg | with_reducible exact lit_arm | with_reducible exact lit_sark | with_reducible exact lit_copt | with_reducible exact lit_fr | with_reducible exact lit_365 | with_reducible exact lit_1461 | with_reducible exact lit_4 | with_reducible exact lit_isl | with_reducible exact lit_295 | with_reducible exact lit_36525 | with_reducible exact lit_15245 | with_reducible exact lit_30)); (case ha => with_plain (omega))))
local macro_rules | `(tactic| walk_at "compareOp Eq float int") => `(tactic| ((with_reducible refine' r_eq_fi ?hx ?ha ?_); (case hx => with_plain (first | with_reducible rfl | with_reducible exact lit_half | with_reducible exact lit_greg | with_reducible exact lit_arm | with_reducible exact lit_sark | with_reducible exact lit_copt | with_reducible exact lit_fr | with_reducible exact lit_365 | with_reducible exact lit_1461 | with_reducible exact lit_4 | with_reducible exact lit_isl | with_reducible exact lit_295 | with_reducible exact lit_36525 | with_reducible exact lit_15245 | with_reducible exact lit_30)); (case ha => with_plain (omega))))
local macro_rules | `(tactic| walk_at "compareOp Eq int float") => `(tactic| ((with_reducible refine' r_eq_if ?hx ?ha ?_); (case hx => with_plain (first | with_reducible rfl | with_reducible exact lit_half | with_reducible exact lit_greg | with_reducible exact lit_arm | with_reducible exact lit_sark | with_reducible exact lit_copt | with_reducible exact lit_fr | with_reducible exact lit_365 | with_reducible exact lit_1461 | with_reducible exact lit_4 | with_reducible exact lit_isl | with_reducible exact lit_295 | with_reducible exact lit_36525 | with_reducible exact lit_15245 | with_reducible exact lit_30)); (case ha => with_plain (omega))))
local macro_rules | `(tactic| walk_at "compareOp Lt float float") => `(tactic| ((with_reducible refine' r_lt_ff ?hx ?hy ?ha ?hb ?_); (case hx => with_plain (first | with_reducible rfl | with_reducible exact lit_half | with_reducible exact lit_greg | with_reducible exact lit_arm | with_reducible exact lit_sark | with_reducible exact lit_copt | with_reducible exact lit_fr | with_reducible exact lit_365 | with_reducible exact lit_1461 | with_reducible exact lit_4 | with_reducible exact lit_isl | with_reducible exact lit_295 | with_reducible exact lit_36525 | with_reducible exact lit_15245 | with_reducible exact lit_30)); (case hy => with_plain (first | with_reducible rfl | with_reducible exact lit_half | with_reducible exact lit_greg | with_reducible exact lit_arm | with_reducible exact lit_sark | with_reducible exact lit_copt | with_reducible exact lit_fr | with_reducible exact lit_365 | with_reducible exact lit_1461 | with_reducible exact lit_4 | with_reducible exact lit_isl | with_reducible exact lit_295 | with_reducible exact lit_36525 | with_reducible exact lit_15245 | with_reducible exact lit_30)); (case ha => with_plain (omega)); (case hb => with_plain (omega))))
local macro_rules | `(tactic| walk_at "compareOp Eq float float") => `(tactic| ((with_reducible refine' r_eq_ff ?hx ?hy ?ha ?hb ?_); (case hx => with_plain (first | with_reducible rfl | with_reducible exact lit_half | with_reducible exact lit_greg | with_reducible exact lit_arm | with_reducible exact lit_sark | with_reducible exact lit_copt | with_reducible exact lit_fr | with_reducible exact lit_365 | with_reducible exact lit_1461 | with_reducible exact lit_4 | with_reducible exact lit_isl | with_reducible exact lit_295 | with_reducible exact lit_36525 | with_reducible exact lit_15245 | with_reducible exact lit_30)); (case hy => with_plain (first | with_reducible rfl | with_reducible exact lit_half | with_reducible exact lit_greg | with_reducible exact lit_arm | with_reducible exact lit_sark | with_reducible exact lit_copt | with_reducible exact lit_fr | with_reducible exact lit_365 | with_reducible exact lit_1461 | with_reducible exact lit_4 | with_reducible exact lit_isl | with_reducible exact lit_295 | with_reducible exact lit_36525 | with_reducible exact lit_15245 | with_reducible exact lit_30)); (case ha => with_plain (omega)); (case hb => with_plain (omega))))
local macro_rules | `(tactic| walk_at "compareOp LtE float float") => `(tactic| ((with_reducible refine' r_le_ff ?hx ?hy ?ha ?hb ?_); (case hx => with_plain (first | with_reducible rfl | with_reducible exact lit_half | with_reducible exact lit_greg | with_reducible exact lit_arm | with_reducible exact lit_sark | with_reducible exact lit_copt | with_reducible exact lit_fr | with_reducible exact lit_365 | with_reducible exact lit_1461 | with_reducible exact lit_4 | with_reducible exact lit_isl | with_reducible exact lit_295 | with_reducible exact lit_36525 | with_reducible exact lit_15245 | with_reducible exact lit_30)); (case hy => with_plain (first | with_reducible rfl | with_reducible exact lit_half | with_reducible exact lit_greg | with_reducible exact lit_arm | with_reducible exact lit_sark | with_reducible exact lit_copt | with_reducible exact lit_fr | with_reducible exact lit_365 | with_reducible exact lit_1461 | with_reducible exact lit_4 | with_reducible exact lit_isl | with_reducible exact lit_295 | with_reducible exact lit_36525 | with_reducible exact lit_15245 | with_reducible exact lit_30)); (case ha => with_plain (omega)); (case hb => with_plain (omega))))
local macro_rules | `(tactic| walk_at "binaryOp Add int bool") => `(tactic| ((with_reducible refine r_add_ib ?_); intro _ _))
local macro_rules | `(tactic| walk_at "binaryOp Add int bool") => `(tactic| first | (with_reducible refine r_add_it ?_) | (with_reducible refine r_add_if0 ?_))
local macro_rules | `(tactic| walk_at "binaryOp Sub int bool") => `(tactic| ((with_reducible refine r_sub_ib ?_); intro _ _))
local macro_rules | `(tactic| walk_at "call builtin:min") => `(tactic| (k_here; (with_reducible refine' r_min_ii ?hA ?F ?N ?_); (case hA => with_plain (exact rfl)); (case F => k_asm); (case N => k_asm); intro _ _ _ _ _ _ _))
local macro_rules | `(tactic| walk_at "binaryOp Add float int") => `(tactic| ((with_reducible refine' r_add_Qi ?hA ?hx ?hn ?_); (case hA => with_plain (exact rfl)); (case hx => with_plain (with_reducible rfl)); (case hn => with_plain (omega))))
local macro_rules | `(tactic| walk_at "binaryOp Add float int") => `(tactic| ((with_reducible refine' r_add_Qii ?hA ?hx ?hn ?_); (case hA => with_plain (exact rfl)); (case hx => with_plain (with_reducible rfl)); (case hn => with_plain (omega))))
local macro_rules | `(tactic| walk_at "call builtin:math.floor") => `(tactic| ((with_reducible refine' r_floor_gm ?hA ?hx ?hm ?ha ?hd ?_); (case hA => with_plain (exact rfl)); (case hx => with_plain (with_reducible rfl)); (case hm => with_plain (omega)); (case ha => with_plain (omega)); (case hd => with_plain (omega)); intro _ _))
local macro_rules | `(tactic| walk_at "binaryOp Mult float int") => `(tactic| ((with_reducible refine' r_mul_306 ?hA ?hn ?_); (case hA => with_plain (exact rfl)); (case hn => with_plain (omega))))
local macro_rules | `(tactic| walk_at "call builtin:math.floor") => `(tactic| ((with_reducible refine' r_floor_306 ?hA ?hx ?hn ?_); (case hA => with_plain (exact rfl)); (case hx => with_plain (with_reducible rfl)); (case hn => with_plain (omega)); intro _ _))
local macro_rules | `(tactic| walk_at "binaryOp Div int float") => `(tactic| ((with_reducible refine' r_div_306 ?hA ?hn ?_); (case hA => with_plain (exact rfl)); (case hn => with_plain (omega))))
local macro_rules | `(tactic| walk_at "call builtin:math.floor") => `(tactic| ((with_reducible refine' r_floor_d306 ?hA ?hx ?hn ?_); (case hA => with_plain (exact rfl)); (case hx => with_plain (with_reducible rfl)); (case hn => with_plain (omega)); intro _ _))
local macro_rules | `(tactic| walk_at "binaryOp Mult float float") => `(tactic| ((with_reducible refine' r_mul_f365 ?hx ?ha ?_); (case hx => with_plain (first | with_reducible rfl | with_reducible exact lit_half | with_reducible exact lit_greg | with_reducible exact lit_arm | with_reducible exact lit_sark | with_reducible exact lit_copt | with_reducible exact lit_fr | with_reducible exact lit_365 | with_reducible exact lit_1461 | with_reducible exact lit_4 | with_reducible exact lit_isl | with_reducible exact lit_295 | with_reducible exact lit_36525 | with_reducible exact lit_15245 | with_reducible exact lit_30)); (case ha => with_plain (omega))))
local macro_rules | `(tactic| walk_at "binaryOp Mult int float") => `(tactic| ((with_reducible refine' r_mul30Z ?hA ?hx ?ha ?h1 ?_); (case hA => with_plain (exact rfl)); (case hx => with_plain (first | with_reducible rfl | with_reducible exact lit_half | with_reducible exact lit_greg | with_reducible exact lit_arm | with_reducible exact lit_sark | with_reducible exact lit_copt | with_reducible exact lit_fr | with_reducible exact lit_365 | with_reducible exact lit_1461 | with_reducible exact lit_4 | with_reducible exact lit_isl | with_reducible exact lit_295 | with_reducible exact lit_36525 | with_reducible exact lit_15245 | with_reducible exact lit_30)); (case ha => with_plain (omega)); (case h1 => with_plain (omega)); intro _ _))
local macro_rules | `(tactic| walk_at "binaryOp Add float int") => `(tactic| ((with_reducible refine' r_addZ ?hA ?hx ?ha ?hn ?_); (case hA => with_plain (exact rfl)); (case hx => with_plain (with_reducible rfl)); (case ha => with_plain (omega)); (case hn => with_plain (omega))))
local macro_rules | `(tactic| walk_at "binaryOp Div float int") => `(tactic| ((with_reducible refine' r_divZ ?hA ?hx ?ha ?hn ?hp ?_); (case hA => with_plain (exact rfl)); (case hx => with_plain (with_reducible rfl)); (case ha => with_plain (omega)); (case hn => with_plain (omega)); (case hp => with_plain (omega))))
local macro_rules | `(tactic| walk_at "binaryOp Sub int float") => `(tactic| ((with_reducible refine' r_sub_122 ?hA ?hn ?_); (case hA => with_plain (exact rfl)); (case hn => with_plain (omega))))
local macro_rules | `(tactic| walk_at "binaryOp Div float float") => `(tactic| ((with_reducible refine' r_div_122 ?hA ?hx ?_); (case hA => with_plain (exact rfl)); (case hx => with_plain (with_reducible rfl))))
local macro_rules | `(tactic| walk_at "call builtin:math.floor") => `(tactic| ((with_reducible refine' r_floor_122 ?hA ?hx ?hn ?_); (case hA => with_plain (exact rfl)); (case hx => with_plain (with_reducible rfl)); (case hn => with_plain (omega)); intro _ _))
local macro_rules | `(tactic| walk_at "compareOp In int ref") => `(tactic| (k_here; k_dflt (refine' r_in4 ?F ?X ?l ?_; (case F => k_asm); (case X => k_asm); (case l => k_is))))
local macro_rules | `(tactic| kcj_all) => `(tactic| ((try simp only [List.nil_append, List.cons_append]); (repeat ((with_reducible refine List.forall_mem_cons.mpr (And.intro ?_ ?_)); (focus first | with_reducible exact List.mem_cons_self | with_plain k_mem))); (with_reducible intro _ kcjH); (repeat (first | with_reducible exact kcjH | with_reducible refine List.mem_cons_of_mem _ ?_)); done))
local macro_rules | `(tactic| walk_at "eval Name") => `(tactic| (k_here; name_kind "globalImplicit"; (with_reducible rename Fr _ _ _ _ => kF); (with_reducible refine' name_KF kF ?k1 ?k2 ?k3 ?_ ?k4 ?k5 ?k6); (case k1 => k_asm); (case k2 => k_asm); (case k3 => k_is); (case k4 => rfl); (case k5 => decide +kernel); (case k6 => decide +kernel); k_dflt k_whole))
local macro_rules | `(tactic| walk_at "compareOp In int ref") => `(tactic| (k_here; k_dflt (refine' r_in3 ?N ?m ?_; (case N => k_asm); (case m => k_mem))))
local macro_rules | `(tactic| walk_at "compareOp In int ref") => `(tactic| (k_here; k_dflt (refine' r_in_ks ?N ?m ?_; (case N => k_asm); (case m => k_mem))))
local macro_rules | `(tactic| walk_at "ite") => `(tactic| (k_here; k_dflt (first
  | (refine' ite_pos ?c ?_; (case c => ((try simp only [Bool.not_eq_true', Bool.not_eq_false', decide_eq_true_eq, decide_eq_false_iff_not, beq_iff_eq, bne_iff_ne, ne_eq, Bool.and_eq_true, Bool.or_eq_true, Bool.not_eq_true, Bool.not_eq_false, beq_eq_false_iff_ne, Bool.and_eq_false_iff, Bool.or_eq_false_iff, not_and, not_or, Decidable.not_not]); omega)))
  | (refine' ite_neg ?c ?_; (case c => ((try simp only [Bool.not_eq_true', Bool.not_eq_false', decide_eq_true_eq, decide_eq_false_iff_not, beq_iff_eq, bne_iff_ne, ne_eq, Bool.and_eq_true, Bool.or_eq_true, Bool.not_eq_true, Bool.not_eq_false, beq_eq_false_iff_ne, Bool.and_eq_false_iff, Bool.or_eq_false_iff, not_and, not_or, Decidable.not_not]); omega))))))
local macro_rules | `(tactic| walk_at "storeName") => `(tactic| (k_here; dsimp only; walk_at "storeName"))
local macro_rules | `(tactic| walk_at "execs cons") => `(tactic| (k_here; dsimp only; walk_at "execs cons"))
local macro_rules | `(tactic| walk_at "execs nil") => `(tactic| (k_here; dsimp only; walk_at "execs nil"))
local macro_rules | `(tactic| walk_at "assign Name") => `(tactic| (k_here; dsimp only; walk_at "assign Name"))

section
local macro_rules | `(tactic| walk_at "no such step") => `(tactic| fail)
local macro_rules | `(tactic| walk_at "no such step") => `(tactic| fail)
local macro_rules | `(tactic| walk_at "no such step") => `(tactic| fail)
local macro_rules | `(tactic| walk_at "no such step") => `(tactic| fail)
local macro_rules | `(tactic| walk_at "no such step") => `(tactic| fail)
local macro_rules | `(tactic| walk_at "no such step") => `(tactic| fail)
local macro_rules | `(tactic| walk_at "no such step") => `(tactic| fail)
local macro_rules | `(tactic| walk_at "no such step") => `(tactic| fail)
local macro_rules | `(tactic| walk_at "no such step") => `(tactic| fail)
local macro_rules | `(tactic| walk_at "no such step") => `(tactic| fail)
local macro_rules | `(tactic| walk_at "no such step") => `(tactic| fail)
local macro_rules | `(tactic| walk_at "no such step") => `(tactic| fail)
local macro_rules | `(tactic| walk_at "no such step") => `(tactic| fail)
local macro_rules | `(tactic| walk_at "no such step") => `(tactic| fail)
local macro_rules | `(tactic| walk_at "no such step") => `(tactic| fail)
local macro_rules | `(tactic| walk_at "no such step") => `(tactic| fail)
local macro_rules | `(tactic| walk_at "no such step") => `(tactic| fail)
local macro_rules | `(tactic| walk_at "no such step") => `(tactic| fail)
local macro_rules | `(tactic| walk_at "no such step") => `(tactic| fail)
local macro_rules | `(tactic| walk_at "no such step") => `(tactic| fail)
local macro_rules | `(tactic| walk_at "no such step") => `(tactic| fail)
local macro_rules | `(tactic| walk_at "no such step") => `(tactic| fail)
local macro_rules | `(tactic| walk_at "no such step") => `(tactic| fail)
local macro_rules | `(tactic| walk_at "no such step") => `(tactic| fail)
open PySem PySem.W PyProof.Rows PySem.Calls PySem.Flt

section
variable (w : World) (loose : List Str) (mean : ExcName → Option Value) (mg mb : Str → Option Value)
set_option maxRecDepth 100000
set_option maxHeartbeats 8000000
theorem cl_isleap0 (y : Int) (t : Tok) : Cl w loose mean mg mb 50 [.int y t] 1 8 (fun _ => .bool (decide (y % 4 = 0) && (decide (y % 100 ≠ 0) || decide (y % 400 = 0)))) := by
  unfold Cl
  k_fill
  intro dp un gd cn cs a ccd cl outer A₀ base h₀ L m news s Q E B F X N T hk hdp hun hret
  refine wpAny_call ?_
  k_dflt (refine' code_def ?k1 ?k2 ?k3 ?k4 ?k5 ?kA ?kF ?kK ?k6 ?k7 ?k8 ?k9 ?kB ?_ ?c2 ?c3 ?c4 ?c5; (case kA => exact rfl); (case kF => exact rfl); (case kK => assumption); (case k1 => k_asm); (case k2 => k_asm); (case k3 => k_asm); (case k4 => k_asm); (case k5 => k_asm); (case k6 => k_is); (case k7 => k_is); (case k8 => ktr_room); (case k9 => first | exact BindsTo.of_eq rfl | exact binds_K (by k_in) rfl (by k_is) rfl rfl rfl); (case c5 => decide); (case kB => exact locs rfl); (case c2 => exact rfl); (case c3 => exact rfl); (case c4 => exact rfl); k_whole; intro g' L' h' FG' F' N' B' X' T'; (try dsimp only); (try k_lift B'); (try k_fold))
  k_steps
  all_goals cb_end hret

theorem cl_isleap (y : Int) (t : Tok) : Cl w loose mean mg mb 50 [.int y t] 1 8 (fun _ => .bool (decide (y % 4 = 0 ∧ (y % 100 ≠ 0 ∨ y % 400 = 0)))) := by
  rw [← leap_dec]; exact cl_isleap0 w loose mean mg mb y t
end
local macro_rules | `(tactic| walk_at "call ref") => `(tactic| (k_here; (with_reducible show wpAny _ _ (call (Value.ref 50) _) _ _ _); k_dflt (refine' Cl.use (cl_isleap _ _ _ _ _ _ _ ) ?k1 ?k2 ?k3 ?k4 ?k5 ?kK ?kd ?ku ?_; (case k1 => k_asm); (case k2 => k_asm); (case k3 => k_asm); (case k4 => k_asm); (case k5 => k_asm); (case kK => first | exact rfl | assumption); (case kd => ktr_room); (case ku => ktr_units); intro t9 h9 tk9 F9 N9; (try dsimp only); (try k_fold))))

section
variable (w : World) (loose : List Str) (mean : ExcName → Option Value) (mg mb : Str → Option Value)
set_option maxRecDepth 100000
set_option maxHeartbeats 8000000
theorem cl_legal (y mo d : Int) (t1 t2 t3 : Tok) (h1 : 1 ≤ mo ∧ mo ≤ 12) (h2 : 1 ≤ d ∧ d ≤ 31) (h3 : mo = 4 ∨ mo = 6 ∨ mo = 9 ∨ mo = 11 → d ≤ 30) (h4 : mo = 2 → d ≤ 29) (h5 : mo = 2 → d = 29 → y % 4 = 0 ∧ (y % 100 ≠ 0 ∨ y % 400 = 0)) :
   Cl w loose mean mg mb 57 [.int y t1, .int mo t2, .int d t3] 2 16 (fun _ => .bool true) := by
  unfold Cl
  k_fill
  intro dp un gd cn cs a ccd cl outer A₀ base h₀ L m news s Q E B F X N T hk hdp hun hret
  refine wpAny_call ?_
  k_dflt (refine' code_def ?k1 ?k2 ?k3 ?k4 ?k5 ?kA ?kF ?kK ?k6 ?k7 ?k8 ?k9 ?kB ?_ ?c2 ?c3 ?c4 ?c5; (case kA => exact rfl); (case kF => exact rfl); (case kK => assumption); (case k1 => k_asm); (case k2 => k_asm); (case k3 => k_asm); (case k4 => k_asm); (case k5 => k_asm); (case k6 => k_is); (case k7 => k_is); (case k8 => ktr_room); (case k9 => first | exact BindsTo.of_eq rfl | exact binds_K (by k_in) rfl (by k_is) rfl rfl rfl); (case c5 => decide); (case kB => exact locs rfl); (case c2 => exact rfl); (case c3 => exact rfl); (case c4 => exact rfl); k_whole; intro g' L' h' FG' F' N' B' X' T'; (try dsimp only); (try k_lift B'); (try k_fold))
  k_steps
  all_goals cb_end hret

end
end

section
open PySem PySem.W PyProof.Rows PySem.Calls PySem.Flt

/-- the year that _law_within makes of any number -/
def wi (n : Int) : Int := if n % 200000000001 ≤ 100000000000 then n % 200000000001 else n % 200000000001 - 200000000001
theorem wi_bd (n : Int) : -100000000000 ≤ wi n ∧ wi n ≤ 100000000000 := by unfold wi; split <;> omega
theorem retI {x y : Int} {h₀ h' : Heap} {L : Addr} {m : Str → Option Value} {news : List (Addr × Obj)} {s : Shared} {Q : Value → Shared → Prop} {t : Tok} {tk' : Nat}
    (hret : ∀ (t : Tok) (h' : Heap) (tk' : Nat), Fr h₀ L h' m → News h₀ L h' news → Q (.int x t) { s with heap := h', toks := tk' }) (F : Fr h₀ L h' m) (N : News h₀ L h' news) (e : y = x) : Q (.int y t) { s with heap := h', toks := tk' } := by
  subst e
  exact hret t h' tk' F N
theorem retB {x y : Bool} {h₀ h' : Heap} {L : Addr} {m : Str → Option Value} {news : List (Addr × Obj)} {s : Shared} {Q : Value → Shared → Prop} {tk' : Nat}
    (hret : ∀ (t : Tok) (h' : Heap) (tk' : Nat), Fr h₀ L h' m → News h₀ L h' news → Q (.bool x) { s with heap := h', toks := tk' }) (F : Fr h₀ L h' m) (N : News h₀ L h' news) (e : y = x) : Q (.bool y) { s with heap := h', toks := tk' } := by
  subst e
  exact hret 0 h' tk' F N
section
variable (w : World) (loose : List Str) (mean : ExcName → Option Value) (mg mb : Str → Option Value)
set_option maxRecDepth 100000
set_option maxHeartbeats 8000000

theorem cl_within (n : Int) (t1 t2 : Tok) : Cl w loose mean mg mb 225 [.int n t1, .int 100000000000 t2] 1 8 (fun t => .int (wi n) t) := by
  unfold Cl
  k_fill
  intro dp un gd cn cs a ccd cl outer A₀ base h₀ L m news s Q E B F X N T hk hdp hun hret
  refine wpAny_call ?_
  k_dflt (refine' code_def ?k1 ?k2 ?k3 ?k4 ?k5 ?kA ?kF ?kK ?k6 ?k7 ?k8 ?k9 ?kB ?_ ?c2 ?c3 ?c4 ?c5; (case kA => exact rfl); (case kF => exact rfl); (case kK => assumption); (case k1 => k_asm); (case k2 => k_asm); (case k3 => k_asm); (case k4 => k_asm); (case k5 => k_asm); (case k6 => k_is); (case k7 => k_is); (case k8 => ktr_room); (case k9 => first | exact BindsTo.of_eq rfl | exact binds_K (by k_in) rfl (by k_is) rfl rfl rfl); (case c5 => decide); (case kB => exact locs rfl); (case c2 => exact rfl); (case c3 => exact rfl); (case c4 => exact rfl); k_whole; intro g' L' h' FG' F' N' B' X' T'; (try dsimp only); (try k_lift B'); (try k_fold))
  k_steps
  all_goals (refine retI hret (by assumption) (by assumption) ?_; unfold wi; split <;> omega)

theorem cl_long (y : Int) (t1 : Tok) : Cl w loose mean mg mb 232 [.int y t1] 1 8 (fun _ => .bool (decide (Lp y))) := by
  unfold Cl
  k_fill
  intro dp un gd cn cs a ccd cl outer A₀ base h₀ L m news s Q E B F X N T hk hdp hun hret
  refine wpAny_call ?_
  k_dflt (refine' code_def ?k1 ?k2 ?k3 ?k4 ?k5 ?kA ?kF ?kK ?k6 ?k7 ?k8 ?k9 ?kB ?_ ?c2 ?c3 ?c4 ?c5; (case kA => exact rfl); (case kF => exact rfl); (case kK => assumption); (case k1 => k_asm); (case k2 => k_asm); (case k3 => k_asm); (case k4 => k_asm); (case k5 => k_asm); (case k6 => k_is); (case k7 => k_is); (case k8 => ktr_room); (case k9 => first | exact BindsTo.of_eq rfl | exact binds_K (by k_in) rfl (by k_is) rfl rfl rfl); (case c5 => decide); (case kB => exact locs rfl); (case c2 => exact rfl); (case c3 => exact rfl); (case c4 => exact rfl); k_whole; intro g' L' h' FG' F' N' B' X' T'; (try dsimp only); (try k_lift B'); (try k_fold))
  k_steps
  all_goals (refine retB hret (by assumption) (by assumption) ?_; apply Bool.eq_iff_iff.mpr; simp only [beq_iff_eq, decide_eq_true_eq]; unfold Lp; omega)

end
end

section
open PySem PySem.W PyProof.Rows PySem.Calls PySem.Flt

/-- a date in the ledger: a tuple of three ints -/
structure DT where
  y : Int
  m : Int
  d : Int
  D : Addr
  t1 : Tok
  t2 : Tok
  t3 : Tok
  c : Nat
abbrev DT.In (x : DT) (news : List (Addr × Obj)) : Prop := (x.D, tup3 x.y x.m x.d x.t1 x.t2 x.t3 x.c) ∈ news
/-- eight dates, each legal in its calendar, of years within bounds -/
structure Eight (x0 x1 x2 x3 x4 x5 x6 x7 : DT) : Prop where
  l0 : LG x0.y x0.m x0.d
  l1 : LJ x1.y x1.m x1.d
  l2 : LC x2.y x2.m x2.d
  l3 : LA x3.y x3.m x3.d
  l4 : LH x4.y x4.m x4.d
  l5 : LI x5.y x5.m x5.d
  l6 : LF x6.y x6.m x6.d
  l7 : LS x7.y x7.m x7.d
  b0 : -100000000000 ≤ x0.y ∧ x0.y ≤ 100000000000
  b1 : -100000000000 ≤ x1.y ∧ x1.y ≤ 100000000000
  b2 : -100000000000 ≤ x2.y ∧ x2.y ≤ 100000000000
  b3 : x3.y ≤ 100000000001
  b4 : -100000000000 ≤ x4.y ∧ x4.y ≤ 100000000000
  b5 : -100000000000 ≤ x5.y ∧ x5.y ≤ 100000000000
  b6 : x6.y ≤ 100000000001
  b7 : x7.y ≤ 100000000533
/-- the list of the eight numbers -/
abbrev nums8 (x0 x1 x2 x3 x4 x5 x6 x7 : DT) (u0 u1 u2 u3 u4 u5 u6 u7 : Tok) (c : Nat) : Obj := { cls := .type "list", data := .seq #[.float (D (128 * gnum x0.y x0.m x0.d + 64)) u0, .float (D (128 * jnum x1.y x1.m x1.d + 64)) u1, .float (D (128 * cnum x2.y x2.m x2.d + 64)) u2, .float (D (128 * anum x3.y x3.m x3.d + 64)) u3, .float (D (128 * hnum x4.y x4.m x4.d + 64)) u4, .float (D (128 * inum x5.y x5.m x5.d + 64)) u5, .float (D (128 * fnum x6.y x6.m x6.d + 64)) u6, .float (D (128 * snum x7.y x7.m x7.d + 64)) u7] c }
abbrev refs8 (x0 x1 x2 x3 x4 x5 x6 x7 : DT) (c : Nat) : Obj := { cls := .type "list", data := .seq #[.ref x0.D, .ref x1.D, .ref x2.D, .ref x3.D, .ref x4.D, .ref x5.D, .ref x6.D, .ref x7.D] c }
abbrev NumsC (w : World) (loose : List Str) (mean : ExcName → Option Value) (mg mb : Str → Option Value) (x0 x1 x2 x3 x4 x5 x6 x7 : DT) : Prop :=
  ∀ (Dl : Addr) (cc : Nat) (dp un : Nat) (gd : Option (List Code)) (cn : Str) (cs : Scope) (a : Addr) (ccd : Value) (cl : List (Str × Addr)) (outer : List Env) (A₀ : Around) (base h₀ : Heap) (L : Addr) (m : Str → Option Value) (news : List (Addr × Obj)) (s : Shared) (Q E : Value → Shared → Prop),
    Below A₀ base outer h₀ → Fr h₀ L s.heap m → (hd.heap_39 w.params).In h₀ → News h₀ L s.heap news → Top hd.view_39 loose mean mg mb h₀ → cs.kind = .function →
    dp + 16 < recursionLimit → un + 128 < cLine → (Dl, refs8 x0 x1 x2 x3 x4 x5 x6 x7 cc) ∈ news → x0.In news → x1.In news → x2.In news → x3.In news → x4.In news → x5.In news → x6.In news → x7.In news →
    (∀ (Dn : Addr) (u0 u1 u2 u3 u4 u5 u6 u7 : Tok) (c : Nat) (h' : Heap) (tk' : Nat), Fr h₀ L h' m → News h₀ L h' ((Dn, nums8 x0 x1 x2 x3 x4 x5 x6 x7 u0 u1 u2 u3 u4 u5 u6 u7 c) :: news) → Q (.ref Dn) { s with heap := h', toks := tk' }) →
    wpAny (model PySem.Challenge.rw_ad5038_01.row.prog w) (ktrTop dp un gd cn cs L a ccd cl outer) (call (.ref 244) [.ref Dl]) Q E s
abbrev ToldC (w : World) (loose : List Str) (mean : ExcName → Option Value) (mg mb : Str → Option Value) (r : Int) (x0 x1 x2 x3 x4 x5 x6 x7 : DT) : Prop :=
  ∀ (Dn : Addr) (u0 u1 u2 u3 u4 u5 u6 u7 tp : Tok) (cc : Nat) (dp un : Nat) (gd : Option (List Code)) (cn : Str) (cs : Scope) (a : Addr) (ccd : Value) (cl : List (Str × Addr)) (outer : List Env) (A₀ : Around) (base h₀ : Heap) (L : Addr) (m : Str → Option Value) (news : List (Addr × Obj)) (s : Shared) (Q E : Value → Shared → Prop),
    Below A₀ base outer h₀ → Fr h₀ L s.heap m → (hd.heap_39 w.params).In h₀ → News h₀ L s.heap news → Top hd.view_39 loose mean mg mb h₀ → cs.kind = .function →
    dp + 16 < recursionLimit → un + 128 < cLine → (Dn, nums8 x0 x1 x2 x3 x4 x5 x6 x7 u0 u1 u2 u3 u4 u5 u6 u7 cc) ∈ news →
    (∀ (De : Addr) (z0 z1 z2 z3 z4 z5 z6 z7 : DT) (c : Nat) (h' : Heap) (tk' : Nat), z0.y = x0.y → z0.m = x0.m → z0.d = x0.d → z1.y = x1.y → z1.m = x1.m → z1.d = x1.d → z2.y = x2.y → z2.m = x2.m → z2.d = x2.d → z3.y = x3.y → z3.m = x3.m → z3.d = x3.d → z4.y = x4.y → z4.m = x4.m → z4.d = x4.d → z5.y = x5.y → z5.m = x5.m → z5.d = x5.d → z6.y = x6.y → z6.m = x6.m → z6.d = x6.d → z7.y = x7.y → z7.m = x7.m → z7.d = x7.d → Fr h₀ L h' m → News h₀ L h' ((De, refs8 z0 z1 z2 z3 z4 z5 z6 z7 c) :: (z7.D, tup3 z7.y z7.m z7.d z7.t1 z7.t2 z7.t3 z7.c) :: (z6.D, tup3 z6.y z6.m z6.d z6.t1 z6.t2 z6.t3 z6.c) :: (z5.D, tup3 z5.y z5.m z5.d z5.t1 z5.t2 z5.t3 z5.c) :: (z4.D, tup3 z4.y z4.m z4.d z4.t1 z4.t2 z4.t3 z4.c) :: (z3.D, tup3 z3.y z3.m z3.d z3.t1 z3.t2 z3.t3 z3.c) :: (z2.D, tup3 z2.y z2.m z2.d z2.t1 z2.t2 z2.t3 z2.c) :: (z1.D, tup3 z1.y z1.m z1.d z1.t1 z1.t2 z1.t3 z1.c) :: (z0.D, tup3 z0.y z0.m z0.d z0.t1 z0.t2 z0.t3 z0.c) :: news) → Q (.ref De) { s with heap := h', toks := tk' }) →
    wpAny (model PySem.Challenge.rw_ad5038_01.row.prog w) (ktrTop dp un gd cn cs L a ccd cl outer) (call (.ref 251) [.ref Dn, .float (D (2 * r)) tp]) Q E s
abbrev DatesC (w : World) (loose : List Str) (mean : ExcName → Option Value) (mg mb : Str → Option Value) (y mo d : Int) : Prop :=
  ∀ (t1 t2 t3 : Tok) (dp un : Nat) (gd : Option (List Code)) (cn : Str) (cs : Scope) (a : Addr) (ccd : Value) (cl : List (Str × Addr)) (outer : List Env) (A₀ : Around) (base h₀ : Heap) (L : Addr) (m : Str → Option Value) (news : List (Addr × Obj)) (s : Shared) (Q E : Value → Shared → Prop),
    Below A₀ base outer h₀ → Fr h₀ L s.heap m → (hd.heap_39 w.params).In h₀ → News h₀ L s.heap news → Top hd.view_39 loose mean mg mb h₀ → cs.kind = .function →
    dp + 16 < recursionLimit → un + 128 < cLine →
    (∀ (De : Addr) (z0 z1 z2 z3 z4 z5 z6 z7 : DT) (c : Nat) (h' : Heap) (tk' : Nat), Eight z0 z1 z2 z3 z4 z5 z6 z7 → Fr h₀ L h' m → News h₀ L h' ((De, refs8 z0 z1 z2 z3 z4 z5 z6 z7 c) :: (z7.D, tup3 z7.y z7.m z7.d z7.t1 z7.t2 z7.t3 z7.c) :: (z6.D, tup3 z6.y z6.m z6.d z6.t1 z6.t2 z6.t3 z6.c) :: (z5.D, tup3 z5.y z5.m z5.d z5.t1 z5.t2 z5.t3 z5.c) :: (z4.D, tup3 z4.y z4.m z4.d z4.t1 z4.t2 z4.t3 z4.c) :: (z3.D, tup3 z3.y z3.m z3.d z3.t1 z3.t2 z3.t3 z3.c) :: (z2.D, tup3 z2.y z2.m z2.d z2.t1 z2.t2 z2.t3 z2.c) :: (z1.D, tup3 z1.y z1.m z1.d z1.t1 z1.t2 z1.t3 z1.c) :: (z0.D, tup3 z0.y z0.m z0.d z0.t1 z0.t2 z0.t3 z0.c) :: news) → Q (.ref De) { s with heap := h', toks := tk' }) →
    wpAny (model PySem.Challenge.rw_ad5038_01.row.prog w) (ktrTop dp un gd cn cs L a ccd cl outer) (call (.ref 237) [.int y t1, .int mo t2, .int d t3]) Q E s
theorem num_bd {x0 x1 x2 x3 x4 x5 x6 x7 : DT} (h : Eight x0 x1 x2 x3 x4 x5 x6 x7) : (-40000000000000 ≤ gnum x0.y x0.m x0.d ∧ gnum x0.y x0.m x0.d ≤ 40000000000000) ∧ (-40000000000000 ≤ jnum x1.y x1.m x1.d ∧ jnum x1.y x1.m x1.d ≤ 40000000000000) ∧ (-40000000000000 ≤ cnum x2.y x2.m x2.d ∧ cnum x2.y x2.m x2.d ≤ 40000000000000) ∧ (-40000000000000 ≤ anum x3.y x3.m x3.d ∧ anum x3.y x3.m x3.d ≤ 40000000000000) ∧ (-40000000000000 ≤ hnum x4.y x4.m x4.d ∧ hnum x4.y x4.m x4.d ≤ 40000000000000) ∧ (-40000000000000 ≤ inum x5.y x5.m x5.d ∧ inum x5.y x5.m x5.d ≤ 40000000000000) ∧ (-40000000000000 ≤ fnum x6.y x6.m x6.d ∧ fnum x6.y x6.m x6.d ≤ 40000000000000) ∧ (-40000000000000 ≤ snum x7.y x7.m x7.d ∧ snum x7.y x7.m x7.d ≤ 40000000000000) := by
  obtain ⟨l0, l1, l2, l3, l4, l5, l6, l7, b0, b1, b2, b3, b4, b5, b6, b7⟩ := h
  refine ⟨gnum_bd (by omega) l0.m1 l0.d1, ?_, ?_, ?_, ?_, ?_, ?_, ?_⟩
  · have := l1.m1; have := l1.d1; unfold jnum; split <;> omega
  · have := l2.m1; have := l2.d1; unfold cnum; omega
  · have := l3.m1; have := l3.d1; have := l3.y1; unfold anum; omega
  · have := l4.m1; have := l4.d1; unfold hnum; omega
  · have := l5.m1; have := l5.d1
    unfold inum
    have a1 := gnum_bd (y := x5.y + 78) (m := 3) (d := 21) (by omega) (by decide) (by decide)
    have a2 := gnum_bd (y := x5.y + 78) (m := 3) (d := 22) (by omega) (by decide) (by decide)
    have a3 := gnum_lin (x5.y + 78) 3 21
    have a4 := gnum_lin (x5.y + 78) 3 22
    have a5 : -39000000000000 ≤ gnum (x5.y + 78) 3 1 ∧ gnum (x5.y + 78) 3 1 ≤ 39000000000000 := by unfold gnum gadj; (repeat' split) <;> omega
    (repeat' split) <;> omega
  · have := l6.m1; have := l6.d1; have := l6.y1; unfold fnum; omega
  · have := l7.m1; have := l7.d1; have := l7.y1; unfold snum; omega
end

section
open PySem PySem.W PySem.Calls PyProof.Rows
section
variable {prog : Program} {w : World} {A : Around} {E : Value → Shared → Prop} {s : Shared} {Q : Value → Shared → Prop}
/-- what is shown for a name's item holds of a temporary's -/
theorem tail_temp {value slice : PySem.Expr} (x : Str) (p : Pos) {o i : Value} (h : wpAny (model prog w) A (subscriptTail (.Name x p) slice o i) Q E s) :
    wpAny (model prog w) A (subscriptTail value slice o i) Q E s := by
  intro Γ q hΓ
  have h1 := h Γ q hΓ
  have e : ∀ v, subscriptTail v slice o i = (getitemInPython o >>= fun g => subscripted slice g o i >>= fun r => letTemporaryGo v o r >>= fun _ => pure r) := fun _ => rfl
  rw [e] at h1 ⊢
  rw [Sem.wp_bind'] at h1 ⊢
  refine Sem.wp_mono _ _ _ (fun g p1 s1 h2 => ?_) (fun _ _ _ x => x) _ _ h1
  rw [Sem.wp_bind'] at h2 ⊢
  refine Sem.wp_mono _ _ _ (fun r p2 s2 h3 => ?_) (fun _ _ _ x => x) _ _ h2
  have h4 : Q r s2 := h3
  have h5 : wpAny (model prog w) A (letTemporaryGo value o r >>= fun _ => pure r) Q E s2 := wpAny_bind (wpAny_letTemporaryGo (Q := fun _ s₃ => wpAny (model prog w) A (pure r) Q E s₃) (wpAny_pure h4))
  exact h5 Γ p2 hΓ
theorem eight_of {vs : List Value} {ns : List Int} (hi : IntsAre vs ns) (hl : ns.length = 8) : ∃ (n0 n1 n2 n3 n4 n5 n6 n7 : Int) (t0 t1 t2 t3 t4 t5 t6 t7 : Tok),
    vs = [.int n0 t0, .int n1 t1, .int n2 t2, .int n3 t3, .int n4 t4, .int n5 t5, .int n6 t6, .int n7 t7] := by
  cases hi with
  | nil => cases hl
  | cons n0 t0 hi => cases hi with
    | nil => cases hl
    | cons n1 t1 hi => cases hi with
      | nil => cases hl
      | cons n2 t2 hi => cases hi with
        | nil => cases hl
        | cons n3 t3 hi => cases hi with
          | nil => cases hl
          | cons n4 t4 hi => cases hi with
            | nil => cases hl
            | cons n5 t5 hi => cases hi with
              | nil => cases hl
              | cons n6 t6 hi => cases hi with
                | nil => cases hl
                | cons n7 t7 hi => cases hi with
                  | nil => exact ⟨n0, n1, n2, n3, n4, n5, n6, n7, t0, t1, t2, t3, t4, t5, t6, t7, rfl⟩
                  | cons n8 t8 hi => simp at hl
variable {h₀ : Heap} {L l : Addr} {m : Str → Option Value} {news : List (Addr × Obj)} {vs : List Value} {ns : List Int} {u : Tok}
/-- the first eight items of a list of eight ints or more, a temporary -/
theorem r_slice8 {value slice : PySem.Expr} (F : Fr h₀ L s.heap m) (N : News h₀ L s.heap news) (hl : s.heap.IsList l vs.toArray) (hi : IntsAre vs ns) (h8 : 8 ≤ ns.length) (hz : ns.length ≤ 1000)
    (h : ∀ (D : Addr) (h' : Heap) (n0 n1 n2 n3 n4 n5 n6 n7 : Int) (t0 t1 t2 t3 t4 t5 t6 t7 : Tok), Fr h₀ L h' m →
      News h₀ L h' ((D, ({ cls := .type "list", data := .seq #[.int n0 t0, .int n1 t1, .int n2 t2, .int n3 t3, .int n4 t4, .int n5 t5, .int n6 t6, .int n7 t7] 0 } : Obj)) :: news) → Q (.ref D) { s with heap := h' })
    (hs : subscripted slice false (.ref l) (.ref s.heap.objs.size) = operate [.ref s.heap.objs.size, .ref l] (getItem (.ref l) (.ref s.heap.objs.size))) :
    wpAny (model prog w) A (subscriptTail value slice (.ref l) (.ref s.heap.objs.size)) Q E { s with heap := s.heap.push { cls := .type "slice", data := .fields #[.none, .int 8 u, .none] } } := by
  refine tail_temp (Str.ofString "x") default ?_
  have hu := kmk_upto (y := 8) hi (by decide)
  refine kmk_slice_ints F N hl .none (.int _ _) hi hu rfl (fun D ws h' F' N' _ hw hc _ => ?_) hs (fun _ => rfl) (by rw [List.size_toArray, hi.length]; exact Nat.le_trans hz (by decide))
  have hlen : (ns.take (Int.toNat 8)).length = 8 := by rw [List.length_take]; show min 8 ns.length = 8; omega
  obtain ⟨n0, n1, n2, n3, n4, n5, n6, n7, t0, t1, t2, t3, t4, t5, t6, t7, e⟩ := eight_of hw hlen
  subst e
  exact h D h' n0 n1 n2 n3 n4 n5 n6 n7 t0 t1 t2 t3 t4 t5 t6 t7 F' N'
end
theorem len16 (ns : List Int) : 8 ≤ (ns.take 8 ++ (List.replicate (Int.toNat 8) [(0 : Int)]).flatten).length ∧ (ns.take 8 ++ (List.replicate (Int.toNat 8) [(0 : Int)]).flatten).length ≤ 1000 := by
  have e : (List.replicate (Int.toNat 8) [(0 : Int)]).flatten.length = 8 := by decide
  rw [List.length_append, e, List.length_take]
  omega
end

section
open PySem PySem.SeqAt PySem.W PySem.Calls PyProof.Rows

def LtAt (A : Around) (s : Shared) (y x : Value) (b : Bool) : Prop :=
  ∀ (prog : Program) (w : World) (E : Value → Shared → Prop) (Q : Value → Shared → Prop), Q (.bool b) s → wpAny (model prog w) A (richCompare .Lt y x) Q E s
theorem LtAt.int_int {A : Around} {s : Shared} (a : Int) (t : Tok) (b : Int) (u : Tok) : LtAt A s (.int a t) (.int b u) (decide (a < b)) := fun prog w E Q h =>
  richCompare_gives (typeIs_int s a t) (typeIs_int s b u) F.slot_int_lt F.entry_int_lt (F.args_int_lt_2 _ _) (gives_int_lt a b t u) (fun x => nomatch x) h
/-- the order of two rows of values, by the first pair that differs -/
def ltZ (e c : Value → Value → Bool) : List (Value × Value) → Bool
  | [] => false
  | p :: r => if e p.1 p.2 then ltZ e c r else c p.1 p.2
theorem tuple_ltAt (l b : Addr) (items items2 : Array Value) (n n2 : Nat) (dd dd2 : Option Addr) (sl sl2 : Array (Option Value)) (hsz : items.size = items2.size) (e c : Value → Value → Bool) :
    Meets (Builtin.«tuple.__lt__» ⟨[.ref l, .ref b], []⟩)
      (fun A R s => s.heap.get? l = some { cls := .type "tuple", dict := dd, data := .seq items n, slots := sl } ∧ s.heap.get? b = some { cls := .type "tuple", dict := dd2, data := .seq items2 n2, slots := sl2 } ∧
        (∀ p, p ∈ items.toList.zip items2.toList → EqAt A.in1 s p.1 p.2 (e p.1 p.2) ∧ LtAt A.in1 s p.1 p.2 (c p.1 p.2)) ∧
        R (.ok (.ret (.bool (ltZ e c (items.toList.zip items2.toList))))) s) :=
  .of_wp fun prog w A R s h => by
    obtain ⟨hp, g, d, tk, os⟩ := s; obtain ⟨hl, hb, he, h⟩ := h
    have f2 := AutoSeq1.sub_tuple_tuple
    wp_walk using AutoSeq1.wpAny_loadPart' hl, AutoSeq1.wpAny_loadPart' hb, wpAny_forIn_list _ (fun rest b s' => b.1 = none ∧ s' = ⟨hp, g, d, tk, os⟩ ∧ (∀ p, p ∈ rest → p ∈ items.toList.zip items2.toList) ∧
      R (.ok (.ret (.bool (ltZ e c rest)))) ⟨hp, g, d, tk, os⟩) _
    case turn =>
      rintro ⟨y, x⟩ rest b s' ⟨hb', rfl, hz, hR⟩
      have hx := he _ (hz _ (List.mem_cons_self ..))
      rw [ltZ] at hR
      refine wpAny_bind (hx.1 prog w _ _ ?_)
      cases hy : e y x with
      | true =>
        simp only [hy, if_true] at hR
        wp_walk
        exact ⟨rfl, rfl, fun p hp' => hz p (List.mem_cons_of_mem _ hp'), hR⟩
      | false =>
        simp only [hy] at hR
        have hlt : ∀ {E : Value → Shared → Prop} {Q : Value → Shared → Prop}, Q (.bool (c y x)) ⟨hp, g, d, tk, os⟩ → wpAny (model prog w) A.in1 (richCompare .Lt y x) Q E ⟨hp, g, d, tk, os⟩ := hx.2 prog w _ _
        wp_walk using hlt
        exact ⟨_, rfl, by simpa using hR⟩
    case fin =>
      rintro ⟨b1, b2⟩ s' ⟨hb', rfl, hz, hR⟩
      simp only at hb'
      subst hb'
      wp_walk
      exact ⟨_, rfl, by simpa [Builtin.Tuple.tupleCompareSizes, hsz, ltZ] using hR⟩
    case h =>
      exact ⟨rfl, rfl, fun _ h => h, h⟩
end

section
open PySem PySem.SeqAt PySem.W PySem.Calls PyProof.Rows
section
variable {A : Around} {s : Shared} {h₀ : Heap} {L a b : Addr} {news : List (Addr × Obj)} {y mo d y' mo' d' : Int} {t1 t2 t3 u1 u2 u3 : Tok} {c c' : Nat}
theorem isTup3 (N : News h₀ L s.heap news) (ma : (a, tup3 y mo d t1 t2 t3 c) ∈ news) : s.heap.IsTuple a #[.int y t1, .int mo t2, .int d t3] := ⟨_, (N _ ma).1, rfl, _, rfl⟩
theorem RcAt.tup (N : News h₀ L s.heap news) (ma : (a, tup3 y mo d t1 t2 t3 c) ∈ news) (mb : (b, tup3 y' mo' d' u1 u2 u3 c') ∈ news) (hu : A.units < cLine) :
    RcAt A s (.ref a) (.ref b) (decide (y = y' ∧ mo = mo' ∧ d = d')) := by
  have h := RcAt.tuples (e := fun j => match j with | 0 => y == y' | 1 => mo == mo' | _ => d == d') (isTup3 N ma) (isTup3 N mb) hu (fun j h1 h2 => by
    match j, h1, h2 with
    | 0, _, _ => exact EqAt.int_int _ _ _ _
    | 1, _, _ => exact EqAt.int_int _ _ _ _
    | 2, _, _ => exact EqAt.int_int _ _ _ _
    | (n+3), h1, _ => exact absurd h1 (by simp))
  have e : ((List.range (min (#[Value.int y t1, Value.int mo t2, Value.int d t3] : Array Value).size (#[Value.int y' u1, Value.int mo' u2, Value.int d' u3] : Array Value).size)).all (fun j => match j with | 0 => y == y' | 1 => mo == mo' | _ => d == d') && (#[Value.int y t1, Value.int mo t2, Value.int d t3] : Array Value).size == (#[Value.int y' u1, Value.int mo' u2, Value.int d' u3] : Array Value).size) = decide (y = y' ∧ mo = mo' ∧ d = d') := by
    show ((y == y' && (mo == mo' && (d == d' && true))) && true) = _
    apply Bool.eq_iff_iff.mpr
    simp only [Bool.and_true, Bool.and_eq_true, beq_iff_eq, decide_eq_true_eq]
  rw [e] at h
  exact h
theorem EqAt.tup (N : News h₀ L s.heap news) (ma : (a, tup3 y mo d t1 t2 t3 c) ∈ news) (mb : (b, tup3 y' mo' d' u1 u2 u3 c') ∈ news) (ey : y = y') (em : mo = mo') (ed : d = d') (hu : A.units < cLine) : EqAt A s (.ref a) (.ref b) true := by
  by_cases h : a = b
  · subst h; exact EqAt.same _
  · have q := RcAt.tup N ma mb hu
    rw [decide_eq_true (show y = y' ∧ mo = mo' ∧ d = d' from ⟨ey, em, ed⟩)] at q
    exact EqAt.of_refs h q
theorem LtAt.tup (N : News h₀ L s.heap news) (ma : (a, tup3 y mo d t1 t2 t3 c) ∈ news) (mb : (b, tup3 y' mo' d' u1 u2 u3 c') ∈ news) (hu : A.units < cLine) :
    LtAt A s (.ref a) (.ref b) (decide (y < y' ∨ (y = y' ∧ (mo < mo' ∨ (mo = mo' ∧ d < d'))))) := fun prog w E Q h => by
  refine richCompare_meets_room (op := .Lt) (isTup3 N ma).typeIs (isTup3 N mb).typeIs F.slot_tuple_lt F.entry_tuple_lt (F.args_tuple_lt_2 _ _) (tuple_ltAt a b #[.int y t1, .int mo t2, .int d t3] #[.int y' u1, .int mo' u2, .int d' u3] c c' none none #[] #[] rfl
    (fun v v' => match v, v' with | .int i _, .int j _ => i == j | _, _ => false) (fun v v' => match v, v' with | .int i _, .int j _ => decide (i < j) | _, _ => false)) ⟨(N _ ma).1, (N _ mb).1, ?_, ?_⟩ hu
  · intro p hp
    simp only [List.zip_cons_cons, List.zip_nil_left, List.mem_cons, List.not_mem_nil, or_false] at hp
    rcases hp with rfl | rfl | rfl <;> exact ⟨EqAt.int_int _ _ _ _, LtAt.int_int _ _ _ _⟩
  · show Value.bool _ ≠ Value.notImplemented ∧ Q _ s
    refine ⟨(fun x => nomatch x), ?_⟩
    have e : ltZ (fun v v' => match v, v' with | .int i _, .int j _ => i == j | _, _ => false) (fun v v' => match v, v' with | .int i _, .int j _ => decide (i < j) | _, _ => false) ((#[Value.int y t1, Value.int mo t2, Value.int d t3] : Array Value).toList.zip (#[Value.int y' u1, Value.int mo' u2, Value.int d' u3] : Array Value).toList) = decide (y < y' ∨ (y = y' ∧ (mo < mo' ∨ (mo = mo' ∧ d < d')))) := by
      show (if y == y' then (if mo == mo' then (if d == d' then false else decide (d < d')) else decide (mo < mo')) else decide (y < y')) = _
      apply Bool.eq_iff_iff.mpr
      simp only [decide_eq_true_eq, beq_iff_eq]
      split
      · split
        · split
          · simp only [Bool.false_eq_true, false_iff]; omega
          · simp only [decide_eq_true_eq]; omega
        · simp only [decide_eq_true_eq]; omega
      · simp only [decide_eq_true_eq]; omega
    rw [e]; exact h
theorem list8_ne (N : News h₀ L s.heap news) {z0 z1 z2 z3 z4 z5 z6 z7 x0 x1 x2 x3 x4 x5 x6 x7 : DT} (ml : (a, refs8 z0 z1 z2 z3 z4 z5 z6 z7 c) ∈ news) (mb : (b, refs8 x0 x1 x2 x3 x4 x5 x6 x7 c') ∈ news) (mz0 : z0.In news) (mz1 : z1.In news) (mz2 : z2.In news) (mz3 : z3.In news) (mz4 : z4.In news) (mz5 : z5.In news) (mz6 : z6.In news) (mz7 : z7.In news) (mx0 : x0.In news) (mx1 : x1.In news) (mx2 : x2.In news) (mx3 : x3.In news) (mx4 : x4.In news) (mx5 : x5.In news) (mx6 : x6.In news) (mx7 : x7.In news) (e0y : z0.y = x0.y) (e0m : z0.m = x0.m) (e0d : z0.d = x0.d) (e1y : z1.y = x1.y) (e1m : z1.m = x1.m) (e1d : z1.d = x1.d) (e2y : z2.y = x2.y) (e2m : z2.m = x2.m) (e2d : z2.d = x2.d) (e3y : z3.y = x3.y) (e3m : z3.m = x3.m) (e3d : z3.d = x3.d) (e4y : z4.y = x4.y) (e4m : z4.m = x4.m) (e4d : z4.d = x4.d) (e5y : z5.y = x5.y) (e5m : z5.m = x5.m) (e5d : z5.d = x5.d) (e6y : z6.y = x6.y) (e6m : z6.m = x6.m) (e6d : z6.d = x6.d) (e7y : z7.y = x7.y) (e7m : z7.m = x7.m) (e7d : z7.d = x7.d) (hu : A.units + 64 < cLine) : RcNeAt A s (.ref a) (.ref b) false := by
  have h := RcNeAt.lists (A := A) (s := s) (l := a) (b := b) (e := fun _ => true) ⟨_, (N _ ml).1, rfl, _, rfl⟩ ⟨_, (N _ mb).1, rfl, _, rfl⟩ rfl (by omega) (fun j h1 h2 => by
    have hu : A.in1.units < cLine := by (show A.units + 1 < cLine); omega
    exact (match j, h1, h2 with
      | 0, _, _ => EqAt.tup N mz0 mx0 e0y e0m e0d hu
      | 1, _, _ => EqAt.tup N mz1 mx1 e1y e1m e1d hu
      | 2, _, _ => EqAt.tup N mz2 mx2 e2y e2m e2d hu
      | 3, _, _ => EqAt.tup N mz3 mx3 e3y e3m e3d hu
      | 4, _, _ => EqAt.tup N mz4 mx4 e4y e4m e4d hu
      | 5, _, _ => EqAt.tup N mz5 mx5 e5y e5m e5d hu
      | 6, _, _ => EqAt.tup N mz6 mx6 e6y e6m e6d hu
      | 7, _, _ => EqAt.tup N mz7 mx7 e7y e7m e7d hu
      | (n+8), h1, _ => absurd h1 (by simp)))
  exact h
end
/-- of two numbered dates: both orders agree -/
structure Same (X Y y mo d y' mo' d' : Int) (k q : Bool) : Prop where
  lt : decide (X < Y) = k
  lx : decide (y < y' ∨ (y = y' ∧ (mo < mo' ∨ (mo = mo' ∧ d < d')))) = k
  eq : decide (X = Y) = q
  ex : decide (y = y' ∧ mo = mo' ∧ d = d') = q
  bX : -40000000000000 ≤ X ∧ X ≤ 40000000000000
  bY : -40000000000000 ≤ Y ∧ Y ≤ 40000000000000
theorem Same.of {f : Int → Int → Int → Int} {P : Int → Int → Int → Prop} (mono : ∀ {y m d y' m' d' : Int}, P y m d → P y' m' d' → (y < y' ∨ (y = y' ∧ (m < m' ∨ (m = m' ∧ d < d')))) → f y m d < f y' m' d')
    {y m d y' m' d' : Int} (h : P y m d) (h' : P y' m' d') (bX : -40000000000000 ≤ f y m d ∧ f y m d ≤ 40000000000000) (bY : -40000000000000 ≤ f y' m' d' ∧ f y' m' d' ≤ 40000000000000) : ∃ k q, Same (f y m d) (f y' m' d') y m d y' m' d' k q := by
  have h1 := mono h h'
  have h2 := mono h' h
  have h3 : y = y' ∧ m = m' ∧ d = d' → f y m d = f y' m' d' := by rintro ⟨rfl, rfl, rfl⟩; rfl
  refine ⟨_, _, rfl, ?_, rfl, ?_, bX, bY⟩
  · apply decide_eq_decide.mpr
    constructor
    · exact h1
    · intro h4
      by_cases h5 : y' < y ∨ (y' = y ∧ (m' < m ∨ (m' = m ∧ d' < d)))
      · have := h2 h5; omega
      · by_cases h6 : y = y' ∧ m = m' ∧ d = d'
        · have := h3 h6; omega
        · omega
  · apply decide_eq_decide.mpr
    constructor
    · exact h3
    · intro h4
      by_cases h5 : y' < y ∨ (y' = y ∧ (m' < m ∨ (m' = m ∧ d' < d)))
      · have := h2 h5; omega
      · by_cases h6 : y < y' ∨ (y = y' ∧ (m < m' ∨ (m = m' ∧ d < d')))
        · have := h1 h6; omega
        · omega
section
variable {prog : Program} {w : World} {A : Around} {E : Value → Shared → Prop} {s : Shared} {h₀ : Heap} {L a b : Addr} {news : List (Addr × Obj)} {X Y y mo d y' mo' d' : Int} {t u t1 t2 t3 u1 u2 u3 : Tok} {c c' : Nat} {k q : Bool} {Q : Value → Shared → Prop}
theorem r_lt_num (S : Same X Y y mo d y' mo' d' k q) (h : Q (.bool k) s) : wpAny (model prog w) A (compareOp .Lt (.float (D (128 * X + 64)) t) (.float (D (128 * Y + 64)) u)) Q E s := by
  have hX := S.bX
  have hY := S.bY
  refine r_lt_ff rfl rfl (by omega) (by omega) ?_
  rw [show decide (128 * X + 64 < 128 * Y + 64) = k by rw [← S.lt]; apply decide_eq_decide.mpr; omega]
  exact h
theorem r_eq_num (S : Same X Y y mo d y' mo' d' k q) (h : Q (.bool q) s) : wpAny (model prog w) A (compareOp .Eq (.float (D (128 * X + 64)) t) (.float (D (128 * Y + 64)) u)) Q E s := by
  have hX := S.bX
  have hY := S.bY
  refine r_eq_ff rfl rfl (by omega) (by omega) ?_
  rw [show decide (128 * X + 64 = 128 * Y + 64) = q by rw [← S.eq]; apply decide_eq_decide.mpr; omega]
  exact h
theorem r_lt_tup (N : News h₀ L s.heap news) (ma : (a, tup3 y mo d t1 t2 t3 c) ∈ news) (mb : (b, tup3 y' mo' d' u1 u2 u3 c') ∈ news) (S : Same X Y y mo d y' mo' d' k q) (hu : A.units < cLine) (h : Q (.bool k) s) :
    wpAny (model prog w) A (compareOp .Lt (.ref a) (.ref b)) Q E s := LtAt.tup N ma mb hu prog w E Q (by rw [S.lx]; exact h)
theorem r_eq_tup (N : News h₀ L s.heap news) (ma : (a, tup3 y mo d t1 t2 t3 c) ∈ news) (mb : (b, tup3 y' mo' d' u1 u2 u3 c') ∈ news) (S : Same X Y y mo d y' mo' d' k q) (hu : A.units < cLine) (h : Q (.bool q) s) :
    wpAny (model prog w) A (compareOp .Eq (.ref a) (.ref b)) Q E s := RcAt.tup N ma mb hu prog w E Q (by rw [S.ex]; exact h)
theorem r_ne_list8 (N : News h₀ L s.heap news) {z0 z1 z2 z3 z4 z5 z6 z7 x0 x1 x2 x3 x4 x5 x6 x7 : DT} (ml : (a, refs8 z0 z1 z2 z3 z4 z5 z6 z7 c) ∈ news) (mb : (b, refs8 x0 x1 x2 x3 x4 x5 x6 x7 c') ∈ news) (mz0 : z0.In news) (mz1 : z1.In news) (mz2 : z2.In news) (mz3 : z3.In news) (mz4 : z4.In news) (mz5 : z5.In news) (mz6 : z6.In news) (mz7 : z7.In news) (mx0 : x0.In news) (mx1 : x1.In news) (mx2 : x2.In news) (mx3 : x3.In news) (mx4 : x4.In news) (mx5 : x5.In news) (mx6 : x6.In news) (mx7 : x7.In news) (e0y : z0.y = x0.y) (e0m : z0.m = x0.m) (e0d : z0.d = x0.d) (e1y : z1.y = x1.y) (e1m : z1.m = x1.m) (e1d : z1.d = x1.d) (e2y : z2.y = x2.y) (e2m : z2.m = x2.m) (e2d : z2.d = x2.d) (e3y : z3.y = x3.y) (e3m : z3.m = x3.m) (e3d : z3.d = x3.d) (e4y : z4.y = x4.y) (e4m : z4.m = x4.m) (e4d : z4.d = x4.d) (e5y : z5.y = x5.y) (e5m : z5.m = x5.m) (e5d : z5.d = x5.d) (e6y : z6.y = x6.y) (e6m : z6.m = x6.m) (e6d : z6.d = x6.d) (e7y : z7.y = x7.y) (e7m : z7.m = x7.m) (e7d : z7.d = x7.d) (hu : A.units + 64 < cLine) (h : Q (.bool false) s) :
    wpAny (model prog w) A (compareOp .NotEq (.ref a) (.ref b)) Q E s := list8_ne N ml mb mz0 mz1 mz2 mz3 mz4 mz5 mz6 mz7 mx0 mx1 mx2 mx3 mx4 mx5 mx6 mx7 e0y e0m e0d e1y e1m e1d e2y e2m e2d e3y e3m e3d e4y e4m e4d e5y e5m e5d e6y e6m e6d e7y e7m e7d hu prog w E Q h
theorem r_ne_bb (h : Q (.bool false) s) : wpAny (model prog w) A (compareOp .NotEq (.bool k) (.bool k)) Q E s := by
  refine RcNeAt.bool_bool k k prog w E Q ?_
  rw [show (!(k == k)) = false by cases k <;> rfl]
  exact h
end
end

section
open PySem PySem.W PyProof.Rows PySem.Calls PySem.Flt

theorem DatesC.use {w : World} {loose : List Str} {mean : ExcName → Option Value} {mg mb : Str → Option Value} {y mo d : Int} (C : DatesC w loose mean mg mb y mo d) {t1 t2 t3 : Tok} {dp un : Nat} {gd : Option (List Code)} {cn : Str} {cs : Scope} {a : Addr} {ccd : Value} {cl : List (Str × Addr)} {outer : List Env} {A₀ : Around} {base h₀ : Heap} {L : Addr} {m : Str → Option Value} {news : List (Addr × Obj)} {s : Shared} {Q E : Value → Shared → Prop}
    (B : Below A₀ base outer h₀) (F : Fr h₀ L s.heap m) (X : (hd.heap_39 w.params).In h₀) (N : News h₀ L s.heap news) (T : Top hd.view_39 loose mean mg mb h₀) (hk : cs.kind = .function) (hdp : dp + 16 < recursionLimit) (hun : un + 128 < cLine)
    (h : ∀ (De : Addr) (z0 z1 z2 z3 z4 z5 z6 z7 : DT) (c : Nat) (h' : Heap) (tk' : Nat), Eight z0 z1 z2 z3 z4 z5 z6 z7 → Fr h₀ L h' m → News h₀ L h' ((De, refs8 z0 z1 z2 z3 z4 z5 z6 z7 c) :: (z7.D, tup3 z7.y z7.m z7.d z7.t1 z7.t2 z7.t3 z7.c) :: (z6.D, tup3 z6.y z6.m z6.d z6.t1 z6.t2 z6.t3 z6.c) :: (z5.D, tup3 z5.y z5.m z5.d z5.t1 z5.t2 z5.t3 z5.c) :: (z4.D, tup3 z4.y z4.m z4.d z4.t1 z4.t2 z4.t3 z4.c) :: (z3.D, tup3 z3.y z3.m z3.d z3.t1 z3.t2 z3.t3 z3.c) :: (z2.D, tup3 z2.y z2.m z2.d z2.t1 z2.t2 z2.t3 z2.c) :: (z1.D, tup3 z1.y z1.m z1.d z1.t1 z1.t2 z1.t3 z1.c) :: (z0.D, tup3 z0.y z0.m z0.d z0.t1 z0.t2 z0.t3 z0.c) :: news) → Q (.ref De) { s with heap := h', toks := tk' }) :
    wpAny (model PySem.Challenge.rw_ad5038_01.row.prog w) (ktrTop dp un gd cn cs L a ccd cl outer) (call (.ref 237) [.int y t1, .int mo t2, .int d t3]) Q E s := C t1 t2 t3 dp un gd cn cs a ccd cl outer A₀ base h₀ L m news s Q E B F X N T hk hdp hun h
theorem NumsC.use {w : World} {loose : List Str} {mean : ExcName → Option Value} {mg mb : Str → Option Value} {x0 x1 x2 x3 x4 x5 x6 x7 : DT} (C : NumsC w loose mean mg mb x0 x1 x2 x3 x4 x5 x6 x7) {Dl : Addr} {cc : Nat} {dp un : Nat} {gd : Option (List Code)} {cn : Str} {cs : Scope} {a : Addr} {ccd : Value} {cl : List (Str × Addr)} {outer : List Env} {A₀ : Around} {base h₀ : Heap} {L : Addr} {m : Str → Option Value} {news : List (Addr × Obj)} {s : Shared} {Q E : Value → Shared → Prop}
    (B : Below A₀ base outer h₀) (F : Fr h₀ L s.heap m) (X : (hd.heap_39 w.params).In h₀) (N : News h₀ L s.heap news) (T : Top hd.view_39 loose mean mg mb h₀) (hk : cs.kind = .function) (hdp : dp + 16 < recursionLimit) (hun : un + 128 < cLine)
    (il : (Dl, refs8 x0 x1 x2 x3 x4 x5 x6 x7 cc) ∈ news) (i0 : x0.In news) (i1 : x1.In news) (i2 : x2.In news) (i3 : x3.In news) (i4 : x4.In news) (i5 : x5.In news) (i6 : x6.In news) (i7 : x7.In news)
    (h : ∀ (Dn : Addr) (u0 u1 u2 u3 u4 u5 u6 u7 : Tok) (c : Nat) (h' : Heap) (tk' : Nat), Fr h₀ L h' m → News h₀ L h' ((Dn, nums8 x0 x1 x2 x3 x4 x5 x6 x7 u0 u1 u2 u3 u4 u5 u6 u7 c) :: news) → Q (.ref Dn) { s with heap := h', toks := tk' }) :
    wpAny (model PySem.Challenge.rw_ad5038_01.row.prog w) (ktrTop dp un gd cn cs L a ccd cl outer) (call (.ref 244) [.ref Dl]) Q E s := C Dl cc dp un gd cn cs a ccd cl outer A₀ base h₀ L m news s Q E B F X N T hk hdp hun il i0 i1 i2 i3 i4 i5 i6 i7 h
theorem ToldC.use {w : World} {loose : List Str} {mean : ExcName → Option Value} {mg mb : Str → Option Value} {r : Int} {x0 x1 x2 x3 x4 x5 x6 x7 : DT} (C : ToldC w loose mean mg mb r x0 x1 x2 x3 x4 x5 x6 x7) {Dn : Addr} {u0 u1 u2 u3 u4 u5 u6 u7 tp : Tok} {cc : Nat} {dp un : Nat} {gd : Option (List Code)} {cn : Str} {cs : Scope} {a : Addr} {ccd : Value} {cl : List (Str × Addr)} {outer : List Env} {A₀ : Around} {base h₀ : Heap} {L : Addr} {m : Str → Option Value} {news : List (Addr × Obj)} {s : Shared} {Q E : Value → Shared → Prop}
    (B : Below A₀ base outer h₀) (F : Fr h₀ L s.heap m) (X : (hd.heap_39 w.params).In h₀) (N : News h₀ L s.heap news) (T : Top hd.view_39 loose mean mg mb h₀) (hk : cs.kind = .function) (hdp : dp + 16 < recursionLimit) (hun : un + 128 < cLine)
    (il : (Dn, nums8 x0 x1 x2 x3 x4 x5 x6 x7 u0 u1 u2 u3 u4 u5 u6 u7 cc) ∈ news)
    (h : ∀ (De : Addr) (z0 z1 z2 z3 z4 z5 z6 z7 : DT) (c : Nat) (h' : Heap) (tk' : Nat), z0.y = x0.y → z0.m = x0.m → z0.d = x0.d → z1.y = x1.y → z1.m = x1.m → z1.d = x1.d → z2.y = x2.y → z2.m = x2.m → z2.d = x2.d → z3.y = x3.y → z3.m = x3.m → z3.d = x3.d → z4.y = x4.y → z4.m = x4.m → z4.d = x4.d → z5.y = x5.y → z5.m = x5.m → z5.d = x5.d → z6.y = x6.y → z6.m = x6.m → z6.d = x6.d → z7.y = x7.y → z7.m = x7.m → z7.d = x7.d → Fr h₀ L h' m → News h₀ L h' ((De, refs8 z0 z1 z2 z3 z4 z5 z6 z7 c) :: (z7.D, tup3 z7.y z7.m z7.d z7.t1 z7.t2 z7.t3 z7.c) :: (z6.D, tup3 z6.y z6.m z6.d z6.t1 z6.t2 z6.t3 z6.c) :: (z5.D, tup3 z5.y z5.m z5.d z5.t1 z5.t2 z5.t3 z5.c) :: (z4.D, tup3 z4.y z4.m z4.d z4.t1 z4.t2 z4.t3 z4.c) :: (z3.D, tup3 z3.y z3.m z3.d z3.t1 z3.t2 z3.t3 z3.c) :: (z2.D, tup3 z2.y z2.m z2.d z2.t1 z2.t2 z2.t3 z2.c) :: (z1.D, tup3 z1.y z1.m z1.d z1.t1 z1.t2 z1.t3 z1.c) :: (z0.D, tup3 z0.y z0.m z0.d z0.t1 z0.t2 z0.t3 z0.c) :: news) → Q (.ref De) { s with heap := h', toks := tk' }) :
    wpAny (model PySem.Challenge.rw_ad5038_01.row.prog w) (ktrTop dp un gd cn cs L a ccd cl outer) (call (.ref 251) [.ref Dn, .float (D (2 * r)) tp]) Q E s := C Dn u0 u1 u2 u3 u4 u5 u6 u7 tp cc dp un gd cn cs a ccd cl outer A₀ base h₀ L m news s Q E B F X N T hk hdp hun il h
end

section
open PySem PySem.W PyProof.Rows PySem.Calls PySem.Flt

/-- the contracts that the law's walk rests on -/
structure Contracts : Prop where
  dates : ∀ (w : World) (loose : List Str) (mean : ExcName → Option Value) (mg mb : Str → Option Value) (y mo d : Int), (-100000000000 ≤ y ∧ y ≤ 100000000000) → DatesC w loose mean mg mb y mo d
  nums : ∀ (w : World) (loose : List Str) (mean : ExcName → Option Value) (mg mb : Str → Option Value) (x0 x1 x2 x3 x4 x5 x6 x7 : DT), Eight x0 x1 x2 x3 x4 x5 x6 x7 → NumsC w loose mean mg mb x0 x1 x2 x3 x4 x5 x6 x7
  told : ∀ (w : World) (loose : List Str) (mean : ExcName → Option Value) (mg mb : Str → Option Value) (r : Int), (0 ≤ r ∧ r < 64) → ∀ (x0 x1 x2 x3 x4 x5 x6 x7 : DT), Eight x0 x1 x2 x3 x4 x5 x6 x7 → ToldC w loose mean mg mb r x0 x1 x2 x3 x4 x5 x6 x7

local macro_rules | `(tactic| walk_at "call ref") => `(tactic| (k_here; (with_reducible show wpAny _ _ (call (Value.ref 237) _) _ _ _); refine stop_here ?_))
local macro_rules | `(tactic| walk_at "call ref") => `(tactic| (k_here; (with_reducible show wpAny _ _ (call (Value.ref 244) _) _ _ _); refine stop_here ?_))
local macro_rules | `(tactic| walk_at "call ref") => `(tactic| (k_here; (with_reducible show wpAny _ _ (call (Value.ref 251) _) _ _ _); refine stop_here ?_))
local macro_rules | `(tactic| walk_at "call ref") => `(tactic| (k_here; (with_reducible show wpAny _ _ (call (Value.ref 225) _) _ _ _); k_dflt (refine' Cl.use (cl_within _ _ _ _ _ _ _ _ ) ?k1 ?k2 ?k3 ?k4 ?k5 ?kK ?kd ?ku ?_; (case k1 => k_asm); (case k2 => k_asm); (case k3 => k_asm); (case k4 => k_asm); (case k5 => k_asm); (case kK => first | exact rfl | assumption); (case kd => ktr_room); (case ku => ktr_units); intro t9 h9 tk9 F9 N9; (try dsimp only); (try k_fold))))

local macro_rules | `(tactic| walk_at "binaryOp Div int int") => `(tactic| ((with_reducible refine' r_64th ?hA ?hm ?_); (case hA => with_plain (exact rfl)); (case hm => with_plain (omega))))
local macro_rules | `(tactic| walk_at "subscriptTail") => `(tactic| (k_here; (with_reducible show wpAny _ _ (subscriptTail _ _ (Value.ref _) (Value.int _ _)) _ _ _); k_dflt (refine' r_itemL ?N ?m ?a ?b ?d ?_ ?z; (case N => k_asm); (case m => k_mem); (case a => decide); (case b => decide); (case d => rfl); (case z => with_unfolding_all rfl); k_whole)))
local macro_rules | `(tactic| walk_at "subscriptTail Name Name ref int") => `(tactic| (k_here; (with_reducible show wpAny _ _ (subscriptTail _ _ (Value.ref _) (Value.int _ _)) _ _ _); k_dflt (refine' r_itemL ?N ?m ?a ?b ?d ?_ ?z; (case N => k_asm); (case m => k_mem); (case a => decide); (case b => decide); (case d => rfl); (case z => with_unfolding_all rfl); k_whole)))

local macro_rules | `(tactic| k_mem) => `(tactic| ((repeat (first | exact List.Mem.head _ | ktr_member | refine' List.mem_cons_of_mem _ ?_)); done))

local macro_rules | `(tactic| walk_at "compareOp Lt float float") => `(tactic| (k_here; (with_reducible refine' r_lt_num ?S ?_); (case S => with_reducible assumption)))
local macro_rules | `(tactic| walk_at "compareOp Eq float float") => `(tactic| (k_here; (with_reducible refine' r_eq_num ?S ?_); (case S => with_reducible assumption)))
local macro_rules | `(tactic| walk_at "compareOp Lt ref ref") => `(tactic| (k_here; k_dflt (refine' r_lt_tup ?N ?ma ?mb ?S ?hu ?_; (case N => k_asm); (case ma => k_mem); (case mb => k_mem); (case S => with_reducible assumption); (case hu => ktr_units))))
local macro_rules | `(tactic| walk_at "compareOp Eq ref ref") => `(tactic| (k_here; k_dflt (refine' r_eq_tup ?N ?ma ?mb ?S ?hu ?_; (case N => k_asm); (case ma => k_mem); (case mb => k_mem); (case S => with_reducible assumption); (case hu => ktr_units))))
local macro_rules | `(tactic| walk_at "compareOp NotEq bool bool") => `(tactic| (k_here; (with_reducible refine r_ne_bb ?_)))
local macro_rules | `(tactic| walk_at "subscriptTail") => `(tactic| (k_here; (with_reducible show wpAny _ _ (subscriptTail (PySem.Expr.BinOp _ _ _ _) (PySem.Expr.Slice _ _ _ _) _ _) _ _ _); refine stop_here ?_))
local macro_rules | `(tactic| walk_at "subscriptTail") => `(tactic| (k_here; (with_reducible show wpAny _ _ (subscriptTail (PySem.Expr.BinOp _ _ _ _) (PySem.Expr.Slice _ _ none _) (Value.ref _) (Value.ref _)) _ _ _); k_dflt (refine' r_slice8 ?F ?N ?l ?i ?h8 ?hz ?_ ?hs; (case F => k_asm); (case N => k_asm); (case l => kmk_list); (case i => l_ints); (case h8 => exact (len16 _).1); (case hz => exact (len16 _).2); (case hs => with_unfolding_all rfl)); intro l9 h9 n0 n1 n2 n3 n4 n5 n6 n7 t0 t1 t2 t3 t4 t5 t6 t7 F9 N9; (try dsimp only)))

set_option maxRecDepth 100000 in
set_option maxHeartbeats 8000000 in
theorem law_of (CC : Contracts) : PySem.Challenge.rw_ad5038_01.Holds := hd (by
  k_go0
  all_goals try k_fold
  k_steps
  refine stop_go ?_
  k_dflt (refine' DatesC.use (CC.dates _ _ _ _ _ _ _ _ (wi_bd _)) ?k1a1 ?k2a1 ?k3a1 ?k4a1 ?k5a1 ?kKa1 ?kda1 ?kua1  ?_)
  case k1a1 => k_asm
  case k2a1 => k_asm
  case k3a1 => k_asm
  case k4a1 => k_asm
  case k5a1 => k_asm
  case kKa1 => first | exact rfl | assumption
  case kda1 => ktr_room
  case kua1 => ktr_units
  intro Do x0 x1 x2 x3 x4 x5 x6 x7 co ho tko hEo Fo No
  (try dsimp only)
  (try k_fold)
  k_steps
  refine stop_go ?_
  k_dflt (refine' DatesC.use (CC.dates _ _ _ _ _ _ _ _ (wi_bd _)) ?k1a2 ?k2a2 ?k3a2 ?k4a2 ?k5a2 ?kKa2 ?kda2 ?kua2  ?_)
  case k1a2 => k_asm
  case k2a2 => k_asm
  case k3a2 => k_asm
  case k4a2 => k_asm
  case k5a2 => k_asm
  case kKa2 => first | exact rfl | assumption
  case kda2 => ktr_room
  case kua2 => ktr_units
  intro Dt y0 y1 y2 y3 y4 y5 y6 y7 ct ht tkt hEt Ft Nt
  (try dsimp only)
  (try k_fold)
  k_steps
  refine stop_go ?_
  k_dflt (refine' NumsC.use (CC.nums _ _ _ _ _ x0 x1 x2 x3 x4 x5 x6 x7 hEo) ?k1a3 ?k2a3 ?k3a3 ?k4a3 ?k5a3 ?kKa3 ?kda3 ?kua3 ?ila3 ?i0a3 ?i1a3 ?i2a3 ?i3a3 ?i4a3 ?i5a3 ?i6a3 ?i7a3 ?_)
  case k1a3 => k_asm
  case k2a3 => k_asm
  case k3a3 => k_asm
  case k4a3 => k_asm
  case k5a3 => k_asm
  case kKa3 => first | exact rfl | assumption
  case kda3 => ktr_room
  case kua3 => ktr_units
  case ila3 => k_mem
  case i0a3 => (unfold DT.In; k_mem)
  case i1a3 => (unfold DT.In; k_mem)
  case i2a3 => (unfold DT.In; k_mem)
  case i3a3 => (unfold DT.In; k_mem)
  case i4a3 => (unfold DT.In; k_mem)
  case i5a3 => (unfold DT.In; k_mem)
  case i6a3 => (unfold DT.In; k_mem)
  case i7a3 => (unfold DT.In; k_mem)
  intro Dfn u0 u1 u2 u3 u4 u5 u6 u7 cf hf tkf Ff Nf
  (try dsimp only)
  (try k_fold)
  k_steps
  refine stop_go ?_
  k_dflt (refine' NumsC.use (CC.nums _ _ _ _ _ y0 y1 y2 y3 y4 y5 y6 y7 hEt) ?k1a4 ?k2a4 ?k3a4 ?k4a4 ?k5a4 ?kKa4 ?kda4 ?kua4 ?ila4 ?i0a4 ?i1a4 ?i2a4 ?i3a4 ?i4a4 ?i5a4 ?i6a4 ?i7a4 ?_)
  case k1a4 => k_asm
  case k2a4 => k_asm
  case k3a4 => k_asm
  case k4a4 => k_asm
  case k5a4 => k_asm
  case kKa4 => first | exact rfl | assumption
  case kda4 => ktr_room
  case kua4 => ktr_units
  case ila4 => k_mem
  case i0a4 => (unfold DT.In; k_mem)
  case i1a4 => (unfold DT.In; k_mem)
  case i2a4 => (unfold DT.In; k_mem)
  case i3a4 => (unfold DT.In; k_mem)
  case i4a4 => (unfold DT.In; k_mem)
  case i5a4 => (unfold DT.In; k_mem)
  case i6a4 => (unfold DT.In; k_mem)
  case i7a4 => (unfold DT.In; k_mem)
  intro Dsn v0 v1 v2 v3 v4 v5 v6 v7 csn hs tks Fs Ns
  (try dsimp only)
  (try k_fold)
  k_steps
  refine stop_go ?_
  k_dflt (refine' ToldC.use (CC.told _ _ _ _ _ _ ?hr5 x0 x1 x2 x3 x4 x5 x6 x7 hEo) ?k1a5 ?k2a5 ?k3a5 ?k4a5 ?k5a5 ?kKa5 ?kda5 ?kua5 ?ila5 ?_)
  case k1a5 => k_asm
  case k2a5 => k_asm
  case k3a5 => k_asm
  case k4a5 => k_asm
  case k5a5 => k_asm
  case kKa5 => first | exact rfl | assumption
  case kda5 => ktr_room
  case kua5 => ktr_units
  case ila5 => k_mem
  case hr5 => omega
  intro Dp p0 p1 p2 p3 p4 p5 p6 p7 cp hp tkp ep0y ep0m ep0d ep1y ep1m ep1d ep2y ep2m ep2d ep3y ep3m ep3d ep4y ep4m ep4d ep5y ep5m ep5d ep6y ep6m ep6d ep7y ep7m ep7d Fp Np
  (try dsimp only)
  (try k_fold)
  k_steps
  refine stop_go ?_
  k_dflt (refine' ToldC.use (CC.told _ _ _ _ _ _ ?hr6 y0 y1 y2 y3 y4 y5 y6 y7 hEt) ?k1a6 ?k2a6 ?k3a6 ?k4a6 ?k5a6 ?kKa6 ?kda6 ?kua6 ?ila6 ?_)
  case k1a6 => k_asm
  case k2a6 => k_asm
  case k3a6 => k_asm
  case k4a6 => k_asm
  case k5a6 => k_asm
  case kKa6 => first | exact rfl | assumption
  case kda6 => ktr_room
  case kua6 => ktr_units
  case ila6 => k_mem
  case hr6 => omega
  intro Dq q0 q1 q2 q3 q4 q5 q6 q7 cq hq tkq eq0y eq0m eq0d eq1y eq1m eq1d eq2y eq2m eq2d eq3y eq3m eq3d eq4y eq4m eq4d eq5y eq5m eq5d eq6y eq6m eq6d eq7y eq7m eq7d Fq Nq
  (try dsimp only)
  (try k_fold)
  have bdo := num_bd hEo
  have bdt := num_bd hEt
  obtain ⟨k0, s0, S0⟩ := Same.of g_lt hEo.l0 hEt.l0 bdo.1 bdt.1
  obtain ⟨k1, s1, S1⟩ := Same.of j_lt hEo.l1 hEt.l1 bdo.2.1 bdt.2.1
  obtain ⟨k2, s2, S2⟩ := Same.of c_lt hEo.l2 hEt.l2 bdo.2.2.1 bdt.2.2.1
  obtain ⟨k3, s3, S3⟩ := Same.of a_lt hEo.l3 hEt.l3 bdo.2.2.2.1 bdt.2.2.2.1
  obtain ⟨k4, s4, S4⟩ := Same.of h_lt hEo.l4 hEt.l4 bdo.2.2.2.2.1 bdt.2.2.2.2.1
  obtain ⟨k5, s5, S5⟩ := Same.of i_lt hEo.l5 hEt.l5 bdo.2.2.2.2.2.1 bdt.2.2.2.2.2.1
  obtain ⟨k6, s6, S6⟩ := Same.of f_lt hEo.l6 hEt.l6 bdo.2.2.2.2.2.2.1 bdt.2.2.2.2.2.2.1
  obtain ⟨k7, s7, S7⟩ := Same.of s_lt hEo.l7 hEt.l7 bdo.2.2.2.2.2.2.2 bdt.2.2.2.2.2.2.2
  clear bdo bdt
  k_steps
)
end

section
local macro_rules | `(tactic| walk_at "no such step") => `(tactic| fail)
local macro_rules | `(tactic| walk_at "no such step") => `(tactic| fail)
local macro_rules | `(tactic| walk_at "no such step") => `(tactic| fail)
local macro_rules | `(tactic| walk_at "no such step") => `(tactic| fail)
local macro_rules | `(tactic| walk_at "no such step") => `(tactic| fail)
local macro_rules | `(tactic| walk_at "no such step") => `(tactic| fail)
local macro_rules | `(tactic| walk_at "no such step") => `(tactic| fail)
local macro_rules | `(tactic| walk_at "no such step") => `(tactic| fail)
local macro_rules | `(tactic| walk_at "no such step") => `(tactic| fail)
local macro_rules | `(tactic| walk_at "no such step") => `(tactic| fail)
local macro_rules | `(tactic| walk_at "no such step") => `(tactic| fail)
local macro_rules | `(tactic| walk_at "no such step") => `(tactic| fail)
local macro_rules | `(tactic| walk_at "no such step") => `(tactic| fail)
local macro_rules | `(tactic| walk_at "no such step") => `(tactic| fail)
local macro_rules | `(tactic| walk_at "no such step") => `(tactic| fail)
local macro_rules | `(tactic| walk_at "no such step") => `(tactic| fail)
local macro_rules | `(tactic| walk_at "no such step") => `(tactic| fail)
local macro_rules | `(tactic| walk_at "no such step") => `(tactic| fail)
local macro_rules | `(tactic| walk_at "no such step") => `(tactic| fail)
local macro_rules | `(tactic| walk_at "no such step") => `(tactic| fail)
local macro_rules | `(tactic| walk_at "no such step") => `(tactic| fail)
local macro_rules | `(tactic| walk_at "no such step") => `(tactic| fail)
local macro_rules | `(tactic| walk_at "no such step") => `(tactic| fail)
local macro_rules | `(tactic| walk_at "no such step") => `(tactic| fail)
open PySem PySem.W PyProof.Rows PySem.Calls PySem.Flt

local macro_rules | `(tactic| walk_at "call ref") => `(tactic| (k_here; (with_reducible show wpAny _ _ (call (Value.ref 50) _) _ _ _); k_dflt (refine' Cl.use (cl_isleap _ _ _ _ _ _ _ ) ?k1 ?k2 ?k3 ?k4 ?k5 ?kK ?kd ?ku ?_; (case k1 => k_asm); (case k2 => k_asm); (case k3 => k_asm); (case k4 => k_asm); (case k5 => k_asm); (case kK => first | exact rfl | assumption); (case kd => ktr_room); (case ku => ktr_units); intro t9 h9 tk9 F9 N9; (try dsimp only); (try k_fold))))

local macro_rules | `(tactic| walk_at "call ref") => `(tactic| (k_here; (with_reducible show wpAny _ _ (call (Value.ref 57) _) _ _ _); k_dflt (refine' Cl.use (cl_legal _ _ _ _ _ _ _ _ _ _ _ ?p0 ?p1 ?p2 ?p3 ?p4) ?k1 ?k2 ?k3 ?k4 ?k5 ?kK ?kd ?ku ?_; (case k1 => k_asm); (case k2 => k_asm); (case k3 => k_asm); (case k4 => k_asm); (case k5 => k_asm); (case kK => first | exact rfl | assumption); (case p0 => omega); (case p1 => omega); (case p2 => omega); (case p3 => omega); (case p4 => omega); (case kd => ktr_room); (case ku => ktr_units); intro t9 h9 tk9 F9 N9; (try dsimp only); (try k_fold))))

section
variable (w : World) (loose : List Str) (mean : ExcName → Option Value) (mg mb : Str → Option Value)
set_option maxRecDepth 100000
set_option maxHeartbeats 8000000
theorem cl_to_g (y mo d : Int) (t1 t2 t3 : Tok) (h0 : -100000001000 ≤ y ∧ y ≤ 100000001000) (h1 : 1 ≤ mo ∧ mo ≤ 12) (h2 : 1 ≤ d ∧ d ≤ 31) (h3 : mo = 4 ∨ mo = 6 ∨ mo = 9 ∨ mo = 11 → d ≤ 30) (h4 : mo = 2 → d ≤ 29) (h5 : mo = 2 → d = 29 → y % 4 = 0 ∧ (y % 100 ≠ 0 ∨ y % 400 = 0)) :
   Cl w loose mean mg mb 64 [.int y t1, .int mo t2, .int d t3] 3 24 (fun t => .float (D (128 * gnum y mo d + 64)) t) := by
  unfold Cl
  k_fill
  intro dp un gd cn cs a ccd cl outer A₀ base h₀ L m news s Q E B F X N T hk hdp hun hret
  refine wpAny_call ?_
  k_dflt (refine' code_def ?k1 ?k2 ?k3 ?k4 ?k5 ?kA ?kF ?kK ?k6 ?k7 ?k8 ?k9 ?kB ?_ ?c2 ?c3 ?c4 ?c5; (case kA => exact rfl); (case kF => exact rfl); (case kK => assumption); (case k1 => k_asm); (case k2 => k_asm); (case k3 => k_asm); (case k4 => k_asm); (case k5 => k_asm); (case k6 => k_is); (case k7 => k_is); (case k8 => ktr_room); (case k9 => first | exact BindsTo.of_eq rfl | exact binds_K (by k_in) rfl (by k_is) rfl rfl rfl); (case c5 => decide); (case kB => exact locs rfl); (case c2 => exact rfl); (case c3 => exact rfl); (case c4 => exact rfl); k_whole; intro g' L' h' FG' F' N' B' X' T'; (try dsimp only); (try k_lift B'); (try k_fold))
  k_steps
  all_goals first | (exfalso; omega) | (refine' retF hret ?e ?F ?N; (case F => k_asm); (case N => first | k_asm | exact cb_drop (by assumption) (by kcj_all)); (case e => (simp only [gnum, gadj]; (repeat' split) <;> omega)))

end
end

section
open PySem PySem.W PyProof.Rows PySem.Calls PySem.Flt

theorem g_yd {y m d N N1 : Int} (h : LG y m d) (hN : gnum y m d = N) (h1 : N1 = gnum y 1 1) : 0 ≤ N - N1 ∧ N - N1 ≤ 365 := by
  have := g_in h; rw [g_next] at this; have := lq_bd y; omega
theorem g_mon' {y m d N N1 adj c : Int} (h : LG y m d) (hN : gnum y m d = N) (h1 : N1 = gnum y 1 1) (hc : (Lp y → c = 58 + 1) ∧ (¬ Lp y → c = 58))
    (ha : (N - N1 < c ∧ adj = 0) ∨ (¬ N - N1 < c ∧ Lp y ∧ adj = 1) ∨ (¬ N - N1 < c ∧ ¬ Lp y ∧ adj = 2)) : ((N - N1 + adj) * 12 + 373) / 367 = m ∧ 0 ≤ adj ∧ adj ≤ 2 := by
  refine ⟨g_mon (M := ((N - N1 + adj) * 12 + 373) / 367) h rfl hc (by rw [hN, ← h1]; exact ha) (by rw [hN, ← h1]), ?_⟩
  rcases ha with ⟨_, h⟩ | ⟨_, _, h⟩ | ⟨_, _, h⟩ <;> omega
theorem g_day {y m d M N NM : Int} (h : LG y m d) (hN : gnum y m d = N) (hM : M = m) (P : GFact y M 1 NM) : N - NM + 1 = d ∧ 1 ≤ d := by
  have h1 := P.1
  have h2 := gnum_lin y m d
  have h3 := h.d1
  subst hM
  omega

local macro_rules | `(tactic| walk_at "call ref") => `(tactic| (k_here; (with_reducible show wpAny _ _ (call (Value.ref 50) _) _ _ _); k_dflt (refine' Cl.use (cl_isleap _ _ _ _ _ _ _ ) ?k1 ?k2 ?k3 ?k4 ?k5 ?kK ?kd ?ku ?_; (case k1 => k_asm); (case k2 => k_asm); (case k3 => k_asm); (case k4 => k_asm); (case k5 => k_asm); (case kK => first | exact rfl | assumption); (case kd => ktr_room); (case ku => ktr_units); intro t9 h9 tk9 F9 N9; (try dsimp only); (try k_fold))))

local macro_rules | `(tactic| walk_at "call ref") => `(tactic| (k_here; (with_reducible show wpAny _ _ (call (Value.ref 64) _) _ _ _); refine stop_here ?_))

local macro_rules | `(tactic| walk_at "exec If") => `(tactic| (k_here; refine stop_here ?_))

section
variable (w : World) (loose : List Str) (mean : ExcName → Option Value) (mg mb : Str → Option Value)
set_option maxRecDepth 100000
set_option maxHeartbeats 8000000
theorem cn_g (y mo d : Int) (t1 t2 t3 : Tok) (h0 : -100000001000 ≤ y ∧ y ≤ 100000001000) (h1 : 1 ≤ mo ∧ mo ≤ 12) (h2 : 1 ≤ d ∧ d ≤ 31) (h3 : mo = 4 ∨ mo = 6 ∨ mo = 9 ∨ mo = 11 → d ≤ 30) (h4 : mo = 2 → d ≤ 29) (h5 : mo = 2 → d = 29 → y % 4 = 0 ∧ (y % 100 ≠ 0 ∨ y % 400 = 0)) :
   CN w loose mean mg mb 64 [.int y t1, .int mo t2, .int d t3] 3 24 (GFact y mo d) := CN.of (cl_to_g w loose mean mg mb y mo d t1 t2 t3 h0 h1 h2 h3 h4 h5) (gfact h0 h1 h2)
theorem cl_from_g (y mo d a : Int) (t : Tok) (h0 : -100000000900 ≤ y ∧ y ≤ 100000000900) (hL : LG y mo d) (ha : 128 * gnum y mo d + 64 ≤ a ∧ a < 128 * gnum y mo d + 192) :
   CT w loose mean mg mb 71 [.float (D a) t] 5 40 y mo d := by
  have hb := gnum_bd (y := y) (m := mo) (d := d) (by omega) hL.m1 hL.d1
  have hm1 := hL.m1
  generalize hN : gnum y mo d = n at ha hb
  unfold CT
  k_fill
  intro dp un gd cn cs a ccd cl outer A₀ base h₀ L m news s Q E B F X N T hk hdp hun hret
  refine wpAny_call ?_
  k_dflt (refine' code_def ?k1 ?k2 ?k3 ?k4 ?k5 ?kA ?kF ?kK ?k6 ?k7 ?k8 ?k9 ?kB ?_ ?c2 ?c3 ?c4 ?c5; (case kA => exact rfl); (case kF => exact rfl); (case kK => assumption); (case k1 => k_asm); (case k2 => k_asm); (case k3 => k_asm); (case k4 => k_asm); (case k5 => k_asm); (case k6 => k_is); (case k7 => k_is); (case k8 => ktr_room); (case k9 => first | exact BindsTo.of_eq rfl | exact binds_K (by k_in) rfl (by k_is) rfl rfl rfl); (case c5 => decide); (case kB => exact locs rfl); (case c2 => exact rfl); (case c3 => exact rfl); (case c4 => exact rfl); k_whole; intro g' L' h' FG' F' N' B' X' T'; (try dsimp only); (try k_lift B'); (try k_fold))
  k_steps
  

  · (with_reducible rename _ = (_ - 64) / 128 => e0)
    (with_reducible rename _ = _ / (128 * 146097) => e1)
    (with_reducible rename _ = _ % (128 * 146097) => e2)
    (with_reducible rename _ = _ / (128 * 36524) => e3)
    (with_reducible rename _ = _ % (128 * 36524) => e4)
    (with_reducible rename _ = _ / (128 * 1461) => e5)
    (with_reducible rename _ = _ % (128 * 1461) => e6)
    (with_reducible rename _ = _ / (128 * 365) => e7)
    have hch := fun Y h => g_year hL hN.symm (g_chain (Y := Y) ha e0 e1 e2 e3 e4 e5 e6 e7 h)
    have hq4 := e0.trans (show _ = n by omega)
    refine stop_go ?_
    (with_reducible rename Fr _ _ _ _ => jF)
    (with_reducible rename News _ _ _ _ => jN)
    refine j_if (Str.ofString "year") (fun r => r = y) jF jN ?_ ?_
    focus
      refine wpAny_If ?_
      k_steps
      all_goals (try (refine stop_go ?_; refine wpAny_If ?_; k_steps))
      all_goals (skip; first
        | (refine JV.set (by assumption) (by first | assumption | exact cb_drop (by assumption) (by kcj_all)) ?_; (exact hch _ (by omega)))
        | (refine JV.same (by with_unfolding_all rfl) (by assumption) (by first | assumption | exact cb_drop (by assumption) (by kcj_all)) ?_; (exact hch _ (by omega))))
    clear jF jN
    intro jr jR jt jh jtk jF jN
    (try dsimp only)
    subst jR
    clear e0 e1 e2 e3 e4 e5 e6 e7 hch
    k_steps
    refine stop_go ?_; k_dflt (refine' CN.use (cn_g _ _ _ _ _ _ _ _ _ _ _ ?p0n1 ?p1n1 ?p2n1 ?p3n1 ?p4n1 ?p5n1) ?k1n1 ?k2n1 ?k3n1 ?k4n1 ?k5n1 ?kKn1 ?kdn1 ?kun1 ?_; (case k1n1 => k_asm); (case k2n1 => k_asm); (case k3n1 => k_asm); (case k4n1 => k_asm); (case k5n1 => k_asm); (case kKn1 => first | exact rfl | assumption); (case p0n1 => omega); (case p1n1 => omega); (case p2n1 => omega); (case p3n1 => omega); (case p4n1 => omega); (case p5n1 => omega); (case kdn1 => ktr_room); (case kun1 => ktr_units); intro n9 P9 t9 h9 tk9 F9 N9; (try dsimp only); (try k_fold))
    have hN1 := P9.1
    have hyd := g_yd hL hN hN1
    replace P9 := P9.bd
    k_steps
    refine stop_go ?_
    (with_reducible rename Fr _ _ _ _ => jF)
    (with_reducible rename News _ _ _ _ => jN)
    refine j_if (Str.ofString "leap_adj") (fun r => ((n - n9 + r) * 12 + 373) / 367 = mo ∧ 0 ≤ r ∧ r ≤ 2) jF jN ?_ ?_
    focus
      refine wpAny_If ?_
      k_steps
      all_goals (try (refine stop_go ?_; refine wpAny_If ?_; k_steps))
      all_goals ((with_reducible rename (_ → _) ∧ (_ → _) => hc); first
        | (refine JV.set (by assumption) (by first | assumption | exact cb_drop (by assumption) (by kcj_all)) ?_; (exact g_mon' hL hN hN1 hc (by omega)))
        | (refine JV.same (by with_unfolding_all rfl) (by assumption) (by first | assumption | exact cb_drop (by assumption) (by kcj_all)) ?_; (exact g_mon' hL hN hN1 hc (by omega))))
    clear jF jN
    intro jr jR jt jh jtk jF jN
    (try dsimp only)
    k_steps
    (with_reducible rename _ = _ / (128 * 367) => e8)
    have hM := e8.trans (show _ = mo by omega)
    refine stop_go ?_; k_dflt (refine' CN.use (cn_g _ _ _ _ _ _ _ _ _ _ _ ?p0n2 ?p1n2 ?p2n2 ?p3n2 ?p4n2 ?p5n2) ?k1n2 ?k2n2 ?k3n2 ?k4n2 ?k5n2 ?kKn2 ?kdn2 ?kun2 ?_; (case k1n2 => k_asm); (case k2n2 => k_asm); (case k3n2 => k_asm); (case k4n2 => k_asm); (case k5n2 => k_asm); (case kKn2 => first | exact rfl | assumption); (case p0n2 => omega); (case p1n2 => omega); (case p2n2 => omega); (case p3n2 => omega); (case p4n2 => omega); (case p5n2 => omega); (case kdn2 => ktr_room); (case kun2 => ktr_units); intro n9 P9 t9 h9 tk9 F9 N9; (try dsimp only); (try k_fold))
    have hNM := g_day hL hN hM P9
    replace P9 := P9.bd
    have hd1 := hL.d1
    k_steps
    (with_reducible refine retT hret (by assumption) (by assumption) ?_ ?_ ?_) <;> first | rfl | omega
end
end

section
local macro_rules | `(tactic| walk_at "no such step") => `(tactic| fail)
local macro_rules | `(tactic| walk_at "no such step") => `(tactic| fail)
local macro_rules | `(tactic| walk_at "no such step") => `(tactic| fail)
local macro_rules | `(tactic| walk_at "no such step") => `(tactic| fail)
local macro_rules | `(tactic| walk_at "no such step") => `(tactic| fail)
local macro_rules | `(tactic| walk_at "no such step") => `(tactic| fail)
local macro_rules | `(tactic| walk_at "no such step") => `(tactic| fail)
local macro_rules | `(tactic| walk_at "no such step") => `(tactic| fail)
local macro_rules | `(tactic| walk_at "no such step") => `(tactic| fail)
local macro_rules | `(tactic| walk_at "no such step") => `(tactic| fail)
local macro_rules | `(tactic| walk_at "no such step") => `(tactic| fail)
local macro_rules | `(tactic| walk_at "no such step") => `(tactic| fail)
local macro_rules | `(tactic| walk_at "no such step") => `(tactic| fail)
local macro_rules | `(tactic| walk_at "no such step") => `(tactic| fail)
local macro_rules | `(tactic| walk_at "no such step") => `(tactic| fail)
local macro_rules | `(tactic| walk_at "no such step") => `(tactic| fail)
local macro_rules | `(tactic| walk_at "no such step") => `(tactic| fail)
local macro_rules | `(tactic| walk_at "no such step") => `(tactic| fail)
local macro_rules | `(tactic| walk_at "no such step") => `(tactic| fail)
local macro_rules | `(tactic| walk_at "no such step") => `(tactic| fail)
local macro_rules | `(tactic| walk_at "no such step") => `(tactic| fail)
local macro_rules | `(tactic| walk_at "no such step") => `(tactic| fail)
local macro_rules | `(tactic| walk_at "no such step") => `(tactic| fail)
local macro_rules | `(tactic| walk_at "no such step") => `(tactic| fail)
open PySem PySem.W PyProof.Rows PySem.Calls PySem.Flt

section
variable (w : World) (loose : List Str) (mean : ExcName → Option Value) (mg mb : Str → Option Value)
set_option maxRecDepth 100000
set_option maxHeartbeats 8000000

theorem cl_leap_j (y : Int) (t : Tok) : Cl w loose mean mg mb 190 [.int y t] 1 8 (fun _ => .bool (y % 4 == 0)) := by
  unfold Cl
  k_fill
  intro dp un gd cn cs a ccd cl outer A₀ base h₀ L m news s Q E B F X N T hk hdp hun hret
  refine wpAny_call ?_
  k_dflt (refine' code_def ?k1 ?k2 ?k3 ?k4 ?k5 ?kA ?kF ?kK ?k6 ?k7 ?k8 ?k9 ?kB ?_ ?c2 ?c3 ?c4 ?c5; (case kA => exact rfl); (case kF => exact rfl); (case kK => assumption); (case k1 => k_asm); (case k2 => k_asm); (case k3 => k_asm); (case k4 => k_asm); (case k5 => k_asm); (case k6 => k_is); (case k7 => k_is); (case k8 => ktr_room); (case k9 => first | exact BindsTo.of_eq rfl | exact binds_K (by k_in) rfl (by k_is) rfl rfl rfl); (case c5 => decide); (case kB => exact locs rfl); (case c2 => exact rfl); (case c3 => exact rfl); (case c4 => exact rfl); k_whole; intro g' L' h' FG' F' N' B' X' T'; (try dsimp only); (try k_lift B'); (try k_fold))
  k_steps
  all_goals cb_end hret

end
local macro_rules | `(tactic| walk_at "call ref") => `(tactic| (k_here; (with_reducible show wpAny _ _ (call (Value.ref 190) _) _ _ _); k_dflt (refine' Cl.use (cl_leap_j _ _ _ _ _ _ _ ) ?k1 ?k2 ?k3 ?k4 ?k5 ?kK ?kd ?ku ?_; (case k1 => k_asm); (case k2 => k_asm); (case k3 => k_asm); (case k4 => k_asm); (case k5 => k_asm); (case kK => first | exact rfl | assumption); (case kd => ktr_room); (case ku => ktr_units); intro t9 h9 tk9 F9 N9; (try dsimp only); (try k_fold))))

section
variable (w : World) (loose : List Str) (mean : ExcName → Option Value) (mg mb : Str → Option Value)
set_option maxRecDepth 100000
set_option maxHeartbeats 8000000

theorem cl_mlen_j (y mo : Int) (t1 t2 : Tok) (h1 : 1 ≤ mo ∧ mo ≤ 12) :
   Cl w loose mean mg mb 197 [.int y t1, .int mo t2] 2 16 (fun t => .int (if mo = 2 then (if y % 4 = 0 then 29 else 28) else if mo = 4 ∨ mo = 6 ∨ mo = 9 ∨ mo = 11 then 30 else 31) t) := by
  unfold Cl
  k_fill
  intro dp un gd cn cs a ccd cl outer A₀ base h₀ L m news s Q E B F X N T hk hdp hun hret
  refine wpAny_call ?_
  k_dflt (refine' code_def ?k1 ?k2 ?k3 ?k4 ?k5 ?kA ?kF ?kK ?k6 ?k7 ?k8 ?k9 ?kB ?_ ?c2 ?c3 ?c4 ?c5; (case kA => exact rfl); (case kF => exact rfl); (case kK => assumption); (case k1 => k_asm); (case k2 => k_asm); (case k3 => k_asm); (case k4 => k_asm); (case k5 => k_asm); (case k6 => k_is); (case k7 => k_is); (case k8 => ktr_room); (case k9 => first | exact BindsTo.of_eq rfl | exact binds_K (by k_in) rfl (by k_is) rfl rfl rfl); (case c5 => decide); (case kB => exact locs rfl); (case c2 => exact rfl); (case c3 => exact rfl); (case c4 => exact rfl); k_whole; intro g' L' h' FG' F' N' B' X' T'; (try dsimp only); (try k_lift B'); (try k_fold))
  k_steps
  all_goals cb_end hret

end
local macro_rules | `(tactic| walk_at "call ref") => `(tactic| (k_here; (with_reducible show wpAny _ _ (call (Value.ref 197) _) _ _ _); k_dflt (refine' Cl.use (cl_mlen_j _ _ _ _ _ _ _ _ _ ?p0) ?k1 ?k2 ?k3 ?k4 ?k5 ?kK ?kd ?ku ?_; (case k1 => k_asm); (case k2 => k_asm); (case k3 => k_asm); (case k4 => k_asm); (case k5 => k_asm); (case kK => first | exact rfl | assumption); (case p0 => omega); (case kd => ktr_room); (case ku => ktr_units); intro t9 h9 tk9 F9 N9; (try dsimp only); (try k_fold))))

section
variable (w : World) (loose : List Str) (mean : ExcName → Option Value) (mg mb : Str → Option Value)
set_option maxRecDepth 100000
set_option maxHeartbeats 8000000

theorem cl_legal_j (y mo d : Int) (t1 t2 t3 : Tok) (h1 : 1 ≤ mo ∧ mo ≤ 12) (h2 : 1 ≤ d ∧ d ≤ 31) (h3 : d ≤ (if mo = 2 then (if y % 4 = 0 then 29 else 28) else if mo = 4 ∨ mo = 6 ∨ mo = 9 ∨ mo = 11 then 30 else 31)) :
   Cl w loose mean mg mb 204 [.int y t1, .int mo t2, .int d t3] 3 24 (fun _ => .bool true) := by
  unfold Cl
  k_fill
  intro dp un gd cn cs a ccd cl outer A₀ base h₀ L m news s Q E B F X N T hk hdp hun hret
  refine wpAny_call ?_
  k_dflt (refine' code_def ?k1 ?k2 ?k3 ?k4 ?k5 ?kA ?kF ?kK ?k6 ?k7 ?k8 ?k9 ?kB ?_ ?c2 ?c3 ?c4 ?c5; (case kA => exact rfl); (case kF => exact rfl); (case kK => assumption); (case k1 => k_asm); (case k2 => k_asm); (case k3 => k_asm); (case k4 => k_asm); (case k5 => k_asm); (case k6 => k_is); (case k7 => k_is); (case k8 => ktr_room); (case k9 => first | exact BindsTo.of_eq rfl | exact binds_K (by k_in) rfl (by k_is) rfl rfl rfl); (case c5 => decide); (case kB => exact locs rfl); (case c2 => exact rfl); (case c3 => exact rfl); (case c4 => exact rfl); k_whole; intro g' L' h' FG' F' N' B' X' T'; (try dsimp only); (try k_lift B'); (try k_fold))
  k_steps
  all_goals cb_end hret

end
local macro_rules | `(tactic| walk_at "call ref") => `(tactic| (k_here; (with_reducible show wpAny _ _ (call (Value.ref 204) _) _ _ _); k_dflt (refine' Cl.use (cl_legal_j _ _ _ _ _ _ _ _ _ _ _ ?p0 ?p1 ?p2) ?k1 ?k2 ?k3 ?k4 ?k5 ?kK ?kd ?ku ?_; (case k1 => k_asm); (case k2 => k_asm); (case k3 => k_asm); (case k4 => k_asm); (case k5 => k_asm); (case kK => first | exact rfl | assumption); (case p0 => first | assumption | omega); (case p1 => first | assumption | omega); (case p2 => first | assumption | omega); (case kd => ktr_room); (case ku => ktr_units); intro t9 h9 tk9 F9 N9; (try dsimp only); (try k_fold))))

section
variable (w : World) (loose : List Str) (mean : ExcName → Option Value) (mg mb : Str → Option Value)
set_option maxRecDepth 100000
set_option maxHeartbeats 8000000

theorem cl_to_j (y mo d : Int) (t1 t2 t3 : Tok) (h0 : -100000001000 ≤ y ∧ y ≤ 100000001000) (h1 : 1 ≤ mo ∧ mo ≤ 12) (h2 : 1 ≤ d ∧ d ≤ 31) (h3 : d ≤ (if mo = 2 then (if y % 4 = 0 then 29 else 28) else if mo = 4 ∨ mo = 6 ∨ mo = 9 ∨ mo = 11 then 30 else 31)) :
   Cl w loose mean mg mb 218 [.int y t1, .int mo t2, .int d t3] 4 32 (fun t => .float (D (128 * jnum y mo d + 64)) t) := by
  unfold Cl
  k_fill
  intro dp un gd cn cs a ccd cl outer A₀ base h₀ L m news s Q E B F X N T hk hdp hun hret
  refine wpAny_call ?_
  k_dflt (refine' code_def ?k1 ?k2 ?k3 ?k4 ?k5 ?kA ?kF ?kK ?k6 ?k7 ?k8 ?k9 ?kB ?_ ?c2 ?c3 ?c4 ?c5; (case kA => exact rfl); (case kF => exact rfl); (case kK => assumption); (case k1 => k_asm); (case k2 => k_asm); (case k3 => k_asm); (case k4 => k_asm); (case k5 => k_asm); (case k6 => k_is); (case k7 => k_is); (case k8 => ktr_room); (case k9 => first | exact BindsTo.of_eq rfl | exact binds_K (by k_in) rfl (by k_is) rfl rfl rfl); (case c5 => decide); (case kB => exact locs rfl); (case c2 => exact rfl); (case c3 => exact rfl); (case c4 => exact rfl); k_whole; intro g' L' h' FG' F' N' B' X' T'; (try dsimp only); (try k_lift B'); (try k_fold))
  k_steps
  all_goals first | (exfalso; omega) | (refine' retF hret ?e ?F ?N; (case F => k_asm); (case N => first | k_asm | exact cb_drop (by assumption) (by kcj_all)); (case e => (simp only [jnum]; (repeat' split) <;> omega)))

end
end

section
open PySem PySem.W PyProof.Rows PySem.Calls PySem.Flt

section
variable (w : World) (loose : List Str) (mean : ExcName → Option Value) (mg mb : Str → Option Value)
set_option maxRecDepth 100000
set_option maxHeartbeats 8000000

theorem cl_to_c (y mo d : Int) (t1 t2 t3 : Tok) (h0 : -100000001000 ≤ y ∧ y ≤ 100000001000) (h1 : 1 ≤ mo ∧ mo ≤ 13) (h2 : 1 ≤ d ∧ d ≤ 30) :
   Cl w loose mean mg mb 109 [.int y t1, .int mo t2, .int d t3] 3 24 (fun t => .float (D (128 * cnum y mo d + 64)) t) := by
  unfold Cl
  k_fill
  intro dp un gd cn cs a ccd cl outer A₀ base h₀ L m news s Q E B F X N T hk hdp hun hret
  refine wpAny_call ?_
  k_dflt (refine' code_def ?k1 ?k2 ?k3 ?k4 ?k5 ?kA ?kF ?kK ?k6 ?k7 ?k8 ?k9 ?kB ?_ ?c2 ?c3 ?c4 ?c5; (case kA => exact rfl); (case kF => exact rfl); (case kK => assumption); (case k1 => k_asm); (case k2 => k_asm); (case k3 => k_asm); (case k4 => k_asm); (case k5 => k_asm); (case k6 => k_is); (case k7 => k_is); (case k8 => ktr_room); (case k9 => first | exact BindsTo.of_eq rfl | exact binds_K (by k_in) rfl (by k_is) rfl rfl rfl); (case c5 => decide); (case kB => exact locs rfl); (case c2 => exact rfl); (case c3 => exact rfl); (case c4 => exact rfl); k_whole; intro g' L' h' FG' F' N' B' X' T'; (try dsimp only); (try k_lift B'); (try k_fold))
  k_steps
  all_goals first | (exfalso; omega) | (refine' retF hret ?e ?F ?N; (case F => k_asm); (case N => first | k_asm | exact cb_drop (by assumption) (by kcj_all)); (case e => (simp only [cnum]; omega)))

theorem cl_to_h (y mo d : Int) (t1 t2 t3 : Tok) (h0 : -100000001000 ≤ y ∧ y ≤ 100000001000) (h1 : 1 ≤ mo ∧ mo ≤ 12) (h2 : 1 ≤ d ∧ d ≤ 30) :
   Cl w loose mean mg mb 175 [.int y t1, .int mo t2, .int d t3] 3 24 (fun t => .float (D (128 * hnum y mo d + 64)) t) := by
  unfold Cl
  k_fill
  intro dp un gd cn cs a ccd cl outer A₀ base h₀ L m news s Q E B F X N T hk hdp hun hret
  refine wpAny_call ?_
  k_dflt (refine' code_def ?k1 ?k2 ?k3 ?k4 ?k5 ?kA ?kF ?kK ?k6 ?k7 ?k8 ?k9 ?kB ?_ ?c2 ?c3 ?c4 ?c5; (case kA => exact rfl); (case kF => exact rfl); (case kK => assumption); (case k1 => k_asm); (case k2 => k_asm); (case k3 => k_asm); (case k4 => k_asm); (case k5 => k_asm); (case k6 => k_is); (case k7 => k_is); (case k8 => ktr_room); (case k9 => first | exact BindsTo.of_eq rfl | exact binds_K (by k_in) rfl (by k_is) rfl rfl rfl); (case c5 => decide); (case kB => exact locs rfl); (case c2 => exact rfl); (case c3 => exact rfl); (case c4 => exact rfl); k_whole; intro g' L' h' FG' F' N' B' X' T'; (try dsimp only); (try k_lift B'); (try k_fold))
  k_steps
  all_goals first | (exfalso; omega) | (refine' retF hret ?e ?F ?N; (case F => k_asm); (case N => first | k_asm | exact cb_drop (by assumption) (by kcj_all)); (case e => (simp only [hnum]; omega)))

end
end

section
open PySem PySem.W PyProof.Rows PySem.Calls PySem.Flt

section
variable (w : World) (loose : List Str) (mean : ExcName → Option Value) (mg mb : Str → Option Value)
set_option maxRecDepth 100000
set_option maxHeartbeats 8000000

theorem cl_leap_a (y : Int) (t : Tok) (h : 533 ≤ y) : Cl w loose mean mg mb 86 [.int y t] 1 8 (fun _ => .bool (y % 4 == 0)) := by
  unfold Cl
  k_fill
  intro dp un gd cn cs a ccd cl outer A₀ base h₀ L m news s Q E B F X N T hk hdp hun hret
  refine wpAny_call ?_
  k_dflt (refine' code_def ?k1 ?k2 ?k3 ?k4 ?k5 ?kA ?kF ?kK ?k6 ?k7 ?k8 ?k9 ?kB ?_ ?c2 ?c3 ?c4 ?c5; (case kA => exact rfl); (case kF => exact rfl); (case kK => assumption); (case k1 => k_asm); (case k2 => k_asm); (case k3 => k_asm); (case k4 => k_asm); (case k5 => k_asm); (case k6 => k_is); (case k7 => k_is); (case k8 => ktr_room); (case k9 => first | exact BindsTo.of_eq rfl | exact binds_K (by k_in) rfl (by k_is) rfl rfl rfl); (case c5 => decide); (case kB => exact locs rfl); (case c2 => exact rfl); (case c3 => exact rfl); (case c4 => exact rfl); k_whole; intro g' L' h' FG' F' N' B' X' T'; (try dsimp only); (try k_lift B'); (try k_fold))
  k_steps
  all_goals cb_end hret

end
local macro_rules | `(tactic| walk_at "call ref") => `(tactic| (k_here; (with_reducible show wpAny _ _ (call (Value.ref 86) _) _ _ _); k_dflt (refine' Cl.use (cl_leap_a _ _ _ _ _ _ _ ?p0) ?k1 ?k2 ?k3 ?k4 ?k5 ?kK ?kd ?ku ?_; (case k1 => k_asm); (case k2 => k_asm); (case k3 => k_asm); (case k4 => k_asm); (case k5 => k_asm); (case kK => first | exact rfl | assumption); (case p0 => omega); (case kd => ktr_room); (case ku => ktr_units); intro t9 h9 tk9 F9 N9; (try dsimp only); (try k_fold))))

section
variable (w : World) (loose : List Str) (mean : ExcName → Option Value) (mg mb : Str → Option Value)
set_option maxRecDepth 100000
set_option maxHeartbeats 8000000

theorem cl_valid_a (y mo d : Int) (t1 t2 t3 : Tok) (h0 : 1 ≤ y) (h1 : 1 ≤ mo ∧ mo ≤ 13) (h2 : 1 ≤ d ∧ d ≤ 30) (h3 : mo = 13 → d ≤ 5) :
   Cl w loose mean mg mb 79 [.int y t1, .int mo t2, .int d t3, .none] 2 16 (fun _ => .bool true) := by
  unfold Cl
  k_fill
  intro dp un gd cn cs a ccd cl outer A₀ base h₀ L m news s Q E B F X N T hk hdp hun hret
  refine wpAny_call ?_
  k_dflt (refine' code_def ?k1 ?k2 ?k3 ?k4 ?k5 ?kA ?kF ?kK ?k6 ?k7 ?k8 ?k9 ?kB ?_ ?c2 ?c3 ?c4 ?c5; (case kA => exact rfl); (case kF => exact rfl); (case kK => assumption); (case k1 => k_asm); (case k2 => k_asm); (case k3 => k_asm); (case k4 => k_asm); (case k5 => k_asm); (case k6 => k_is); (case k7 => k_is); (case k8 => ktr_room); (case k9 => first | exact BindsTo.of_eq rfl | exact binds_K (by k_in) rfl (by k_is) rfl rfl rfl); (case c5 => decide); (case kB => exact locs rfl); (case c2 => exact rfl); (case c3 => exact rfl); (case c4 => exact rfl); k_whole; intro g' L' h' FG' F' N' B' X' T'; (try dsimp only); (try k_lift B'); (try k_fold))
  k_steps
  all_goals cb_end hret

theorem cl_valid_s (y mo d : Int) (t1 t2 t3 t4 : Tok) (h0 : 533 ≤ y) (h1 : 1 ≤ mo ∧ mo ≤ 13) (h2 : 1 ≤ d ∧ d ≤ 30) (h3 : mo = 13 → d ≤ 6) (h4 : mo = 13 → d = 6 → y % 4 = 0) :
   Cl w loose mean mg mb 79 [.int y t1, .int mo t2, .int d t3, .str (Str.ofString "sarkawag") t4] 2 16 (fun _ => .bool true) := by
  unfold Cl
  k_fill
  intro dp un gd cn cs a ccd cl outer A₀ base h₀ L m news s Q E B F X N T hk hdp hun hret
  refine wpAny_call ?_
  k_dflt (refine' code_def ?k1 ?k2 ?k3 ?k4 ?k5 ?kA ?kF ?kK ?k6 ?k7 ?k8 ?k9 ?kB ?_ ?c2 ?c3 ?c4 ?c5; (case kA => exact rfl); (case kF => exact rfl); (case kK => assumption); (case k1 => k_asm); (case k2 => k_asm); (case k3 => k_asm); (case k4 => k_asm); (case k5 => k_asm); (case k6 => k_is); (case k7 => k_is); (case k8 => ktr_room); (case k9 => first | exact BindsTo.of_eq rfl | exact binds_K (by k_in) rfl (by k_is) rfl rfl rfl); (case c5 => decide); (case kB => exact locs rfl); (case c2 => exact rfl); (case c3 => exact rfl); (case c4 => exact rfl); k_whole; intro g' L' h' FG' F' N' B' X' T'; (try dsimp only); (try k_lift B'); (try k_fold))
  k_steps
  all_goals cb_end hret

end
end

section
local macro_rules | `(tactic| walk_at "no such step") => `(tactic| fail)
local macro_rules | `(tactic| walk_at "no such step") => `(tactic| fail)
local macro_rules | `(tactic| walk_at "no such step") => `(tactic| fail)
local macro_rules | `(tactic| walk_at "no such step") => `(tactic| fail)
local macro_rules | `(tactic| walk_at "no such step") => `(tactic| fail)
local macro_rules | `(tactic| walk_at "no such step") => `(tactic| fail)
local macro_rules | `(tactic| walk_at "no such step") => `(tactic| fail)
local macro_rules | `(tactic| walk_at "no such step") => `(tactic| fail)
local macro_rules | `(tactic| walk_at "no such step") => `(tactic| fail)
local macro_rules | `(tactic| walk_at "no such step") => `(tactic| fail)
local macro_rules | `(tactic| walk_at "no such step") => `(tactic| fail)
local macro_rules | `(tactic| walk_at "no such step") => `(tactic| fail)
local macro_rules | `(tactic| walk_at "no such step") => `(tactic| fail)
local macro_rules | `(tactic| walk_at "no such step") => `(tactic| fail)
local macro_rules | `(tactic| walk_at "no such step") => `(tactic| fail)
local macro_rules | `(tactic| walk_at "no such step") => `(tactic| fail)
local macro_rules | `(tactic| walk_at "no such step") => `(tactic| fail)
local macro_rules | `(tactic| walk_at "no such step") => `(tactic| fail)
local macro_rules | `(tactic| walk_at "no such step") => `(tactic| fail)
local macro_rules | `(tactic| walk_at "no such step") => `(tactic| fail)
local macro_rules | `(tactic| walk_at "no such step") => `(tactic| fail)
local macro_rules | `(tactic| walk_at "no such step") => `(tactic| fail)
local macro_rules | `(tactic| walk_at "no such step") => `(tactic| fail)
local macro_rules | `(tactic| walk_at "no such step") => `(tactic| fail)
open PySem PySem.W PyProof.Rows PySem.Calls PySem.Flt

local macro_rules | `(tactic| walk_at "call ref") => `(tactic| (k_here; (with_reducible show wpAny _ _ (call (Value.ref 79) _) _ _ _); k_dflt (refine' Cl.use (cl_valid_a _ _ _ _ _ _ _ _ _ _ _ ?p0 ?p1 ?p2 ?p3) ?k1 ?k2 ?k3 ?k4 ?k5 ?kK ?kd ?ku ?_; (case k1 => k_asm); (case k2 => k_asm); (case k3 => k_asm); (case k4 => k_asm); (case k5 => k_asm); (case kK => first | exact rfl | assumption); (case p0 => omega); (case p1 => omega); (case p2 => omega); (case p3 => omega); (case kd => ktr_room); (case ku => ktr_units); intro t9 h9 tk9 F9 N9; (try dsimp only); (try k_fold))))

local macro_rules | `(tactic| walk_at "call ref") => `(tactic| (k_here; (with_reducible show wpAny _ _ (call (Value.ref 79) _) _ _ _); k_dflt (refine' Cl.use (cl_valid_s _ _ _ _ _ _ _ _ _ _ _ _ ?p0 ?p1 ?p2 ?p3 ?p4) ?k1 ?k2 ?k3 ?k4 ?k5 ?kK ?kd ?ku ?_; (case k1 => k_asm); (case k2 => k_asm); (case k3 => k_asm); (case k4 => k_asm); (case k5 => k_asm); (case kK => first | exact rfl | assumption); (case p0 => omega); (case p1 => omega); (case p2 => omega); (case p3 => omega); (case p4 => omega); (case kd => ktr_room); (case ku => ktr_units); intro t9 h9 tk9 F9 N9; (try dsimp only); (try k_fold))))

section
variable (w : World) (loose : List Str) (mean : ExcName → Option Value) (mg mb : Str → Option Value)
set_option maxRecDepth 100000
set_option maxHeartbeats 8000000

theorem cl_to_a (y mo d : Int) (t1 t2 t3 : Tok) (h00 : y ≤ 100000001000) (h0 : 1 ≤ y) (h1 : 1 ≤ mo ∧ mo ≤ 13) (h2 : 1 ≤ d ∧ d ≤ 30) (h3 : mo = 13 → d ≤ 5) :
   Cl w loose mean mg mb 94 [.int y t1, .int mo t2, .int d t3] 4 32 (fun t => .float (D (128 * anum y mo d + 64)) t) := by
  unfold Cl
  k_fill
  intro dp un gd cn cs a ccd cl outer A₀ base h₀ L m news s Q E B F X N T hk hdp hun hret
  refine wpAny_call ?_
  k_dflt (refine' code_def ?k1 ?k2 ?k3 ?k4 ?k5 ?kA ?kF ?kK ?k6 ?k7 ?k8 ?k9 ?kB ?_ ?c2 ?c3 ?c4 ?c5; (case kA => exact rfl); (case kF => exact rfl); (case kK => assumption); (case k1 => k_asm); (case k2 => k_asm); (case k3 => k_asm); (case k4 => k_asm); (case k5 => k_asm); (case k6 => k_is); (case k7 => k_is); (case k8 => ktr_room); (case k9 => first | exact BindsTo.of_eq rfl | exact binds_K (by k_in) rfl (by k_is) rfl rfl rfl); (case c5 => decide); (case kB => exact locs rfl); (case c2 => exact rfl); (case c3 => exact rfl); (case c4 => exact rfl); k_whole; intro g' L' h' FG' F' N' B' X' T'; (try dsimp only); (try k_lift B'); (try k_fold))
  k_steps
  all_goals first | (exfalso; omega) | (refine' retF hret ?e ?F ?N; (case F => k_asm); (case N => first | k_asm | exact cb_drop (by assumption) (by kcj_all)); (case e => (simp only [anum]; omega)))

theorem cl_to_s (y mo d : Int) (t1 t2 t3 t4 : Tok) (h00 : y ≤ 100000001000) (h0 : 533 ≤ y) (h1 : 1 ≤ mo ∧ mo ≤ 13) (h2 : 1 ≤ d ∧ d ≤ 30) (h3 : mo = 13 → d ≤ 6) (h4 : mo = 13 → d = 6 → y % 4 = 0) :
   Cl w loose mean mg mb 94 [.int y t1, .int mo t2, .int d t3, .str (Str.ofString "sarkawag") t4] 4 32 (fun t => .float (D (128 * snum y mo d + 64)) t) := by
  unfold Cl
  k_fill
  intro dp un gd cn cs a ccd cl outer A₀ base h₀ L m news s Q E B F X N T hk hdp hun hret
  refine wpAny_call ?_
  k_dflt (refine' code_def ?k1 ?k2 ?k3 ?k4 ?k5 ?kA ?kF ?kK ?k6 ?k7 ?k8 ?k9 ?kB ?_ ?c2 ?c3 ?c4 ?c5; (case kA => exact rfl); (case kF => exact rfl); (case kK => assumption); (case k1 => k_asm); (case k2 => k_asm); (case k3 => k_asm); (case k4 => k_asm); (case k5 => k_asm); (case k6 => k_is); (case k7 => k_is); (case k8 => ktr_room); (case k9 => first | exact BindsTo.of_eq rfl | exact binds_K (by k_in) rfl (by k_is) rfl rfl rfl); (case c5 => decide); (case kB => exact locs rfl); (case c2 => exact rfl); (case c3 => exact rfl); (case c4 => exact rfl); k_whole; intro g' L' h' FG' F' N' B' X' T'; (try dsimp only); (try k_lift B'); (try k_fold))
  k_steps
  all_goals first | (exfalso; omega) | (refine' retF hret ?e ?F ?N; (case F => k_asm); (case N => first | k_asm | exact cb_drop (by assumption) (by kcj_all)); (case e => (simp only [snum]; omega)))

end
end

section
open PySem PySem.W PyProof.Rows PySem.Calls PySem.Flt

section
variable (w : World) (loose : List Str) (mean : ExcName → Option Value) (mg mb : Str → Option Value)
set_option maxRecDepth 100000
set_option maxHeartbeats 8000000

theorem cl_sch_f (y mo d : Int) (t1 t2 t3 t4 : Tok) (h00 : y ≤ 100000001000) (h0 : 1 ≤ y) (h1 : 1 ≤ mo ∧ mo ≤ 13) (h2 : 1 ≤ d ∧ d ≤ 30) :
   Cl w loose mean mg mb 139 [.int y t1, .int mo t2, .int d t3, .int 4 t4] 4 32 (fun t => .float (D (128 * fnum y mo d + 64)) t) := by
  unfold Cl
  k_fill
  intro dp un gd cn cs a ccd cl outer A₀ base h₀ L m news s Q E B F X N T hk hdp hun hret
  refine wpAny_call ?_
  k_dflt (refine' code_def ?k1 ?k2 ?k3 ?k4 ?k5 ?kA ?kF ?kK ?k6 ?k7 ?k8 ?k9 ?kB ?_ ?c2 ?c3 ?c4 ?c5; (case kA => exact rfl); (case kF => exact rfl); (case kK => assumption); (case k1 => k_asm); (case k2 => k_asm); (case k3 => k_asm); (case k4 => k_asm); (case k5 => k_asm); (case k6 => k_is); (case k7 => k_is); (case k8 => ktr_room); (case k9 => first | exact BindsTo.of_eq rfl | exact binds_K (by k_in) rfl (by k_is) rfl rfl rfl); (case c5 => decide); (case kB => exact locs rfl); (case c2 => exact rfl); (case c3 => exact rfl); (case c4 => exact rfl); k_whole; intro g' L' h' FG' F' N' B' X' T'; (try dsimp only); (try k_lift B'); (try k_fold))
  k_steps
  all_goals first | (exfalso; omega) | (refine' retF hret ?e ?F ?N; (case F => k_asm); (case N => first | k_asm | exact cb_drop (by assumption) (by kcj_all)); (case e => (simp only [fnum]; omega)))

end
local macro_rules | `(tactic| walk_at "call ref") => `(tactic| (k_here; (with_reducible show wpAny _ _ (call (Value.ref 124) _ _) _ _ _); refine wpAny_call ?_; k_dflt (refine' code_def ?k1 ?k2 ?k3 ?k4 ?k5 ?kA ?kF ?kK ?k6 ?k7 ?k8 ?k9 ?kB ?_ ?c2 ?c3 ?c4 ?c5; (case kA => exact rfl); (case kF => exact rfl); (case kK => first | exact rfl | assumption); (case k1 => k_asm); (case k2 => k_asm); (case k3 => k_asm); (case k4 => k_asm); (case k5 => k_asm); (case k6 => k_is); (case k7 => k_is); (case k8 => ktr_room); (case k9 => first | exact BindsTo.of_eq rfl | exact binds_K (by k_in) rfl (by k_is) rfl rfl rfl); (case c5 => decide); (case kB => exact locs rfl); (case c2 => exact rfl); (case c3 => exact rfl); (case c4 => exact rfl); k_whole; intro g' L' h' FG' F' N' B' X' T'; (try dsimp only); (try k_lift B'); (try k_fold))))

local macro_rules | `(tactic| walk_at "call ref") => `(tactic| (k_here; (with_reducible show wpAny _ _ (call (Value.ref 139) _) _ _ _); k_dflt (refine' Cl.use (cl_sch_f _ _ _ _ _ _ _ _ _ _ _ _ ?p0 ?p1 ?p2 ?p3) ?k1 ?k2 ?k3 ?k4 ?k5 ?kK ?kd ?ku ?_; (case k1 => k_asm); (case k2 => k_asm); (case k3 => k_asm); (case k4 => k_asm); (case k5 => k_asm); (case kK => first | exact rfl | assumption); (case p0 => omega); (case p1 => omega); (case p2 => omega); (case p3 => omega); (case kd => ktr_room); (case ku => ktr_units); intro t9 h9 tk9 F9 N9; (try dsimp only); (try k_fold))))

section
variable (w : World) (loose : List Str) (mean : ExcName → Option Value) (mg mb : Str → Option Value)
set_option maxRecDepth 100000
set_option maxHeartbeats 8000000

theorem cl_to_f (y mo d : Int) (t1 t2 t3 t4 : Tok) (h00 : y ≤ 100000001000) (h0 : 1 ≤ y) (h1 : 1 ≤ mo ∧ mo ≤ 13) (h2 : 1 ≤ d ∧ d ≤ 30) (h3 : mo = 13 → d ≤ 6) (h4 : mo = 13 → d = 6 → y % 4 = 3) :
   Cl w loose mean mg mb 132 [.int y t1, .int mo t2, .int d t3, .int 4 t4] 6 48 (fun t => .float (D (128 * fnum y mo d + 64)) t) := by
  unfold Cl
  k_fill
  intro dp un gd cn cs a ccd cl outer A₀ base h₀ L m news s Q E B F X N T hk hdp hun hret
  refine wpAny_call ?_
  k_dflt (refine' code_def ?k1 ?k2 ?k3 ?k4 ?k5 ?kA ?kF ?kK ?k6 ?k7 ?k8 ?k9 ?kB ?_ ?c2 ?c3 ?c4 ?c5; (case kA => exact rfl); (case kF => exact rfl); (case kK => assumption); (case k1 => k_asm); (case k2 => k_asm); (case k3 => k_asm); (case k4 => k_asm); (case k5 => k_asm); (case k6 => k_is); (case k7 => k_is); (case k8 => ktr_room); (case k9 => first | exact BindsTo.of_eq rfl | exact binds_K (by k_in) rfl (by k_is) rfl rfl rfl); (case c5 => decide); (case kB => exact locs rfl); (case c2 => exact rfl); (case c3 => exact rfl); (case c4 => exact rfl); k_whole; intro g' L' h' FG' F' N' B' X' T'; (try dsimp only); (try k_lift B'); (try k_fold))
  k_steps
  all_goals first | (exfalso; omega) | (refine' retF hret ?e ?F ?N; (case F => k_asm); (case N => first | k_asm | exact cb_drop (by assumption) (by kcj_all)); (case e => (rfl)))

end
end

section
local macro_rules | `(tactic| walk_at "no such step") => `(tactic| fail)
local macro_rules | `(tactic| walk_at "no such step") => `(tactic| fail)
local macro_rules | `(tactic| walk_at "no such step") => `(tactic| fail)
local macro_rules | `(tactic| walk_at "no such step") => `(tactic| fail)
local macro_rules | `(tactic| walk_at "no such step") => `(tactic| fail)
local macro_rules | `(tactic| walk_at "no such step") => `(tactic| fail)
local macro_rules | `(tactic| walk_at "no such step") => `(tactic| fail)
local macro_rules | `(tactic| walk_at "no such step") => `(tactic| fail)
local macro_rules | `(tactic| walk_at "no such step") => `(tactic| fail)
local macro_rules | `(tactic| walk_at "no such step") => `(tactic| fail)
local macro_rules | `(tactic| walk_at "no such step") => `(tactic| fail)
local macro_rules | `(tactic| walk_at "no such step") => `(tactic| fail)
local macro_rules | `(tactic| walk_at "no such step") => `(tactic| fail)
local macro_rules | `(tactic| walk_at "no such step") => `(tactic| fail)
local macro_rules | `(tactic| walk_at "no such step") => `(tactic| fail)
local macro_rules | `(tactic| walk_at "no such step") => `(tactic| fail)
local macro_rules | `(tactic| walk_at "no such step") => `(tactic| fail)
local macro_rules | `(tactic| walk_at "no such step") => `(tactic| fail)
local macro_rules | `(tactic| walk_at "no such step") => `(tactic| fail)
local macro_rules | `(tactic| walk_at "no such step") => `(tactic| fail)
local macro_rules | `(tactic| walk_at "no such step") => `(tactic| fail)
local macro_rules | `(tactic| walk_at "no such step") => `(tactic| fail)
local macro_rules | `(tactic| walk_at "no such step") => `(tactic| fail)
local macro_rules | `(tactic| walk_at "no such step") => `(tactic| fail)
open PySem PySem.W PyProof.Rows PySem.Calls PySem.Flt

local macro_rules | `(tactic| walk_at "call ref") => `(tactic| (k_here; (with_reducible show wpAny _ _ (call (Value.ref 50) _) _ _ _); k_dflt (refine' Cl.use (cl_isleap _ _ _ _ _ _ _ ) ?k1 ?k2 ?k3 ?k4 ?k5 ?kK ?kd ?ku ?_; (case k1 => k_asm); (case k2 => k_asm); (case k3 => k_asm); (case k4 => k_asm); (case k5 => k_asm); (case kK => first | exact rfl | assumption); (case kd => ktr_room); (case ku => ktr_units); intro t9 h9 tk9 F9 N9; (try dsimp only); (try k_fold))))

section
variable (w : World) (loose : List Str) (mean : ExcName → Option Value) (mg mb : Str → Option Value)
set_option maxRecDepth 100000
set_option maxHeartbeats 8000000

theorem cn_gi (y mo d : Int) (t1 t2 t3 : Tok) (h0 : -100000001000 ≤ y ∧ y ≤ 100000001000) (h1 : 1 ≤ mo ∧ mo ≤ 12) (h2 : 1 ≤ d ∧ d ≤ 31) (h3 : mo = 4 ∨ mo = 6 ∨ mo = 9 ∨ mo = 11 → d ≤ 30) (h4 : mo = 2 → d ≤ 29) (h5 : mo = 2 → d = 29 → y % 4 = 0 ∧ (y % 100 ≠ 0 ∨ y % 400 = 0)) :
   CN w loose mean mg mb 64 [.int y t1, .int mo t2, .int d t3] 3 24 (GFact y mo d) := CN.of (cl_to_g w loose mean mg mb y mo d t1 t2 t3 h0 h1 h2 h3 h4 h5) (gfact h0 h1 h2)
end
local macro_rules | `(tactic| walk_at "call ref") => `(tactic| (k_here; (with_reducible show wpAny _ _ (call (Value.ref 64) _) _ _ _); k_dflt (refine' CN.use (cn_gi _ _ _ _ _ _ _ _ _ _ _ ?p0 ?p1 ?p2 ?p3 ?p4 ?p5) ?k1 ?k2 ?k3 ?k4 ?k5 ?kK ?kd ?ku ?_; (case k1 => k_asm); (case k2 => k_asm); (case k3 => k_asm); (case k4 => k_asm); (case k5 => k_asm); (case kK => first | exact rfl | assumption); (case p0 => omega); (case p1 => omega); (case p2 => omega); (case p3 => omega); (case p4 => omega); (case p5 => omega); (case kd => ktr_room); (case ku => ktr_units); intro N9 P9 t9 h9 tk9 F9 N9; (try dsimp only); (try k_fold))))

theorem i_end {y mo d c n : Int} (P : GFact (y + 78) 3 c n) (hc : (Lp (y + 78) → c = 22 - 1) ∧ (¬ Lp (y + 78) → c = 22)) :
    inum y mo d = n + (if mo = 1 then 0 else (if Lp (y + 78) then 31 else 30) + (if mo ≤ 7 then (mo - 2) * 31 else 155 + (mo - 7) * 30)) + d - 1 := by
  unfold inum
  rw [P.1]
  by_cases hl : Lp (y + 78)
  · rw [if_pos hl, if_pos hl, hc.1 hl]; rfl
  · rw [if_neg hl, if_neg hl, hc.2 hl]
section
variable (w : World) (loose : List Str) (mean : ExcName → Option Value) (mg mb : Str → Option Value)
set_option maxRecDepth 100000
set_option maxHeartbeats 8000000

theorem cl_to_i (y mo d : Int) (t1 t2 t3 : Tok) (h0 : -100000000100 ≤ y ∧ y ≤ 100000000100) (h1 : 1 ≤ mo ∧ mo ≤ 12) (h2 : 1 ≤ d ∧ d ≤ 31) :
   Cl w loose mean mg mb 161 [.int y t1, .int mo t2, .int d t3] 6 48 (fun t => .float (D (128 * inum y mo d + 64)) t) := by
  unfold Cl
  k_fill
  intro dp un gd cn cs a ccd cl outer A₀ base h₀ L m news s Q E B F X N T hk hdp hun hret
  refine wpAny_call ?_
  k_dflt (refine' code_def ?k1 ?k2 ?k3 ?k4 ?k5 ?kA ?kF ?kK ?k6 ?k7 ?k8 ?k9 ?kB ?_ ?c2 ?c3 ?c4 ?c5; (case kA => exact rfl); (case kF => exact rfl); (case kK => assumption); (case k1 => k_asm); (case k2 => k_asm); (case k3 => k_asm); (case k4 => k_asm); (case k5 => k_asm); (case k6 => k_is); (case k7 => k_is); (case k8 => ktr_room); (case k9 => first | exact BindsTo.of_eq rfl | exact binds_K (by k_in) rfl (by k_is) rfl rfl rfl); (case c5 => decide); (case kB => exact locs rfl); (case c2 => exact rfl); (case c3 => exact rfl); (case c4 => exact rfl); k_whole; intro g' L' h' FG' F' N' B' X' T'; (try dsimp only); (try k_lift B'); (try k_fold))
  k_steps
  all_goals ((with_reducible rename (_ → _) ∧ (_ → _) => hc); (with_reducible rename GFact _ _ _ _ => P); rw [i_end P hc] at hret)
  all_goals first | (exfalso; omega) | (refine' retF hret ?e ?F ?N; (case F => k_asm); (case N => first | k_asm | exact cb_drop (by assumption) (by kcj_all)); (case e => ((repeat' split) <;> omega)))

end
end

section
open PySem PySem.W PyProof.Rows PySem.Calls PySem.Flt

section
variable (w : World) (loose : List Str) (mean : ExcName → Option Value) (mg mb : Str → Option Value)
set_option maxRecDepth 100000
set_option maxHeartbeats 8000000

theorem cl_from_j (y mo d a : Int) (t : Tok) (h0 : -100000000900 ≤ y ∧ y ≤ 100000000900) (hL : LJ y mo d) (ha : 128 * jnum y mo d + 64 ≤ a ∧ a < 128 * jnum y mo d + 192) :
   CT w loose mean mg mb 211 [.float (D a) t] 5 40 y mo d := by
  have hm1 := hL.m1
  generalize hN : jnum y mo d = n at ha
  obtain ⟨jC, jR, jE, k1, k2, k3, k4, k5, k6, k7⟩ := j_facts hL hN
  have hb : -40000000000000 ≤ n ∧ n ≤ 40000000000000 := by omega
  unfold CT
  k_fill
  intro dp un gd cn cs a ccd cl outer A₀ base h₀ L m news s Q E B F X N T hk hdp hun hret
  refine wpAny_call ?_
  k_dflt (refine' code_def ?k1 ?k2 ?k3 ?k4 ?k5 ?kA ?kF ?kK ?k6 ?k7 ?k8 ?k9 ?kB ?_ ?c2 ?c3 ?c4 ?c5; (case kA => exact rfl); (case kF => exact rfl); (case kK => assumption); (case k1 => k_asm); (case k2 => k_asm); (case k3 => k_asm); (case k4 => k_asm); (case k5 => k_asm); (case k6 => k_is); (case k7 => k_is); (case k8 => ktr_room); (case k9 => first | exact BindsTo.of_eq rfl | exact binds_K (by k_in) rfl (by k_is) rfl rfl rfl); (case c5 => decide); (case kB => exact locs rfl); (case c2 => exact rfl); (case c3 => exact rfl); (case c4 => exact rfl); k_whole; intro g' L' h' FG' F' N' B' X' T'; (try dsimp only); (try k_lift B'); (try k_fold))
  k_steps
  

  all_goals (
    (with_reducible rename _ = (_ + 64) / 128 => e1)
    (with_reducible rename _ = _ / 7305 => e2)
    (with_reducible rename _ = _ / 128 => e3)
    (with_reducible rename _ = _ / 306001 => e4)
    (with_reducible rename _ = _ / 10000 => e5)
    have f1 := e1.trans (show _ = n + 1 by omega)
    have f2 := e2.trans (show _ = jC by omega)
    rw [f2] at e3
    have f4 := e4.trans (show _ = jE by omega)
    rw [f4] at e5
    clear e1 e2 e4 k1 k4
    (with_reducible refine retT hret (by assumption) (by assumption) ?_ ?_ ?_) <;> omega)
end
end

section
open PySem PySem.W PyProof.Rows PySem.Calls PySem.Flt

local macro_rules | `(tactic| walk_at "call ref") => `(tactic| (k_here; (with_reducible show wpAny _ _ (call (Value.ref 109) _) _ _ _); refine stop_here ?_))

section
variable (w : World) (loose : List Str) (mean : ExcName → Option Value) (mg mb : Str → Option Value)
set_option maxRecDepth 100000
set_option maxHeartbeats 8000000

theorem cn_c (y mo d : Int) (t1 t2 t3 : Tok) (h0 : -100000001000 ≤ y ∧ y ≤ 100000001000) (h1 : 1 ≤ mo ∧ mo ≤ 13) (h2 : 1 ≤ d ∧ d ≤ 30) :
   CN w loose mean mg mb 109 [.int y t1, .int mo t2, .int d t3] 3 24 (fun N => N = d + (mo - 1) * 30 + (y - 1) * 365 + y / 4 + 1825028) := CN.of (cl_to_c w loose mean mg mb y mo d t1 t2 t3 h0 h1 h2) rfl
theorem cl_from_c (y mo d a : Int) (t : Tok) (h0 : -100000000900 ≤ y ∧ y ≤ 100000000900) (hL : LC y mo d) (ha : 128 * cnum y mo d + 64 ≤ a ∧ a < 128 * cnum y mo d + 192) :
   CT w loose mean mg mb 116 [.float (D a) t] 5 40 y mo d := by
  generalize hN : cnum y mo d = n at ha
  have hy := c_year hL hN
  have hn : d + (mo - 1) * 30 + (y - 1) * 365 + y / 4 + 1825028 = n := hN
  obtain ⟨l1, l2, l3, l4⟩ := hL
  unfold CT
  k_fill
  intro dp un gd cn cs a ccd cl outer A₀ base h₀ L m news s Q E B F X N T hk hdp hun hret
  refine wpAny_call ?_
  k_dflt (refine' code_def ?k1 ?k2 ?k3 ?k4 ?k5 ?kA ?kF ?kK ?k6 ?k7 ?k8 ?k9 ?kB ?_ ?c2 ?c3 ?c4 ?c5; (case kA => exact rfl); (case kF => exact rfl); (case kK => assumption); (case k1 => k_asm); (case k2 => k_asm); (case k3 => k_asm); (case k4 => k_asm); (case k5 => k_asm); (case k6 => k_is); (case k7 => k_is); (case k8 => ktr_room); (case k9 => first | exact BindsTo.of_eq rfl | exact binds_K (by k_in) rfl (by k_is) rfl rfl rfl); (case c5 => decide); (case kB => exact locs rfl); (case c2 => exact rfl); (case c3 => exact rfl); (case c4 => exact rfl); k_whole; intro g' L' h' FG' F' N' B' X' T'; (try dsimp only); (try k_lift B'); (try k_fold))
  k_steps
  

  · (with_reducible rename _ = _ / 1461 => e1)
    have hY := e1.trans (show _ = y by omega)
    subst hY
    refine stop_go ?_; k_dflt (refine' CN.use (cn_c _ _ _ _ _ _ _ _ _ _ _ ?p0n1 ?p1n1 ?p2n1) ?k1n1 ?k2n1 ?k3n1 ?k4n1 ?k5n1 ?kKn1 ?kdn1 ?kun1 ?_; (case k1n1 => k_asm); (case k2n1 => k_asm); (case k3n1 => k_asm); (case k4n1 => k_asm); (case k5n1 => k_asm); (case kKn1 => first | exact rfl | assumption); (case p0n1 => omega); (case p1n1 => omega); (case p2n1 => omega); (case kdn1 => ktr_room); (case kun1 => ktr_units); intro n9 P9 t9 h9 tk9 F9 N9; (try dsimp only); (try k_fold))
    k_steps
    all_goals ((with_reducible refine retT hret (by assumption) (by assumption) ?_ ?_ ?_) <;> first | rfl | omega)
end
end

section
open PySem PySem.W PyProof.Rows PySem.Calls PySem.Flt

theorem s_quot {y mo d a : Int} (hL : LS y mo d) (ha : a = 128 * snum y mo d + 64) : (mo = 13 ∧ d = 6 ∧ (a - 271002944) / 46752 = y - 532) ∨ (¬ (mo = 13 ∧ d = 6) ∧ (a - 271002944) / 46752 = y - 533) := by
  obtain ⟨l0, l1, l2, l3, l4⟩ := hL
  unfold snum at ha
  omega
section
variable (w : World) (loose : List Str) (mean : ExcName → Option Value) (mg mb : Str → Option Value)
set_option maxRecDepth 100000
set_option maxHeartbeats 8000000

theorem cl_from_a (y mo d ja : Int) (t : Tok) (h0 : y ≤ 100000000900) (hL : LA y mo d) (ha : 128 * anum y mo d + 64 ≤ ja ∧ ja < 128 * anum y mo d + 192) :
   CT w loose mean mg mb 102 [.float (D ja) t] 5 40 y mo d := by
  generalize hN : anum y mo d = n at ha
  have hn : 1922501 + 365 * y + (mo - 1) * 30 + d = n := hN
  obtain ⟨l0, l1, l2, l3⟩ := hL
  unfold CT
  k_fill
  intro dp un gd cn cs a ccd cl outer A₀ base h₀ L m news s Q E B F X N T hk hdp hun hret
  refine wpAny_call ?_
  k_dflt (refine' code_def ?k1 ?k2 ?k3 ?k4 ?k5 ?kA ?kF ?kK ?k6 ?k7 ?k8 ?k9 ?kB ?_ ?c2 ?c3 ?c4 ?c5; (case kA => exact rfl); (case kF => exact rfl); (case kK => assumption); (case k1 => k_asm); (case k2 => k_asm); (case k3 => k_asm); (case k4 => k_asm); (case k5 => k_asm); (case k6 => k_is); (case k7 => k_is); (case k8 => ktr_room); (case k9 => first | exact BindsTo.of_eq rfl | exact binds_K (by k_in) rfl (by k_is) rfl rfl rfl); (case c5 => decide); (case kB => exact locs rfl); (case c2 => exact rfl); (case c3 => exact rfl); (case c4 => exact rfl); k_whole; intro g' L' h' FG' F' N' B' X' T'; (try dsimp only); (try k_lift B'); (try k_fold))
  k_steps
  

  all_goals (
    (with_reducible rename _ = _ / (128 * 365) => e1)
    (with_reducible rename _ = _ % (128 * 365) => e2)
    have f1 := e1.trans (show _ = y by omega)
    have f2 : _ = ja - 246080192 - 128 * 1 - 46720 * y := e2.trans (by omega)
    clear e1 e2
    (with_reducible refine retT hret (by assumption) (by assumption) ?_ ?_ ?_) <;> omega)
theorem cl_from_s (y mo d a : Int) (t t2 : Tok) (h0 : y ≤ 100000000900) (hL : LS y mo d) (ha : a = 128 * snum y mo d + 64) :
   CT w loose mean mg mb 102 [.float (D a) t, .str (Str.ofString "sarkawag") t2] 5 40 y mo d := by
  have hq := s_quot hL ha
  generalize hN : snum y mo d = n at ha
  have hn : 2117210 + 365 * (y - 533) + (y - 533) / 4 + (mo - 1) * 30 + d = n := hN
  obtain ⟨l0, l1, l2, l3, l4⟩ := hL
  unfold CT
  k_fill
  intro dp un gd cn cs a ccd cl outer A₀ base h₀ L m news s Q E B F X N T hk hdp hun hret
  refine wpAny_call ?_
  k_dflt (refine' code_def ?k1 ?k2 ?k3 ?k4 ?k5 ?kA ?kF ?kK ?k6 ?k7 ?k8 ?k9 ?kB ?_ ?c2 ?c3 ?c4 ?c5; (case kA => exact rfl); (case kF => exact rfl); (case kK => assumption); (case k1 => k_asm); (case k2 => k_asm); (case k3 => k_asm); (case k4 => k_asm); (case k5 => k_asm); (case k6 => k_is); (case k7 => k_is); (case k8 => ktr_room); (case k9 => first | exact BindsTo.of_eq rfl | exact binds_K (by k_in) rfl (by k_is) rfl rfl rfl); (case c5 => decide); (case kB => exact locs rfl); (case c2 => exact rfl); (case c3 => exact rfl); (case c4 => exact rfl); k_whole; intro g' L' h' FG' F' N' B' X' T'; (try dsimp only); (try k_lift B'); (try k_fold))
  k_steps
  

  all_goals (
    (with_reducible rename _ = _ / 46752 => e1)
    (with_reducible rename _ = _ / 4 => e2)
    rcases hq with ⟨g1, g2, g3⟩ | ⟨g1, g3⟩
    · have f1 := e1.trans g3
      rw [f1] at e2
      first
      | (exfalso; omega)
      | ((with_reducible refine retT hret (by assumption) (by assumption) ?_ ?_ ?_) <;> omega)
    · have f1 := e1.trans g3
      rw [f1] at e2
      first
      | (exfalso; omega)
      | ((with_reducible refine retT hret (by assumption) (by assumption) ?_ ?_ ?_) <;> omega))
end
end

section
local macro_rules | `(tactic| walk_at "no such step") => `(tactic| fail)
local macro_rules | `(tactic| walk_at "no such step") => `(tactic| fail)
local macro_rules | `(tactic| walk_at "no such step") => `(tactic| fail)
local macro_rules | `(tactic| walk_at "no such step") => `(tactic| fail)
local macro_rules | `(tactic| walk_at "no such step") => `(tactic| fail)
local macro_rules | `(tactic| walk_at "no such step") => `(tactic| fail)
local macro_rules | `(tactic| walk_at "no such step") => `(tactic| fail)
local macro_rules | `(tactic| walk_at "no such step") => `(tactic| fail)
local macro_rules | `(tactic| walk_at "no such step") => `(tactic| fail)
local macro_rules | `(tactic| walk_at "no such step") => `(tactic| fail)
local macro_rules | `(tactic| walk_at "no such step") => `(tactic| fail)
local macro_rules | `(tactic| walk_at "no such step") => `(tactic| fail)
local macro_rules | `(tactic| walk_at "no such step") => `(tactic| fail)
local macro_rules | `(tactic| walk_at "no such step") => `(tactic| fail)
local macro_rules | `(tactic| walk_at "no such step") => `(tactic| fail)
local macro_rules | `(tactic| walk_at "no such step") => `(tactic| fail)
local macro_rules | `(tactic| walk_at "no such step") => `(tactic| fail)
local macro_rules | `(tactic| walk_at "no such step") => `(tactic| fail)
local macro_rules | `(tactic| walk_at "no such step") => `(tactic| fail)
local macro_rules | `(tactic| walk_at "no such step") => `(tactic| fail)
local macro_rules | `(tactic| walk_at "no such step") => `(tactic| fail)
local macro_rules | `(tactic| walk_at "no such step") => `(tactic| fail)
local macro_rules | `(tactic| walk_at "no such step") => `(tactic| fail)
local macro_rules | `(tactic| walk_at "no such step") => `(tactic| fail)
open PySem PySem.W PyProof.Rows PySem.Calls PySem.Flt

local macro_rules | `(tactic| walk_at "call ref") => `(tactic| (k_here; (with_reducible show wpAny _ _ (call (Value.ref 175) _) _ _ _); refine stop_here ?_))

section
variable (w : World) (loose : List Str) (mean : ExcName → Option Value) (mg mb : Str → Option Value)
set_option maxRecDepth 100000
set_option maxHeartbeats 8000000

theorem cn_h (y mo d : Int) (t1 t2 t3 : Tok) (h0 : -100000001000 ≤ y ∧ y ≤ 100000001000) (h1 : 1 ≤ mo ∧ mo ≤ 12) (h2 : 1 ≤ d ∧ d ≤ 30) :
   CN w loose mean mg mb 175 [.int y t1, .int mo t2, .int d t3] 3 24 (fun N => N = hnum y mo d ∧ N = d + (59 * (mo - 1) + 1) / 2 + (y - 1) * 354 + (3 + 11 * y) / 30 + 1948438) := CN.of (cl_to_h w loose mean mg mb y mo d t1 t2 t3 h0 h1 h2) ⟨rfl, rfl⟩
theorem cl_from_h (y mo d a : Int) (t : Tok) (h0 : -100000000900 ≤ y ∧ y ≤ 100000000900) (hL : LH y mo d) (ha : 128 * hnum y mo d + 64 ≤ a ∧ a < 128 * hnum y mo d + 128) :
   CT w loose mean mg mb 182 [.float (D a) t] 5 40 y mo d := by
  have hmon := h_mon hL rfl
  generalize hN : hnum y mo d = n at ha hmon
  have hy := h_year hL hN
  have hn : d + (59 * (mo - 1) + 1) / 2 + (y - 1) * 354 + (3 + 11 * y) / 30 + 1948438 = n := hN
  obtain ⟨l1, l2, l3, l4⟩ := hL
  unfold CT
  k_fill
  intro dp un gd cn cs a ccd cl outer A₀ base h₀ L m news s Q E B F X N T hk hdp hun hret
  refine wpAny_call ?_
  k_dflt (refine' code_def ?k1 ?k2 ?k3 ?k4 ?k5 ?kA ?kF ?kK ?k6 ?k7 ?k8 ?k9 ?kB ?_ ?c2 ?c3 ?c4 ?c5; (case kA => exact rfl); (case kF => exact rfl); (case kK => assumption); (case k1 => k_asm); (case k2 => k_asm); (case k3 => k_asm); (case k4 => k_asm); (case k5 => k_asm); (case k6 => k_is); (case k7 => k_is); (case k8 => ktr_room); (case k9 => first | exact BindsTo.of_eq rfl | exact binds_K (by k_in) rfl (by k_is) rfl rfl rfl); (case c5 => decide); (case kB => exact locs rfl); (case c2 => exact rfl); (case c3 => exact rfl); (case c4 => exact rfl); k_whole; intro g' L' h' FG' F' N' B' X' T'; (try dsimp only); (try k_lift B'); (try k_fold))
  k_steps
  

  · (with_reducible rename _ = _ / 10631 => e1)
    have hY := e1.trans (show _ = y by omega)
    subst hY
    refine stop_go ?_; k_dflt (refine' CN.use (cn_h _ _ _ _ _ _ _ _ _ _ _ ?p0n1 ?p1n1 ?p2n1) ?k1n1 ?k2n1 ?k3n1 ?k4n1 ?k5n1 ?kKn1 ?kdn1 ?kun1 ?_; (case k1n1 => k_asm); (case k2n1 => k_asm); (case k3n1 => k_asm); (case k4n1 => k_asm); (case k5n1 => k_asm); (case kKn1 => first | exact rfl | assumption); (case p0n1 => omega); (case p1n1 => omega); (case p2n1 => omega); (case kdn1 => ktr_room); (case kun1 => ktr_units); intro n9 P9 t9 h9 tk9 F9 N9; (try dsimp only); (try k_fold))
    rw [← P9.1] at hmon
    have hyd : 0 ≤ n - n9 ∧ n - n9 ≤ 355 := by omega
    k_steps
    (with_reducible rename _ = min _ _ => e2)
    have hM := e2.trans (show _ = mo by omega)
    subst hM
    refine stop_go ?_; k_dflt (refine' CN.use (cn_h _ _ _ _ _ _ _ _ _ _ _ ?p0n2 ?p1n2 ?p2n2) ?k1n2 ?k2n2 ?k3n2 ?k4n2 ?k5n2 ?kKn2 ?kdn2 ?kun2 ?_; (case k1n2 => k_asm); (case k2n2 => k_asm); (case k3n2 => k_asm); (case k4n2 => k_asm); (case k5n2 => k_asm); (case kKn2 => first | exact rfl | assumption); (case p0n2 => omega); (case p1n2 => omega); (case p2n2 => omega); (case kdn2 => ktr_room); (case kun2 => ktr_units); intro n9 P9 t9 h9 tk9 F9 N9; (try dsimp only); (try k_fold))
    k_steps
    all_goals ((with_reducible refine retT hret (by assumption) (by assumption) ?_ ?_ ?_) <;> first | rfl | omega)
end
end

section
open PySem PySem.W PyProof.Rows PySem.Calls PySem.Flt

local macro_rules | `(tactic| walk_at "call ref") => `(tactic| (k_here; (with_reducible show wpAny _ _ (call (Value.ref 50) _) _ _ _); k_dflt (refine' Cl.use (cl_isleap _ _ _ _ _ _ _ ) ?k1 ?k2 ?k3 ?k4 ?k5 ?kK ?kd ?ku ?_; (case k1 => k_asm); (case k2 => k_asm); (case k3 => k_asm); (case k4 => k_asm); (case k5 => k_asm); (case kK => first | exact rfl | assumption); (case kd => ktr_room); (case ku => ktr_units); intro t9 h9 tk9 F9 N9; (try dsimp only); (try k_fold))))

local macro_rules | `(tactic| walk_at "call ref") => `(tactic| (k_here; (with_reducible show wpAny _ _ (call (Value.ref 71) _) _ _ _); refine stop_here ?_))

local macro_rules | `(tactic| walk_at "exec If") => `(tactic| (k_here; refine stop_here ?_))

theorem i_greg {y m d n : Int} (h : LI y m d) (hN : inum y m d = n) : ∃ G gm gd T : Int, LG G gm gd ∧ gnum G gm gd = n ∧ 0 ≤ T ∧ T ≤ 364 + lq (y + 78) ∧
    ((G = y + 78 ∧ n - gnum G 1 1 = 80 + T) ∨ (G = y + 79 ∧ n - gnum G 1 1 = T - 285 - lq (y + 78) ∧ 285 + lq (y + 78) ≤ T)) ∧
    ((m = 1 ∧ T = d - 1) ∨ (2 ≤ m ∧ m ≤ 6 ∧ T = 30 + lq (y + 78) + (m - 2) * 31 + d - 1) ∨ (7 ≤ m ∧ T = 30 + lq (y + 78) + 155 + (m - 7) * 30 + d - 1)) := by
  obtain ⟨T, e1, e2, e3, e4⟩ := i_doy h
  rw [hN] at e1
  have hn := g_next (y + 78)
  have hb := lq_bd (y + 78)
  have hb' := lq_bd (y + 78 + 1)
  by_cases c : T < 285 + lq (y + 78)
  · obtain ⟨gm, gd, hL, hg⟩ := g_date (G := y + 78) (N := n) ⟨by omega, by omega⟩
    exact ⟨y + 78, gm, gd, T, hL, hg, e2, e3, .inl ⟨rfl, by omega⟩, e4⟩
  · have hn2 := g_next (y + 78 + 1)
    obtain ⟨gm, gd, hL, hg⟩ := g_date (G := y + 78 + 1) (N := n) ⟨by omega, by omega⟩
    exact ⟨y + 78 + 1, gm, gd, T, hL, hg, e2, e3, .inr ⟨by omega, by omega, by omega⟩, e4⟩
section
variable (w : World) (loose : List Str) (mean : ExcName → Option Value) (mg mb : Str → Option Value)
set_option maxRecDepth 100000
set_option maxHeartbeats 8000000

theorem ct_g (y mo d a : Int) (t : Tok) (hL : LG y mo d) (h0 : -100000000900 ≤ y ∧ y ≤ 100000000900) (ha : 128 * gnum y mo d + 64 ≤ a ∧ a < 128 * gnum y mo d + 192) :
   CT w loose mean mg mb 71 [.float (D a) t] 5 40 y mo d := cl_from_g w loose mean mg mb y mo d a t h0 hL ha
end
local macro_rules | `(tactic| walk_at "call ref") => `(tactic| (k_here; (with_reducible show wpAny _ _ (call (Value.ref 64) _) _ _ _); k_dflt (refine' CN.use (cn_g _ _ _ _ _ _ _ _ _ _ _ ?p0 ?p1 ?p2 ?p3 ?p4 ?p5) ?k1 ?k2 ?k3 ?k4 ?k5 ?kK ?kd ?ku ?_; (case k1 => k_asm); (case k2 => k_asm); (case k3 => k_asm); (case k4 => k_asm); (case k5 => k_asm); (case kK => first | exact rfl | assumption); (case p0 => omega); (case p1 => omega); (case p2 => omega); (case p3 => omega); (case p4 => omega); (case p5 => omega); (case kd => ktr_room); (case ku => ktr_units); intro N9 P9 t9 h9 tk9 F9 N9; (try dsimp only); (try k_fold))))

section
variable (w : World) (loose : List Str) (mean : ExcName → Option Value) (mg mb : Str → Option Value)
set_option maxRecDepth 100000
set_option maxHeartbeats 8000000

theorem cl_from_i (y mo d ja : Int) (t : Tok) (h0 : -100000000500 ≤ y ∧ y ≤ 100000000500) (hL : LI y mo d) (ha : 128 * inum y mo d + 64 ≤ ja ∧ ja < 128 * inum y mo d + 128) :
   CT w loose mean mg mb 168 [.float (D ja) t] 8 64 y mo d := by
  generalize hN : inum y mo d = n at ha
  obtain ⟨G, gm, gd, jT, hLG, hg, b1, b2, b3, b4⟩ := i_greg hL hN
  have hG : y + 78 ≤ G ∧ G ≤ y + 79 := by omega
  have hb := gnum_bd (y := G) (by omega) hLG.m1 hLG.d1
  rw [hg] at hb
  have hl := lq_bd (y + 78)
  have hlG := Hide.mk (lq_cases G)
  have hlb := lq_bd G
  have hlq : G = y + 78 → lq G = lq (y + 78) := fun h => by rw [h]
  replace hlq := Hide.mk hlq
  replace b4 := Hide.mk b4
  replace b3 := Hide.mk b3
  have hyd : 0 ≤ n - gnum G 1 1 ∧ n - gnum G 1 1 ≤ 366 := by have := g_in hLG; have := g_next G; omega
  have m1 := hL.m1
  have d1 := hL.d1
  unfold CT
  k_fill
  intro dp un gd cn cs a ccd cl outer A₀ base h₀ L m news s Q E B F X N T hk hdp hun hret
  refine wpAny_call ?_
  k_dflt (refine' code_def ?k1 ?k2 ?k3 ?k4 ?k5 ?kA ?kF ?kK ?k6 ?k7 ?k8 ?k9 ?kB ?_ ?c2 ?c3 ?c4 ?c5; (case kA => exact rfl); (case kF => exact rfl); (case kK => assumption); (case k1 => k_asm); (case k2 => k_asm); (case k3 => k_asm); (case k4 => k_asm); (case k5 => k_asm); (case k6 => k_is); (case k7 => k_is); (case k8 => ktr_room); (case k9 => first | exact BindsTo.of_eq rfl | exact binds_K (by k_in) rfl (by k_is) rfl rfl rfl); (case c5 => decide); (case kB => exact locs rfl); (case c2 => exact rfl); (case c3 => exact rfl); (case c4 => exact rfl); k_whole; intro g' L' h' FG' F' N' B' X' T'; (try dsimp only); (try k_lift B'); (try k_fold))
  k_steps
  

  · (with_reducible rename _ = _ / 128 => e1)
    have f1 := e1.trans (show _ = n by omega)
    refine stop_go ?_; k_dflt (refine' CT.use (ct_g _ _ _ _ _ _ _ _ _ _ ?p0n1 ?p1n1 ?p2n1) ?k1n1 ?k2n1 ?k3n1 ?k4n1 ?k5n1 ?kKn1 ?kdn1 ?kun1 ?_; (case k1n1 => k_asm); (case k2n1 => k_asm); (case k3n1 => k_asm); (case k4n1 => k_asm); (case k5n1 => k_asm); (case kKn1 => first | exact rfl | assumption); (case p0n1 => assumption); (case p1n1 => omega); (case p2n1 => omega); (case kdn1 => ktr_room); (case kun1 => ktr_units); intro D9 t91 t92 t93 c9 h9 tk9 F9 N9; (try dsimp only); (try k_fold))
    k_steps
    (with_reducible rename GFact _ _ _ _ => P9)
    have hN1 := P9.1
    replace P9 := P9.bd
    refine stop_go ?_
    (with_reducible rename Fr _ _ _ _ => jF)
    (with_reducible rename News _ _ _ _ => jN)
    refine j_if (Str.ofString "caitra") (fun r => r = 30 + lq G) jF jN ?_ ?_
    focus
      refine wpAny_If ?_
      k_steps
      all_goals (try (refine stop_go ?_; refine wpAny_If ?_; k_steps))
      all_goals (skip; first
        | (refine JV.set (by assumption) (by first | assumption | exact cb_drop (by assumption) (by kcj_all)) ?_; ((have := hlG.out; omega)))
        | (refine JV.same (by with_unfolding_all rfl) (by assumption) (by first | assumption | exact cb_drop (by assumption) (by kcj_all)) ?_; ((have := hlG.out; omega))))
    clear jF jN
    intro jr jR jt jh jtk jF jN
    (try dsimp only)
    subst jR
    k_steps
    all_goals (repeat' (refine stop_go ?_; refine wpAny_If ?_; k_steps))
    all_goals (
      replace b3 := b3.out
      replace b4 := b4.out
      replace hlq := hlq.out
      clear P9 hlG)
    · (with_reducible rename _ = _ / (128 * 30) => e1)
      (with_reducible rename _ = _ % (128 * 30) => e2)
      have g1 : G = y + 79 ∧ n - gnum G 1 1 = jT - 285 - lq (y + 78) ∧ 7 ≤ mo := by omega
      have g2 : jT = 30 + lq (y + 78) + 155 + (mo - 7) * 30 + d - 1 ∧ d ≤ 30 := by have := hL.d30; omega
      clear b3 b4
      have f1' := e1.trans (show _ = mo - 7 by omega)
      have f2' := e2.trans (show _ = 128 * (d - 1) by omega)
      clear e1 e2
      (with_reducible refine retT hret (by assumption) (by first | assumption | (refine cb_drop (by assumption) ?_; kcj_all)) ?_ ?_ ?_) <;> omega
    all_goals (
      have g1 : G = y + 78 ∧ n - gnum G 1 1 = 80 + jT := by omega
      have hlq2 := hlq g1.1
      have hd7 := hL.d30
      have hd1 := hL.dL
      clear b3)
    · have g2 : mo = 1 ∧ jT = d - 1 := by omega
      clear b4
      (with_reducible refine retT hret (by assumption) (by first | assumption | (refine cb_drop (by assumption) ?_; kcj_all)) ?_ ?_ ?_) <;> omega
    · (with_reducible rename _ = _ / (128 * 31) => e1)
      (with_reducible rename _ = _ % (128 * 31) => e2)
      have g2 : 2 ≤ mo ∧ mo ≤ 6 ∧ jT = 30 + lq (y + 78) + (mo - 2) * 31 + d - 1 := by omega
      clear b4
      have f1' := e1.trans (show _ = mo - 2 by omega)
      have f2' := e2.trans (show _ = 128 * (d - 1) by omega)
      clear e1 e2
      (with_reducible refine retT hret (by assumption) (by first | assumption | (refine cb_drop (by assumption) ?_; kcj_all)) ?_ ?_ ?_) <;> omega
    · (with_reducible rename _ = _ / (128 * 30) => e1)
      (with_reducible rename _ = _ % (128 * 30) => e2)
      have g2 : 7 ≤ mo ∧ jT = 30 + lq (y + 78) + 155 + (mo - 7) * 30 + d - 1 := by omega
      clear b4
      have f1' := e1.trans (show _ = mo - 7 by omega)
      have f2' := e2.trans (show _ = 128 * (d - 1) by omega)
      clear e1 e2
      (with_reducible refine retT hret (by assumption) (by first | assumption | (refine cb_drop (by assumption) ?_; kcj_all)) ?_ ?_ ?_) <;> omega
end
end

section
local macro_rules | `(tactic| walk_at "no such step") => `(tactic| fail)
local macro_rules | `(tactic| walk_at "no such step") => `(tactic| fail)
local macro_rules | `(tactic| walk_at "no such step") => `(tactic| fail)
local macro_rules | `(tactic| walk_at "no such step") => `(tactic| fail)
local macro_rules | `(tactic| walk_at "no such step") => `(tactic| fail)
local macro_rules | `(tactic| walk_at "no such step") => `(tactic| fail)
local macro_rules | `(tactic| walk_at "no such step") => `(tactic| fail)
local macro_rules | `(tactic| walk_at "no such step") => `(tactic| fail)
local macro_rules | `(tactic| walk_at "no such step") => `(tactic| fail)
local macro_rules | `(tactic| walk_at "no such step") => `(tactic| fail)
local macro_rules | `(tactic| walk_at "no such step") => `(tactic| fail)
local macro_rules | `(tactic| walk_at "no such step") => `(tactic| fail)
local macro_rules | `(tactic| walk_at "no such step") => `(tactic| fail)
local macro_rules | `(tactic| walk_at "no such step") => `(tactic| fail)
local macro_rules | `(tactic| walk_at "no such step") => `(tactic| fail)
local macro_rules | `(tactic| walk_at "no such step") => `(tactic| fail)
local macro_rules | `(tactic| walk_at "no such step") => `(tactic| fail)
local macro_rules | `(tactic| walk_at "no such step") => `(tactic| fail)
local macro_rules | `(tactic| walk_at "no such step") => `(tactic| fail)
local macro_rules | `(tactic| walk_at "no such step") => `(tactic| fail)
local macro_rules | `(tactic| walk_at "no such step") => `(tactic| fail)
local macro_rules | `(tactic| walk_at "no such step") => `(tactic| fail)
local macro_rules | `(tactic| walk_at "no such step") => `(tactic| fail)
local macro_rules | `(tactic| walk_at "no such step") => `(tactic| fail)

open PySem PySem.W PyProof.Rows PySem.Calls PySem.Flt

local macro_rules | `(tactic| walk_at "exec If") => `(tactic| (k_here; refine stop_here ?_))

section
variable (w : World) (loose : List Str) (mean : ExcName → Option Value) (mg mb : Str → Option Value)
set_option maxRecDepth 100000
set_option maxHeartbeats 8000000

theorem cl_fsch_f (y mo d ja : Int) (t t2 : Tok) (h0 : y ≤ 100000000900) (hL : LF y mo d) (ha : 128 * fnum y mo d + 64 ≤ ja ∧ ja < 128 * fnum y mo d + 128) :
   CT w loose mean mg mb 154 [.float (D ja) t, .int 4 t2] 5 40 y mo d := by
  generalize hN : fnum y mo d = n at ha
  have hn : 2375838 + y / 4 * 1461 + y % 4 * 365 - 365 + (mo - 1) * 30 + d = n := hN
  obtain ⟨l0, l1, l2, l3, l4⟩ := hL
  unfold CT
  k_fill
  intro dp un gd cn cs a ccd cl outer A₀ base h₀ L m news s Q E B F X N T hk hdp hun hret
  refine wpAny_call ?_
  k_dflt (refine' code_def ?k1 ?k2 ?k3 ?k4 ?k5 ?kA ?kF ?kK ?k6 ?k7 ?k8 ?k9 ?kB ?_ ?c2 ?c3 ?c4 ?c5; (case kA => exact rfl); (case kF => exact rfl); (case kK => assumption); (case k1 => k_asm); (case k2 => k_asm); (case k3 => k_asm); (case k4 => k_asm); (case k5 => k_asm); (case k6 => k_is); (case k7 => k_is); (case k8 => ktr_room); (case k9 => first | exact BindsTo.of_eq rfl | exact binds_K (by k_in) rfl (by k_is) rfl rfl rfl); (case c5 => decide); (case kB => exact locs rfl); (case c2 => exact rfl); (case c3 => exact rfl); (case c4 => exact rfl); k_whole; intro g' L' h' FG' F' N' B' X' T'; (try dsimp only); (try k_lift B'); (try k_fold))
  k_steps
  

  · refine stop_go ?_
    refine wpAny_If ?_
    k_steps
    refine stop_go ?_
    (with_reducible rename Fr _ _ _ _ => jF)
    (with_reducible rename News _ _ _ _ => jN)
    refine j_if (Str.ofString "method") (fun r => r = 4) jF jN ?_ ?_
    focus
      refine wpAny_If ?_
      k_steps
      all_goals (try (refine stop_go ?_; refine wpAny_If ?_; k_steps))
      all_goals (skip; first
        | (refine JV.set (by assumption) (by first | assumption | exact cb_drop (by assumption) (by kcj_all)) ?_; (rfl))
        | (refine JV.same (by with_unfolding_all rfl) (by assumption) (by first | assumption | exact cb_drop (by assumption) (by kcj_all)) ?_; (rfl)))
    clear jF jN
    intro jr jR jt jh jtk jF jN
    (try dsimp only)
    subst jR
    k_steps
    all_goals (repeat' (refine stop_go ?_; refine wpAny_If ?_; k_steps))
    · (with_reducible rename _ = 128 * 1460 / 46720 => e3)
      (with_reducible rename _ = _ / 187008 => e4)
      (with_reducible rename _ = _ % 187008 => e5)
      (with_reducible rename _ = 187008 - 128 * 1 => e6)
      (with_reducible rename _ = _ / 128 => eq)
      (with_reducible rename _ = ja / 128 => e0)
      have f0 := e0.trans (show _ = n by omega)
      have f4 := e4.trans (show _ = y / 4 by omega)
      have f6 : y % 4 = 3 ∧ mo = 13 ∧ d = 6 := by omega
      clear e4 e5 e6 e0
      (with_reducible refine retT hret (by assumption) (by first | assumption | (refine cb_drop (by assumption) ?_; kcj_all)) ?_ ?_ ?_) <;> omega
    · (with_reducible rename _ = _ / 187008 => e4)
      (with_reducible rename ¬ _ = 187008 - 128 * 1 => e6)
      (with_reducible rename _ = _ % 187008 => e5)
      (with_reducible rename _ = _ / 46720 => e3)
      (with_reducible rename _ = _ % 46720 => e2)
      (with_reducible rename _ = _ / 3840 => e7)
      (with_reducible rename _ = ja / 128 => e0)
      have f0 := e0.trans (show _ = n by omega)
      have f4 := e4.trans (show _ = y / 4 by omega)
      have f5 := e5.trans (show _ = 128 * (365 * (y % 4) + (mo - 1) * 30 + d - 1) by omega)
      have f6 : ¬ (mo = 13 ∧ d = 6) := by omega
      clear e4 e5 e6 e0
      have f3 := e3.trans (show _ = y % 4 by omega)
      have f2 := e2.trans (show _ = 128 * ((mo - 1) * 30 + d - 1) by omega)
      clear e3 e2 f5
      have f7 := e7.trans (show _ = mo - 1 by omega)
      clear e7
      (with_reducible refine retT hret (by assumption) (by first | assumption | (refine cb_drop (by assumption) ?_; kcj_all)) ?_ ?_ ?_) <;> omega
end
local macro_rules | `(tactic| walk_at "call ref") => `(tactic| (k_here; (with_reducible show wpAny _ _ (call (Value.ref 154) _) _ _ _); refine stop_here ?_))

section
variable (w : World) (loose : List Str) (mean : ExcName → Option Value) (mg mb : Str → Option Value)
set_option maxRecDepth 100000
set_option maxHeartbeats 8000000

theorem cl_from_f (y mo d ja : Int) (t t2 : Tok) (h0 : y ≤ 100000000900) (hL : LF y mo d) (ha : 128 * fnum y mo d + 64 ≤ ja ∧ ja < 128 * fnum y mo d + 128) :
   CT w loose mean mg mb 147 [.float (D ja) t, .int 4 t2] 7 56 y mo d := by
  unfold CT
  k_fill
  intro dp un gd cn cs a ccd cl outer A₀ base h₀ L m news s Q E B F X N T hk hdp hun hret
  refine wpAny_call ?_
  k_dflt (refine' code_def ?k1 ?k2 ?k3 ?k4 ?k5 ?kA ?kF ?kK ?k6 ?k7 ?k8 ?k9 ?kB ?_ ?c2 ?c3 ?c4 ?c5; (case kA => exact rfl); (case kF => exact rfl); (case kK => assumption); (case k1 => k_asm); (case k2 => k_asm); (case k3 => k_asm); (case k4 => k_asm); (case k5 => k_asm); (case k6 => k_is); (case k7 => k_is); (case k8 => ktr_room); (case k9 => first | exact BindsTo.of_eq rfl | exact binds_K (by k_in) rfl (by k_is) rfl rfl rfl); (case c5 => decide); (case kB => exact locs rfl); (case c2 => exact rfl); (case c3 => exact rfl); (case c4 => exact rfl); k_whole; intro g' L' h' FG' F' N' B' X' T'; (try dsimp only); (try k_lift B'); (try k_fold))
  k_steps
  

  ·
    refine stop_go ?_; k_dflt (refine' CT.use (cl_fsch_f _ _ _ _ _ _ _ _ _ _ _ ?p0n1 ?p1n1 ?p2n1) ?k1n1 ?k2n1 ?k3n1 ?k4n1 ?k5n1 ?kKn1 ?kdn1 ?kun1 ?_; (case k1n1 => k_asm); (case k2n1 => k_asm); (case k3n1 => k_asm); (case k4n1 => k_asm); (case k5n1 => k_asm); (case kKn1 => first | exact rfl | assumption); (case p0n1 => exact h0); (case p1n1 => exact hL); (case p2n1 => exact ha); (case kdn1 => ktr_room); (case kun1 => ktr_units); intro D9 t91 t92 t93 c9 h9 tk9 F9 N9; (try dsimp only); (try k_fold))
    k_steps
    exact hret _ _ _ _ _ _ _ (by assumption) (by assumption)
end
end

section
open PySem PySem.W PyProof.Rows PySem.Calls PySem.Flt

local macro_rules | `(tactic| walk_at "call ref") => `(tactic| (k_here; (with_reducible show wpAny _ _ (call (Value.ref 64) _) _ _ _); k_dflt (refine' Cl.use (cl_to_g _ _ _ _ _ _ _ _ _ _ _ ?p0 ?p1 ?p2 ?p3 ?p4 ?p5) ?k1 ?k2 ?k3 ?k4 ?k5 ?kK ?kd ?ku ?_; (case k1 => k_asm); (case k2 => k_asm); (case k3 => k_asm); (case k4 => k_asm); (case k5 => k_asm); (case kK => first | exact rfl | assumption); (case p0 => omega); (case p1 => exact LG.m1 (by assumption)); (case p2 => exact LG.d1 (by assumption)); (case p3 => exact LG.d30 (by assumption)); (case p4 => exact LG.d29 (by assumption)); (case p5 => exact LG.dL (by assumption)); (case kd => ktr_room); (case ku => ktr_units); intro t9 h9 tk9 F9 N9; (try dsimp only); (try k_fold))))

local macro_rules | `(tactic| walk_at "call ref") => `(tactic| (k_here; (with_reducible show wpAny _ _ (call (Value.ref 218) _) _ _ _); k_dflt (refine' Cl.use (cl_to_j _ _ _ _ _ _ _ _ _ _ _ ?p0 ?p1 ?p2 ?p3) ?k1 ?k2 ?k3 ?k4 ?k5 ?kK ?kd ?ku ?_; (case k1 => k_asm); (case k2 => k_asm); (case k3 => k_asm); (case k4 => k_asm); (case k5 => k_asm); (case kK => first | exact rfl | assumption); (case p0 => omega); (case p1 => exact LJ.m1 (by assumption)); (case p2 => exact LJ.d1 (by assumption)); (case p3 => exact LJ.if_ (by assumption)); (case kd => ktr_room); (case ku => ktr_units); intro t9 h9 tk9 F9 N9; (try dsimp only); (try k_fold))))

local macro_rules | `(tactic| walk_at "call ref") => `(tactic| (k_here; (with_reducible show wpAny _ _ (call (Value.ref 109) _) _ _ _); k_dflt (refine' Cl.use (cl_to_c _ _ _ _ _ _ _ _ _ _ _ ?p0 ?p1 ?p2) ?k1 ?k2 ?k3 ?k4 ?k5 ?kK ?kd ?ku ?_; (case k1 => k_asm); (case k2 => k_asm); (case k3 => k_asm); (case k4 => k_asm); (case k5 => k_asm); (case kK => first | exact rfl | assumption); (case p0 => omega); (case p1 => exact LC.m1 (by assumption)); (case p2 => exact LC.d1 (by assumption)); (case kd => ktr_room); (case ku => ktr_units); intro t9 h9 tk9 F9 N9; (try dsimp only); (try k_fold))))

local macro_rules | `(tactic| walk_at "call ref") => `(tactic| (k_here; (with_reducible show wpAny _ _ (call (Value.ref 94) _) _ _ _); k_dflt (refine' Cl.use (cl_to_a _ _ _ _ _ _ _ _ _ _ _ ?p0 ?p1 ?p2 ?p3 ?p4) ?k1 ?k2 ?k3 ?k4 ?k5 ?kK ?kd ?ku ?_; (case k1 => k_asm); (case k2 => k_asm); (case k3 => k_asm); (case k4 => k_asm); (case k5 => k_asm); (case kK => first | exact rfl | assumption); (case p0 => omega); (case p1 => exact LA.y1 (by assumption)); (case p2 => exact LA.m1 (by assumption)); (case p3 => exact LA.d1 (by assumption)); (case p4 => exact LA.d6 (by assumption)); (case kd => ktr_room); (case ku => ktr_units); intro t9 h9 tk9 F9 N9; (try dsimp only); (try k_fold))))

local macro_rules | `(tactic| walk_at "call ref") => `(tactic| (k_here; (with_reducible show wpAny _ _ (call (Value.ref 94) _) _ _ _); k_dflt (refine' Cl.use (cl_to_s _ _ _ _ _ _ _ _ _ _ _ _ ?p0 ?p1 ?p2 ?p3 ?p4 ?p5) ?k1 ?k2 ?k3 ?k4 ?k5 ?kK ?kd ?ku ?_; (case k1 => k_asm); (case k2 => k_asm); (case k3 => k_asm); (case k4 => k_asm); (case k5 => k_asm); (case kK => first | exact rfl | assumption); (case p0 => omega); (case p1 => exact LS.y1 (by assumption)); (case p2 => exact LS.m1 (by assumption)); (case p3 => exact LS.d1 (by assumption)); (case p4 => exact LS.d6 (by assumption)); (case p5 => exact LS.dL (by assumption)); (case kd => ktr_room); (case ku => ktr_units); intro t9 h9 tk9 F9 N9; (try dsimp only); (try k_fold))))

local macro_rules | `(tactic| walk_at "call ref") => `(tactic| (k_here; (with_reducible show wpAny _ _ (call (Value.ref 175) _) _ _ _); k_dflt (refine' Cl.use (cl_to_h _ _ _ _ _ _ _ _ _ _ _ ?p0 ?p1 ?p2) ?k1 ?k2 ?k3 ?k4 ?k5 ?kK ?kd ?ku ?_; (case k1 => k_asm); (case k2 => k_asm); (case k3 => k_asm); (case k4 => k_asm); (case k5 => k_asm); (case kK => first | exact rfl | assumption); (case p0 => omega); (case p1 => exact LH.m1 (by assumption)); (case p2 => exact LH.d1 (by assumption)); (case kd => ktr_room); (case ku => ktr_units); intro t9 h9 tk9 F9 N9; (try dsimp only); (try k_fold))))

local macro_rules | `(tactic| walk_at "call ref") => `(tactic| (k_here; (with_reducible show wpAny _ _ (call (Value.ref 161) _) _ _ _); k_dflt (refine' Cl.use (cl_to_i _ _ _ _ _ _ _ _ _ _ _ ?p0 ?p1 ?p2) ?k1 ?k2 ?k3 ?k4 ?k5 ?kK ?kd ?ku ?_; (case k1 => k_asm); (case k2 => k_asm); (case k3 => k_asm); (case k4 => k_asm); (case k5 => k_asm); (case kK => first | exact rfl | assumption); (case p0 => omega); (case p1 => exact LI.m1 (by assumption)); (case p2 => exact LI.d1 (by assumption)); (case kd => ktr_room); (case ku => ktr_units); intro t9 h9 tk9 F9 N9; (try dsimp only); (try k_fold))))

local macro_rules | `(tactic| walk_at "call ref") => `(tactic| (k_here; (with_reducible show wpAny _ _ (call (Value.ref 132) _) _ _ _); k_dflt (refine' Cl.use (cl_to_f _ _ _ _ _ _ _ _ _ _ _ _ ?p0 ?p1 ?p2 ?p3 ?p4 ?p5) ?k1 ?k2 ?k3 ?k4 ?k5 ?kK ?kd ?ku ?_; (case k1 => k_asm); (case k2 => k_asm); (case k3 => k_asm); (case k4 => k_asm); (case k5 => k_asm); (case kK => first | exact rfl | assumption); (case p0 => omega); (case p1 => exact LF.y1 (by assumption)); (case p2 => exact LF.m1 (by assumption)); (case p3 => exact LF.d1 (by assumption)); (case p4 => exact LF.d6 (by assumption)); (case p5 => exact LF.dL (by assumption)); (case kd => ktr_room); (case ku => ktr_units); intro t9 h9 tk9 F9 N9; (try dsimp only); (try k_fold))))

section
variable (w : World) (loose : List Str) (mean : ExcName → Option Value) (mg mb : Str → Option Value)
set_option maxRecDepth 100000
set_option maxHeartbeats 8000000
theorem cl_numbers (x0 x1 x2 x3 x4 x5 x6 x7 : DT) (h : Eight x0 x1 x2 x3 x4 x5 x6 x7) : NumsC w loose mean mg mb x0 x1 x2 x3 x4 x5 x6 x7 := by
  obtain ⟨l0, l1, l2, l3, l4, l5, l6, l7, b0, b1, b2, b3, b4, b5, b6, b7⟩ := h
  unfold NumsC
  k_fill
  intro Dl cc dp un gd cn cs a ccd cl outer A₀ base h₀ L m news s Q E B F X N T hk hdp hun il i0 i1 i2 i3 i4 i5 i6 i7 hret
  unfold DT.In at i0 i1 i2 i3 i4 i5 i6 i7
  refine wpAny_call ?_
  k_dflt (refine' code_def ?k1 ?k2 ?k3 ?k4 ?k5 ?kA ?kF ?kK ?k6 ?k7 ?k8 ?k9 ?kB ?_ ?c2 ?c3 ?c4 ?c5; (case kA => exact rfl); (case kF => exact rfl); (case kK => assumption); (case k1 => k_asm); (case k2 => k_asm); (case k3 => k_asm); (case k4 => k_asm); (case k5 => k_asm); (case k6 => k_is); (case k7 => k_is); (case k8 => ktr_room); (case k9 => first | exact BindsTo.of_eq rfl | exact binds_K (by k_in) rfl (by k_is) rfl rfl rfl); (case c5 => decide); (case kB => exact locs rfl); (case c2 => exact rfl); (case c3 => exact rfl); (case c4 => exact rfl); k_whole; intro g' L' h' FG' F' N' B' X' T'; (try dsimp only); (try k_lift B'); (try k_fold))
  k_steps
  all_goals (exact hret _ _ _ _ _ _ _ _ _ _ _ _ (by assumption) (by assumption))
end
end

section
local macro_rules | `(tactic| walk_at "no such step") => `(tactic| fail)
local macro_rules | `(tactic| walk_at "no such step") => `(tactic| fail)
local macro_rules | `(tactic| walk_at "no such step") => `(tactic| fail)
local macro_rules | `(tactic| walk_at "no such step") => `(tactic| fail)
local macro_rules | `(tactic| walk_at "no such step") => `(tactic| fail)
local macro_rules | `(tactic| walk_at "no such step") => `(tactic| fail)
local macro_rules | `(tactic| walk_at "no such step") => `(tactic| fail)
local macro_rules | `(tactic| walk_at "no such step") => `(tactic| fail)
local macro_rules | `(tactic| walk_at "no such step") => `(tactic| fail)
local macro_rules | `(tactic| walk_at "no such step") => `(tactic| fail)
local macro_rules | `(tactic| walk_at "no such step") => `(tactic| fail)
local macro_rules | `(tactic| walk_at "no such step") => `(tactic| fail)
local macro_rules | `(tactic| walk_at "no such step") => `(tactic| fail)
local macro_rules | `(tactic| walk_at "no such step") => `(tactic| fail)
local macro_rules | `(tactic| walk_at "no such step") => `(tactic| fail)
local macro_rules | `(tactic| walk_at "no such step") => `(tactic| fail)
local macro_rules | `(tactic| walk_at "no such step") => `(tactic| fail)
local macro_rules | `(tactic| walk_at "no such step") => `(tactic| fail)
local macro_rules | `(tactic| walk_at "no such step") => `(tactic| fail)
local macro_rules | `(tactic| walk_at "no such step") => `(tactic| fail)
local macro_rules | `(tactic| walk_at "no such step") => `(tactic| fail)
local macro_rules | `(tactic| walk_at "no such step") => `(tactic| fail)
local macro_rules | `(tactic| walk_at "no such step") => `(tactic| fail)
local macro_rules | `(tactic| walk_at "no such step") => `(tactic| fail)
open PySem PySem.W PyProof.Rows PySem.Calls PySem.Flt

section
variable (w : World) (loose : List Str) (mean : ExcName → Option Value) (mg mb : Str → Option Value)
theorem ct_j (y mo d ja : Int) (t : Tok) (hL : LJ y mo d) (h0 : -100000000900 ≤ y ∧ y ≤ 100000000900) (ha : 128 * jnum y mo d + 64 ≤ ja ∧ ja < 128 * jnum y mo d + 192) :
   CT w loose mean mg mb 211 [.float (D ja) t] 5 40 y mo d := cl_from_j w loose mean mg mb y mo d ja t h0 hL ha
theorem ct_c (y mo d ja : Int) (t : Tok) (hL : LC y mo d) (h0 : -100000000900 ≤ y ∧ y ≤ 100000000900) (ha : 128 * cnum y mo d + 64 ≤ ja ∧ ja < 128 * cnum y mo d + 192) :
   CT w loose mean mg mb 116 [.float (D ja) t] 5 40 y mo d := cl_from_c w loose mean mg mb y mo d ja t h0 hL ha
theorem ct_a (y mo d ja : Int) (t : Tok) (hL : LA y mo d) (h0 : y ≤ 100000000900) (ha : 128 * anum y mo d + 64 ≤ ja ∧ ja < 128 * anum y mo d + 192) :
   CT w loose mean mg mb 102 [.float (D ja) t] 5 40 y mo d := cl_from_a w loose mean mg mb y mo d ja t h0 hL ha
theorem ct_h (y mo d ja : Int) (t : Tok) (hL : LH y mo d) (h0 : -100000000900 ≤ y ∧ y ≤ 100000000900) (ha : 128 * hnum y mo d + 64 ≤ ja ∧ ja < 128 * hnum y mo d + 128) :
   CT w loose mean mg mb 182 [.float (D ja) t] 5 40 y mo d := cl_from_h w loose mean mg mb y mo d ja t h0 hL ha
theorem ct_f (y mo d ja : Int) (t t2 : Tok) (hL : LF y mo d) (h0 : y ≤ 100000000900) (ha : 128 * fnum y mo d + 64 ≤ ja ∧ ja < 128 * fnum y mo d + 128) :
   CT w loose mean mg mb 147 [.float (D ja) t, .int 4 t2] 7 56 y mo d := cl_from_f w loose mean mg mb y mo d ja t t2 h0 hL ha
theorem ct_s (y mo d ja : Int) (t t2 : Tok) (hL : LS y mo d) (h0 : y ≤ 100000000900) (ha : ja = 128 * snum y mo d + 64) :
   CT w loose mean mg mb 102 [.float (D ja) t, .str (Str.ofString "sarkawag") t2] 5 40 y mo d := cl_from_s w loose mean mg mb y mo d ja t t2 h0 hL ha
theorem ct_i (y mo d ja : Int) (t : Tok) (hL : LI y mo d) (h0 : -100000000500 ≤ y ∧ y ≤ 100000000500) (ha : 128 * inum y mo d + 64 ≤ ja ∧ ja < 128 * inum y mo d + 128) :
   CT w loose mean mg mb 168 [.float (D ja) t] 8 64 y mo d := cl_from_i w loose mean mg mb y mo d ja t h0 hL ha

end

local macro_rules | `(tactic| walk_at "binaryOp Div float int") => `(tactic| ((with_reducible refine' r_half ?hA ?hx ?ha ?_); (case hA => with_plain (exact rfl)); (case hx => with_plain (with_reducible rfl)); (case ha => with_plain (omega))))
local macro_rules | `(tactic| walk_at "call ref") => `(tactic| (k_here; (with_reducible show wpAny _ _ (call (Value.ref 71) _) _ _ _); k_dflt (refine' CT.use (ct_g _ _ _ _ _ _ _ _ _ _ ?p0 ?p1 ?p2) ?k1 ?k2 ?k3 ?k4 ?k5 ?kK ?kd ?ku ?_; (case k1 => k_asm); (case k2 => k_asm); (case k3 => k_asm); (case k4 => k_asm); (case k5 => k_asm); (case kK => first | exact rfl | assumption); (case p0 => assumption); (case p1 => omega); (case p2 => omega); (case kd => ktr_room); (case ku => ktr_units); intro D9 t91 t92 t93 c9 h9 tk9 F9 N9; (try dsimp only); (try k_fold))))
local macro_rules | `(tactic| walk_at "call ref") => `(tactic| (k_here; (with_reducible show wpAny _ _ (call (Value.ref 211) _) _ _ _); k_dflt (refine' CT.use (ct_j _ _ _ _ _ _ _ _ _ _ ?p0 ?p1 ?p2) ?k1 ?k2 ?k3 ?k4 ?k5 ?kK ?kd ?ku ?_; (case k1 => k_asm); (case k2 => k_asm); (case k3 => k_asm); (case k4 => k_asm); (case k5 => k_asm); (case kK => first | exact rfl | assumption); (case p0 => assumption); (case p1 => omega); (case p2 => omega); (case kd => ktr_room); (case ku => ktr_units); intro D9 t91 t92 t93 c9 h9 tk9 F9 N9; (try dsimp only); (try k_fold))))
local macro_rules | `(tactic| walk_at "call ref") => `(tactic| (k_here; (with_reducible show wpAny _ _ (call (Value.ref 116) _) _ _ _); k_dflt (refine' CT.use (ct_c _ _ _ _ _ _ _ _ _ _ ?p0 ?p1 ?p2) ?k1 ?k2 ?k3 ?k4 ?k5 ?kK ?kd ?ku ?_; (case k1 => k_asm); (case k2 => k_asm); (case k3 => k_asm); (case k4 => k_asm); (case k5 => k_asm); (case kK => first | exact rfl | assumption); (case p0 => assumption); (case p1 => omega); (case p2 => omega); (case kd => ktr_room); (case ku => ktr_units); intro D9 t91 t92 t93 c9 h9 tk9 F9 N9; (try dsimp only); (try k_fold))))
local macro_rules | `(tactic| walk_at "call ref") => `(tactic| (k_here; (with_reducible show wpAny _ _ (call (Value.ref 102) _) _ _ _); k_dflt (refine' CT.use (ct_a _ _ _ _ _ _ _ _ _ _ ?p0 ?p1 ?p2) ?k1 ?k2 ?k3 ?k4 ?k5 ?kK ?kd ?ku ?_; (case k1 => k_asm); (case k2 => k_asm); (case k3 => k_asm); (case k4 => k_asm); (case k5 => k_asm); (case kK => first | exact rfl | assumption); (case p0 => assumption); (case p1 => omega); (case p2 => omega); (case kd => ktr_room); (case ku => ktr_units); intro D9 t91 t92 t93 c9 h9 tk9 F9 N9; (try dsimp only); (try k_fold))))
local macro_rules | `(tactic| walk_at "call ref") => `(tactic| (k_here; (with_reducible show wpAny _ _ (call (Value.ref 182) _) _ _ _); k_dflt (refine' CT.use (ct_h _ _ _ _ _ _ _ _ _ _ ?p0 ?p1 ?p2) ?k1 ?k2 ?k3 ?k4 ?k5 ?kK ?kd ?ku ?_; (case k1 => k_asm); (case k2 => k_asm); (case k3 => k_asm); (case k4 => k_asm); (case k5 => k_asm); (case kK => first | exact rfl | assumption); (case p0 => assumption); (case p1 => omega); (case p2 => omega); (case kd => ktr_room); (case ku => ktr_units); intro D9 t91 t92 t93 c9 h9 tk9 F9 N9; (try dsimp only); (try k_fold))))
local macro_rules | `(tactic| walk_at "call ref") => `(tactic| (k_here; (with_reducible show wpAny _ _ (call (Value.ref 168) _) _ _ _); k_dflt (refine' CT.use (ct_i _ _ _ _ _ _ _ _ _ _ ?p0 ?p1 ?p2) ?k1 ?k2 ?k3 ?k4 ?k5 ?kK ?kd ?ku ?_; (case k1 => k_asm); (case k2 => k_asm); (case k3 => k_asm); (case k4 => k_asm); (case k5 => k_asm); (case kK => first | exact rfl | assumption); (case p0 => assumption); (case p1 => omega); (case p2 => omega); (case kd => ktr_room); (case ku => ktr_units); intro D9 t91 t92 t93 c9 h9 tk9 F9 N9; (try dsimp only); (try k_fold))))
local macro_rules | `(tactic| walk_at "call ref") => `(tactic| (k_here; (with_reducible show wpAny _ _ (call (Value.ref 147) _) _ _ _); k_dflt (refine' CT.use (ct_f _ _ _ _ _ _ _ _ _ _ _ ?p0 ?p1 ?p2) ?k1 ?k2 ?k3 ?k4 ?k5 ?kK ?kd ?ku ?_; (case k1 => k_asm); (case k2 => k_asm); (case k3 => k_asm); (case k4 => k_asm); (case k5 => k_asm); (case kK => first | exact rfl | assumption); (case p0 => assumption); (case p1 => omega); (case p2 => omega); (case kd => ktr_room); (case ku => ktr_units); intro D9 t91 t92 t93 c9 h9 tk9 F9 N9; (try dsimp only); (try k_fold))))
local macro_rules | `(tactic| walk_at "call ref") => `(tactic| (k_here; (with_reducible show wpAny _ _ (call (Value.ref 102) _) _ _ _); k_dflt (refine' CT.use (ct_s _ _ _ _ _ _ _ _ _ _ _ ?p0 ?p1 ?p2) ?k1 ?k2 ?k3 ?k4 ?k5 ?kK ?kd ?ku ?_; (case k1 => k_asm); (case k2 => k_asm); (case k3 => k_asm); (case k4 => k_asm); (case k5 => k_asm); (case kK => first | exact rfl | assumption); (case p0 => assumption); (case p1 => omega); (case p2 => omega); (case kd => ktr_room); (case ku => ktr_units); intro D9 t91 t92 t93 c9 h9 tk9 F9 N9; (try dsimp only); (try k_fold))))
local macro_rules | `(tactic| walk_at "subscriptTail") => `(tactic| (k_here; (with_reducible show wpAny _ _ (subscriptTail _ _ (Value.ref _) (Value.int _ _)) _ _ _); k_dflt (refine' r_itemL ?N ?m ?a ?b ?d ?_ ?z; (case N => k_asm); (case m => k_mem); (case a => decide); (case b => decide); (case d => rfl); (case z => with_unfolding_all rfl); k_whole)))
local macro_rules | `(tactic| k_mem) => `(tactic| ((repeat (first | exact List.Mem.head _ | ktr_member | refine' List.mem_cons_of_mem _ ?_)); done))

section
variable (w : World) (loose : List Str) (mean : ExcName → Option Value) (mg mb : Str → Option Value)
set_option maxRecDepth 100000
set_option maxHeartbeats 8000000
theorem cl_told (r : Int) (hr : 0 ≤ r ∧ r < 64) (x0 x1 x2 x3 x4 x5 x6 x7 : DT) (h : Eight x0 x1 x2 x3 x4 x5 x6 x7) : ToldC w loose mean mg mb r x0 x1 x2 x3 x4 x5 x6 x7 := by
  have hn := num_bd h
  obtain ⟨n0, n1, n2, n3, n4, n5, n6, n7⟩ := hn
  obtain ⟨l0, l1, l2, l3, l4, l5, l6, l7, b0, b1, b2, b3, b4, b5, b6, b7⟩ := h
  unfold ToldC
  k_fill
  intro Dn u0 u1 u2 u3 u4 u5 u6 u7 tp cc dp un gd cn cs a ccd cl outer A₀ base h₀ L m news s Q E B F X N T hk hdp hun il hret
  refine wpAny_call ?_
  k_dflt (refine' code_def ?k1 ?k2 ?k3 ?k4 ?k5 ?kA ?kF ?kK ?k6 ?k7 ?k8 ?k9 ?kB ?_ ?c2 ?c3 ?c4 ?c5; (case kA => exact rfl); (case kF => exact rfl); (case kK => assumption); (case k1 => k_asm); (case k2 => k_asm); (case k3 => k_asm); (case k4 => k_asm); (case k5 => k_asm); (case k6 => k_is); (case k7 => k_is); (case k8 => ktr_room); (case k9 => first | exact BindsTo.of_eq rfl | exact binds_K (by k_in) rfl (by k_is) rfl rfl rfl); (case c5 => decide); (case kB => exact locs rfl); (case c2 => exact rfl); (case c3 => exact rfl); (case c4 => exact rfl); k_whole; intro g' L' h' FG' F' N' B' X' T'; (try dsimp only); (try k_lift B'); (try k_fold))
  k_steps
  all_goals (refine hret _ ⟨x0.y, x0.m, x0.d, _, _, _, _, _⟩ ⟨x1.y, x1.m, x1.d, _, _, _, _, _⟩ ⟨x2.y, x2.m, x2.d, _, _, _, _, _⟩ ⟨x3.y, x3.m, x3.d, _, _, _, _, _⟩ ⟨x4.y, x4.m, x4.d, _, _, _, _, _⟩ ⟨x5.y, x5.m, x5.d, _, _, _, _, _⟩ ⟨x6.y, x6.m, x6.d, _, _, _, _, _⟩ ⟨x7.y, x7.m, x7.d, _, _, _, _, _⟩ _ _ _ ?_ ?_ ?_ ?_ ?_ ?_ ?_ ?_ ?_ ?_ ?_ ?_ ?_ ?_ ?_ ?_ ?_ ?_ ?_ ?_ ?_ ?_ ?_ ?_ (by assumption) (by assumption) <;> rfl)
end
end

section
/-- the sizes of a year's months, as a calendar's rule has them -/
def SzP (Lx : Int → Int → Int → Prop) (K : Nat) (y : Int) (xs : List Int) : Prop := xs.length = K ∧ ∀ i : Nat, i < K → 1 ≤ xs.getD i 0 ∧ ∀ dd : Int, 1 ≤ dd → dd ≤ xs.getD i 0 → Lx y (1 + (i : Int)) dd
theorem sz0 {y : Int} {r : Int} (h : (Lp y ∧ r = 29) ∨ (¬ Lp y ∧ r = 28)) : SzP LG 12 y [31, r, 31, 30, 31, 30, 31, 31, 30, 31, 30, 31] := by
  refine ⟨rfl, fun i hi => ?_⟩
  have hc : i = 0 ∨ i = 1 ∨ i = 2 ∨ i = 3 ∨ i = 4 ∨ i = 5 ∨ i = 6 ∨ i = 7 ∨ i = 8 ∨ i = 9 ∨ i = 10 ∨ i = 11 := by omega
  rcases hc with rfl | rfl | rfl | rfl | rfl | rfl | rfl | rfl | rfl | rfl | rfl | rfl <;> simp only [List.getD_cons_succ, List.getD_cons_zero] <;> refine ⟨by omega, fun dd h1 h2 => ⟨by omega, by omega, by omega, by omega, fun a b => by unfold Lp at *; omega⟩⟩
theorem sz1 {y : Int} {r : Int} (h : (y % 4 = 0 ∧ r = 29) ∨ (¬ y % 4 = 0 ∧ r = 28)) : SzP LJ 12 y [31, r, 31, 30, 31, 30, 31, 31, 30, 31, 30, 31] := by
  refine ⟨rfl, fun i hi => ?_⟩
  have hc : i = 0 ∨ i = 1 ∨ i = 2 ∨ i = 3 ∨ i = 4 ∨ i = 5 ∨ i = 6 ∨ i = 7 ∨ i = 8 ∨ i = 9 ∨ i = 10 ∨ i = 11 := by omega
  rcases hc with rfl | rfl | rfl | rfl | rfl | rfl | rfl | rfl | rfl | rfl | rfl | rfl <;> simp only [List.getD_cons_succ, List.getD_cons_zero] <;> refine ⟨by omega, fun dd h1 h2 => ⟨by omega, by omega, by omega, by omega, by omega⟩⟩
theorem sz2 {y : Int} {r : Int} (h : (y % 4 = 3 ∧ r = 6) ∨ (¬ y % 4 = 3 ∧ r = 5)) : SzP LC 13 y [30, 30, 30, 30, 30, 30, 30, 30, 30, 30, 30, 30, r] := by
  refine ⟨rfl, fun i hi => ?_⟩
  have hc : i = 0 ∨ i = 1 ∨ i = 2 ∨ i = 3 ∨ i = 4 ∨ i = 5 ∨ i = 6 ∨ i = 7 ∨ i = 8 ∨ i = 9 ∨ i = 10 ∨ i = 11 ∨ i = 12 := by omega
  rcases hc with rfl | rfl | rfl | rfl | rfl | rfl | rfl | rfl | rfl | rfl | rfl | rfl | rfl <;> simp only [List.getD_cons_succ, List.getD_cons_zero] <;> refine ⟨by omega, fun dd h1 h2 => ⟨by omega, by omega, by omega, by omega⟩⟩
theorem sz3 {y : Int} (h : 1 ≤ y) : SzP LA 13 y [30, 30, 30, 30, 30, 30, 30, 30, 30, 30, 30, 30, 5] := by
  refine ⟨rfl, fun i hi => ?_⟩
  have hc : i = 0 ∨ i = 1 ∨ i = 2 ∨ i = 3 ∨ i = 4 ∨ i = 5 ∨ i = 6 ∨ i = 7 ∨ i = 8 ∨ i = 9 ∨ i = 10 ∨ i = 11 ∨ i = 12 := by omega
  rcases hc with rfl | rfl | rfl | rfl | rfl | rfl | rfl | rfl | rfl | rfl | rfl | rfl | rfl <;> simp only [List.getD_cons_succ, List.getD_cons_zero] <;> refine ⟨by omega, fun dd h1 h2 => ⟨by omega, by omega, by omega, by omega⟩⟩
theorem sz4 {y : Int} {r : Int} (h : (19 ≤ (3 + 11 * y) % 30 ∧ r = 30) ∨ (¬ 19 ≤ (3 + 11 * y) % 30 ∧ r = 29)) : SzP LH 12 y [30, 29, 30, 29, 30, 29, 30, 29, 30, 29, 30, r] := by
  refine ⟨rfl, fun i hi => ?_⟩
  have hc : i = 0 ∨ i = 1 ∨ i = 2 ∨ i = 3 ∨ i = 4 ∨ i = 5 ∨ i = 6 ∨ i = 7 ∨ i = 8 ∨ i = 9 ∨ i = 10 ∨ i = 11 := by omega
  rcases hc with rfl | rfl | rfl | rfl | rfl | rfl | rfl | rfl | rfl | rfl | rfl | rfl <;> simp only [List.getD_cons_succ, List.getD_cons_zero] <;> refine ⟨by omega, fun dd h1 h2 => ⟨by omega, by omega, by omega, by omega⟩⟩
theorem sz5 {y : Int} {r : Int} (h : r = 30 + lq (y + 78)) (h0 : 0 ≤ lq (y + 78) ∧ lq (y + 78) ≤ 1) : SzP LI 12 y [r, 31, 31, 31, 31, 31, 30, 30, 30, 30, 30, 30] := by
  refine ⟨rfl, fun i hi => ?_⟩
  have hc : i = 0 ∨ i = 1 ∨ i = 2 ∨ i = 3 ∨ i = 4 ∨ i = 5 ∨ i = 6 ∨ i = 7 ∨ i = 8 ∨ i = 9 ∨ i = 10 ∨ i = 11 := by omega
  rcases hc with rfl | rfl | rfl | rfl | rfl | rfl | rfl | rfl | rfl | rfl | rfl | rfl <;> simp only [List.getD_cons_succ, List.getD_cons_zero] <;> refine ⟨by omega, fun dd h1 h2 => ⟨by omega, by omega, by omega, by omega⟩⟩
theorem sz6 {y : Int} {r : Int} (h0 : 1 ≤ y) (h : (y % 4 = 3 ∧ r = 6) ∨ (¬ y % 4 = 3 ∧ r = 5)) : SzP LF 13 y [30, 30, 30, 30, 30, 30, 30, 30, 30, 30, 30, 30, r] := by
  refine ⟨rfl, fun i hi => ?_⟩
  have hc : i = 0 ∨ i = 1 ∨ i = 2 ∨ i = 3 ∨ i = 4 ∨ i = 5 ∨ i = 6 ∨ i = 7 ∨ i = 8 ∨ i = 9 ∨ i = 10 ∨ i = 11 ∨ i = 12 := by omega
  rcases hc with rfl | rfl | rfl | rfl | rfl | rfl | rfl | rfl | rfl | rfl | rfl | rfl | rfl <;> simp only [List.getD_cons_succ, List.getD_cons_zero] <;> refine ⟨by omega, fun dd h1 h2 => ⟨by omega, by omega, by omega, by omega, by omega⟩⟩
theorem sz7 {y : Int} {r : Int} (h0 : 533 ≤ y) (h : (y % 4 = 0 ∧ r = 6) ∨ (¬ y % 4 = 0 ∧ r = 5)) : SzP LS 13 y [30, 30, 30, 30, 30, 30, 30, 30, 30, 30, 30, 30, r] := by
  refine ⟨rfl, fun i hi => ?_⟩
  have hc : i = 0 ∨ i = 1 ∨ i = 2 ∨ i = 3 ∨ i = 4 ∨ i = 5 ∨ i = 6 ∨ i = 7 ∨ i = 8 ∨ i = 9 ∨ i = 10 ∨ i = 11 ∨ i = 12 := by omega
  rcases hc with rfl | rfl | rfl | rfl | rfl | rfl | rfl | rfl | rfl | rfl | rfl | rfl | rfl <;> simp only [List.getD_cons_succ, List.getD_cons_zero] <;> refine ⟨by omega, fun dd h1 h2 => ⟨by omega, by omega, by omega, by omega, by omega⟩⟩
end

section
open PySem PySem.W PySem.Calls PyProof.Rows
def JE (P : Prop) : Prop := P
structure RowAt (P : Int → List Int → Prop) (h₀ : Heap) (L : Addr) (m : Str → Option Value) (news : List (Addr × Obj)) (s : Shared) (v : Value) (s' : Shared) : Prop where
  here : ∃ (Y : Int) (xs : List Int) (T S : Addr) (t : Tok) (vs : List Value) (n c : Nat) (h : Heap) (tk : Nat), P Y xs ∧ v = .ref T ∧ s' = { s with heap := h, toks := tk } ∧ IntsAre vs xs ∧ Fr h₀ L h m ∧
    News h₀ L h ((T, ({ cls := .type "tuple", data := .seq #[.int Y t, .ref S] c } : Obj)) :: (S, ({ cls := .type "list", data := .seq vs.toArray n } : Obj)) :: news)
section
variable {M : Model} {A : Around} {E : Value → Shared → Prop} {s : Shared} {env : Env} {h₀ h : Heap} {L : Addr} {m : Str → Option Value} {news news' : List (Addr × Obj)}
def JIn (k1 k2 : Int) (h₀ : Heap) (L : Addr) (m : Str → Option Value) (news : List (Addr × Obj)) (s : Shared) (Q : Value → Shared → Prop) (b : Bool) (s₂ : Shared) : Prop :=
  (∃ (h : Heap) (tk : Nat), s₂ = { s with heap := h, toks := tk } ∧ Fr h₀ L h m ∧ News h₀ L h news) ∧
    ∀ r, Hide ((b = true ∧ r = k1) ∨ (b = false ∧ r = k2)) → ∀ (t : Tok) (h : Heap) (tk : Nat), Fr h₀ L h m → News h₀ L h news → Q (.int r t) { s with heap := h, toks := tk }
theorem j_ifexp {test : PySem.Expr} {k1 k2 : Int} {c1 c2 : Nat} {p1 p2 pos : Pos} {Q : Value → Shared → Prop} (_F : Fr h₀ L s.heap m) (_N : News h₀ L s.heap news)
    (hc : wpAny M A (isTrue test env (eval test env)) (fun b s₂ => JIn k1 k2 h₀ L m news s Q b s₂) E s) :
    wpAny M A (eval (.IfExp test (.Constant (.int k1) c1 p1) (.Constant (.int k2) c2 p2) pos) env) Q E s := by
  refine IfExp_ (wpAny_mono hc (fun b s₂ hb => ?_) fun _ _ h => h)
  obtain ⟨⟨h, tk, hs, F, N⟩, hk⟩ := hb
  subst hs
  cases b with
  | true => exact wpAny_Constant_int (hk k1 (Hide.mk (.inl ⟨rfl, rfl⟩)) _ _ _ F N)
  | false => exact wpAny_Constant_int (hk k2 (Hide.mk (.inr ⟨rfl, rfl⟩)) _ _ _ F N)
theorem cut_row {e : PySem.Expr} {Q : Value → Shared → Prop} (P : Int → List Int → Prop) (_F : Fr h₀ L s.heap m) (_N : News h₀ L s.heap news)
    (hc : wpAny M A (eval e env) (fun v s' => RowAt P h₀ L m news s v s') E s)
    (hk : ∀ (Y : Int) (xs : List Int), P Y xs → ∀ (T S : Addr) (t : Tok) (vs : List Value) (n c : Nat) (h : Heap) (tk : Nat), IntsAre vs xs → Fr h₀ L h m →
      News h₀ L h ((T, ({ cls := .type "tuple", data := .seq #[.int Y t, .ref S] c } : Obj)) :: (S, ({ cls := .type "list", data := .seq vs.toArray n } : Obj)) :: news) → Q (.ref T) { s with heap := h, toks := tk }) :
    wpAny M A (eval e env) Q E s := by
  refine wpAny_mono hc (fun v s' hq => ?_) fun _ _ h => h
  obtain ⟨Y, xs, T, S, t, vs, n, c, h, tk, hP, hv, hs, hi, F, N⟩ := hq
  subst hv; subst hs
  exact hk Y xs hP T S t vs n c h tk hi F N
theorem RowAt.mk' {P : Int → List Int → Prop} {Y : Int} {xs : List Int} {T S : Addr} {t : Tok} {vs : List Value} {n c : Nat} {tk : Nat} (F : Fr h₀ L h m)
    (N : News h₀ L h ((T, ({ cls := .type "tuple", data := .seq #[.int Y t, .ref S] c } : Obj)) :: (S, ({ cls := .type "list", data := .seq vs.toArray n } : Obj)) :: news)) (hi : IntsAre vs xs) (hP : P Y xs) : RowAt P h₀ L m news s (.ref T) { s with heap := h, toks := tk } :=
  ⟨⟨Y, xs, T, S, t, vs, n, c, h, tk, hP, rfl, rfl, hi, F, N⟩⟩
end
section
variable {prog : Program} {w : World} {A : Around} {E : Value → Shared → Prop} {s : Shared} {h₀ : Heap} {L D S : Addr} {news : List (Addr × Obj)} {n : Nat} {x k : Int} {u : Tok} {Q : Value → Shared → Prop} {vs : List Value} {xs : List Int}
theorem r_inL (N : News h₀ L s.heap news) (hm : (D, ({ cls := .type "tuple", data := .seq vs.toArray n } : Obj)) ∈ news) (hi : IntsAre vs xs)
    (h : Q (.bool (decide (x ∈ xs))) s) : wpAny (model prog w) A (compareOp .In (.int x u) (.ref D)) Q E s := by
  refine in_tuple_ints ⟨_, (N _ hm).1, rfl, _, rfl⟩ hi ?_
  have e : (xs.any (· == x)) = decide (x ∈ xs) := by
    apply Bool.eq_iff_iff.mpr
    simp
  rw [e]; exact h
theorem ints_at {vs : List Value} {xs : List Int} (hi : IntsAre vs xs) : ∀ i : Nat, i < xs.length → ∃ t, vs[i]? = some (.int (xs.getD i 0) t) := by
  induction hi with
  | nil => intro i h; cases h
  | cons n t h ih =>
    intro i hlt
    cases i with
    | zero => exact ⟨t, rfl⟩
    | succ j =>
      obtain ⟨t', e⟩ := ih j (by simpa using hlt)
      exact ⟨t', by simpa using e⟩
/-- an item of a list of ints of the ledger, at a bounded place -/
theorem r_itemI {value slice : PySem.Expr} {Lx : Int → Int → Int → Prop} {K : Nat} {Y : Int} (N : News h₀ L s.heap news) (hm : (S, ({ cls := .type "list", data := .seq vs.toArray n } : Obj)) ∈ news) (hi : IntsAre vs xs) (hP : SzP Lx K Y xs)
    (h0 : 0 ≤ k) (hhi : k < (K : Int)) (hK : K ≤ 13) (h : ∀ (v : Int) (t : Tok), 1 ≤ v → Hide (∀ dd : Int, 1 ≤ dd → dd ≤ v → Lx Y (1 + k) dd) → Q (.int v t) s)
    (hs : subscripted slice false (.ref S) (.int k u) = operate [.ref S, .int k u] (getItem (.ref S) (.int k u)) := by with_unfolding_all rfl) :
    wpAny (model prog w) A (subscriptTail value slice (.ref S) (.int k u)) Q E s := by
  obtain ⟨hl, hv⟩ := hP
  obtain ⟨t, e⟩ := ints_at hi k.toNat (by omega)
  have hk := hv k.toNat (by omega)
  have ek : ((k.toNat : Nat) : Int) = k := by omega
  rw [ek] at hk
  exact r_itemL N hm h0 (by omega) e (h _ _ hk.1 (Hide.mk hk.2)) hs
theorem r_lenI {Lx : Int → Int → Int → Prop} {K : Nat} {Y : Int} (N : News h₀ L s.heap news) (hm : (S, ({ cls := .type "list", data := .seq vs.toArray n } : Obj)) ∈ news) (hi : IntsAre vs xs) (hP : SzP Lx K Y xs) (hK : K ≤ 13)
    (h : Q (.int (K : Int) (s.toks + 1)) { s with toks := s.toks + 1 + 1 }) : wpAny (model prog w) A (call (.builtin "len") [.ref S]) Q E s := by
  have hl : s.heap.IsList S vs.toArray := ⟨_, (N _ hm).1, rfl, _, rfl⟩
  have e : vs.toArray.size = K := by rw [List.size_toArray, hi.length, hP.1]
  refine call_len_list hl (by rw [e]; omega) ?_
  rw [e]
  exact h
end
theorem isl_tab : ∀ v : Fin 30, (((v.val : Nat) : Int) ∈ [2, 5, 7, 10, 13, 16, 18, 21, 24, 26, (29 : Int)]) ↔ 19 ≤ (3 + 11 * ((v.val : Nat) : Int)) % 30 := by decide
theorem isl_leap (y : Int) : (y % 30 ∈ [2, 5, 7, 10, 13, 16, 18, 21, 24, 26, (29 : Int)]) ↔ 19 ≤ (3 + 11 * y) % 30 := by
  have h := isl_tab ⟨(y % 30).toNat, by omega⟩
  rw [show (((y % 30).toNat : Nat) : Int) = y % 30 by omega, show (3 + 11 * (y % 30)) % 30 = (3 + 11 * y) % 30 by omega] at h
  exact h
/-- a comprehension's turn ends: one tuple was made -/
theorem compEnd1 {h₀ : Heap} {L I C D T : Addr} {m : Str → Option Value} {s₁ : Shared} {o oI oC oD : Obj} {S : List (Addr × Obj) → Prop} {rest : Value → List (Addr × Obj) → Prop} {y : Value} {h' : Heap} {tk : Nat} {news : List (Addr × Obj)}
    (F : Fr h₀ L h' m) (N : News h₀ L h' ((T, o) :: (I, oI) :: (C, oC) :: (D, oD) :: news)) (off : LCg.Off3 I C D news) (hT : @Ne Nat T I ∧ @Ne Nat T C ∧ @Ne Nat T D) (hS : S ((T, o) :: news)) (r : rest y ((T, o) :: news)) :
    LCg.CompEnd h₀ L m s₁ I oI C oC D oD S rest y { s₁ with heap := h', toks := tk } :=
  LCg.CompEnd.intro F N ((T, o) :: news) (fun p hp => by
    simp only [List.mem_cons] at hp ⊢
    rcases hp with h | h | h | h | h
    · exact .inr (.inl h)
    · exact .inr (.inr (.inl h))
    · exact .inr (.inr (.inr (.inl h)))
    · exact .inl h
    · exact .inr (.inr (.inr (.inr h)))) ⟨hT, off⟩ hS r
theorem ne3 {T I C D : Addr} {P : Prop} (h : @LT.lt Nat _ I T ∧ @LT.lt Nat _ C T ∧ @LT.lt Nat _ D T ∧ P) : @Ne Nat T I ∧ @Ne Nat T C ∧ @Ne Nat T D :=
  ⟨Nat.ne_of_gt h.1, Nat.ne_of_gt h.2.1, Nat.ne_of_gt h.2.2.1⟩
theorem pos1 {v : Int} (h : 1 ≤ v) : 0 < v := h
end

section
open PySem PySem.W PyProof.Rows PySem.Calls PySem.Flt

theorem fin_leg {Lx : Int → Int → Int → Prop} {Y K1 v d : Int} (hv : 1 ≤ v) (h : Hide (∀ dd : Int, 1 ≤ dd → dd ≤ v → Lx Y K1 dd)) : Lx Y K1 (1 + d % v) :=
  h.out _ (by have := Int.emod_nonneg d (show v ≠ 0 by omega); omega) (by have := Int.emod_lt_of_pos d (show 0 < v by omega); omega)
theorem dates_fin {h₀ h' : Heap} {L De : Addr} {m : Str → Option Value} {news all : List (Addr × Obj)} {s : Shared} {Q : Value → Shared → Prop} {tk' cc : Nat} {Y0 M0 D0 : Int} {T0 : Addr} {a0 b0 e0 : Tok} {c0 : Nat} {Y1 M1 D1 : Int} {T1 : Addr} {a1 b1 e1 : Tok} {c1 : Nat} {Y2 M2 D2 : Int} {T2 : Addr} {a2 b2 e2 : Tok} {c2 : Nat} {Y3 M3 D3 : Int} {T3 : Addr} {a3 b3 e3 : Tok} {c3 : Nat} {Y4 M4 D4 : Int} {T4 : Addr} {a4 b4 e4 : Tok} {c4 : Nat} {Y5 M5 D5 : Int} {T5 : Addr} {a5 b5 e5 : Tok} {c5 : Nat} {Y6 M6 D6 : Int} {T6 : Addr} {a6 b6 e6 : Tok} {c6 : Nat} {Y7 M7 D7 : Int} {T7 : Addr} {a7 b7 e7 : Tok} {c7 : Nat}
    (hret : ∀ (De : Addr) (z0 z1 z2 z3 z4 z5 z6 z7 : DT) (c : Nat) (h' : Heap) (tk' : Nat), Eight z0 z1 z2 z3 z4 z5 z6 z7 → Fr h₀ L h' m → News h₀ L h' ((De, refs8 z0 z1 z2 z3 z4 z5 z6 z7 c) :: (z7.D, tup3 z7.y z7.m z7.d z7.t1 z7.t2 z7.t3 z7.c) :: (z6.D, tup3 z6.y z6.m z6.d z6.t1 z6.t2 z6.t3 z6.c) :: (z5.D, tup3 z5.y z5.m z5.d z5.t1 z5.t2 z5.t3 z5.c) :: (z4.D, tup3 z4.y z4.m z4.d z4.t1 z4.t2 z4.t3 z4.c) :: (z3.D, tup3 z3.y z3.m z3.d z3.t1 z3.t2 z3.t3 z3.c) :: (z2.D, tup3 z2.y z2.m z2.d z2.t1 z2.t2 z2.t3 z2.c) :: (z1.D, tup3 z1.y z1.m z1.d z1.t1 z1.t2 z1.t3 z1.c) :: (z0.D, tup3 z0.y z0.m z0.d z0.t1 z0.t2 z0.t3 z0.c) :: news) → Q (.ref De) { s with heap := h', toks := tk' })
    (F : Fr h₀ L h' m) (N : News h₀ L h' all) (ml : (De, ({ cls := .type "list", data := .seq #[.ref T0, .ref T1, .ref T2, .ref T3, .ref T4, .ref T5, .ref T6, .ref T7] cc } : Obj)) ∈ all) (m0 : (T0, tup3 Y0 M0 D0 a0 b0 e0 c0) ∈ all) (m1 : (T1, tup3 Y1 M1 D1 a1 b1 e1 c1) ∈ all) (m2 : (T2, tup3 Y2 M2 D2 a2 b2 e2 c2) ∈ all) (m3 : (T3, tup3 Y3 M3 D3 a3 b3 e3 c3) ∈ all) (m4 : (T4, tup3 Y4 M4 D4 a4 b4 e4 c4) ∈ all) (m5 : (T5, tup3 Y5 M5 D5 a5 b5 e5 c5) ∈ all) (m6 : (T6, tup3 Y6 M6 D6 a6 b6 e6 c6) ∈ all) (m7 : (T7, tup3 Y7 M7 D7 a7 b7 e7 c7) ∈ all) (mn : ∀ p ∈ news, p ∈ all)
    (E : Eight ⟨Y0, M0, D0, T0, a0, b0, e0, c0⟩ ⟨Y1, M1, D1, T1, a1, b1, e1, c1⟩ ⟨Y2, M2, D2, T2, a2, b2, e2, c2⟩ ⟨Y3, M3, D3, T3, a3, b3, e3, c3⟩ ⟨Y4, M4, D4, T4, a4, b4, e4, c4⟩ ⟨Y5, M5, D5, T5, a5, b5, e5, c5⟩ ⟨Y6, M6, D6, T6, a6, b6, e6, c6⟩ ⟨Y7, M7, D7, T7, a7, b7, e7, c7⟩) : Q (.ref De) { s with heap := h', toks := tk' } := by
  refine hret De ⟨Y0, M0, D0, T0, a0, b0, e0, c0⟩ ⟨Y1, M1, D1, T1, a1, b1, e1, c1⟩ ⟨Y2, M2, D2, T2, a2, b2, e2, c2⟩ ⟨Y3, M3, D3, T3, a3, b3, e3, c3⟩ ⟨Y4, M4, D4, T4, a4, b4, e4, c4⟩ ⟨Y5, M5, D5, T5, a5, b5, e5, c5⟩ ⟨Y6, M6, D6, T6, a6, b6, e6, c6⟩ ⟨Y7, M7, D7, T7, a7, b7, e7, c7⟩ cc h' tk' E F fun p hp => N p ?_
  simp only [List.mem_cons] at hp
  rcases hp with rfl | rfl | rfl | rfl | rfl | rfl | rfl | rfl | rfl | hp
  · exact ml
  · exact m7
  · exact m6
  · exact m5
  · exact m4
  · exact m3
  · exact m2
  · exact m1
  · exact m0
  · exact mn p hp
end

section
open PySem PySem.W PyProof.Rows PySem.Calls PySem.Flt

local macro_rules | `(tactic| walk_at "call ref") => `(tactic| (k_here; (with_reducible show wpAny _ _ (call (Value.ref 232) _) _ _ _); k_dflt (refine' Cl.use (cl_long _ _ _ _ _ _ _ ) ?k1 ?k2 ?k3 ?k4 ?k5 ?kK ?kd ?ku ?_; (case k1 => k_asm); (case k2 => k_asm); (case k3 => k_asm); (case k4 => k_asm); (case k5 => k_asm); (case kK => first | exact rfl | assumption); (case kd => ktr_room); (case ku => ktr_units); intro t9 h9 tk9 F9 N9; (try dsimp only); (try k_fold))))

local macro_rules | `(tactic| walk_at "eval Tuple") => `(tactic| (k_here; (with_reducible show wpAny _ _ (eval (.Tuple [_, _] _ _) _) _ _ _); refine stop_here ?_))
local macro_rules | `(tactic| walk_at "call builtin:len") => `(tactic| (k_here; (with_reducible show wpAny _ _ (call (Value.builtin "len") [Value.ref _]) _ _ _); k_dflt (refine' r_lenI ?N ?m ?i ?P ?K ?_; (case N => k_asm); (case m => k_mem); (case i => assumption); (case P => assumption); (case K => decide); (try dsimp only))))
local macro_rules | `(tactic| walk_at "subscriptTail") => `(tactic| (k_here; (with_reducible show wpAny _ _ (subscriptTail _ _ (Value.ref _) (Value.int _ _)) _ _ _); k_dflt (refine' r_itemI ?N ?m ?i ?P ?a ?b ?K ?_ ?z; (case N => k_asm); (case m => k_mem); (case i => assumption); (case P => assumption); (case a => exact Int.emod_nonneg _ (by decide)); (case b => exact Int.emod_lt_of_pos _ (by decide)); (case K => decide); (case z => with_unfolding_all rfl); intro v9 t9 hv9 hd9; (try dsimp only))))
local macro_rules | `(tactic| walk_at "subscriptTail Name BinOp ref int") => `(tactic| (k_here; (with_reducible show wpAny _ _ (subscriptTail _ _ (Value.ref _) (Value.int _ _)) _ _ _); k_dflt (refine' r_itemI ?N ?m ?i ?P ?a ?b ?K ?_ ?z; (case N => k_asm); (case m => k_mem); (case i => assumption); (case P => assumption); (case a => exact Int.emod_nonneg _ (by decide)); (case b => exact Int.emod_lt_of_pos _ (by decide)); (case K => decide); (case z => with_unfolding_all rfl); intro v9 t9 hv9 hd9; (try dsimp only))))
local macro_rules | `(tactic| walk_at "CompEnd") => `(tactic| (with_unfolding_all (refine compEnd1 (by assumption) (by assumption) (by first | assumption | (simp only [LCg.Off3, and_true]; assumption)) (ne3 (by assumption)) (by lcg_src) ?_)))
local macro_rules | `(tactic| walk_at "binaryOp Mod int int") => `(tactic| ((with_reducible refine' r_mod_ii ?hA ?hp ?_); (case hA => with_plain (exact rfl)); (case hp => first | exact pos1 (by assumption) | decide)))
local macro_rules | `(tactic| walk_at "eval IfExp") => `(tactic| (k_here; k_dflt (refine' j_ifexp ?F ?N ?_; (case F => k_asm); (case N => k_asm))))
local macro_rules | `(tactic| walk_at "JIn") => `(tactic| (refine ⟨⟨_, _, rfl, by assumption, by first | assumption | exact cb_drop (by assumption) (by kcj_all)⟩, ?_⟩; intro r9 hr9 t9 h9 tk9 F9 N9; (try dsimp only)))
local macro_rules | `(tactic| walk_at "compareOp In int ref") => `(tactic| (k_here; k_dflt (refine' r_inL ?N ?m ?i ?_; (case N => k_asm); (case m => k_mem); (case i => (repeat constructor)))))
local macro_rules | `(tactic| k_mem) => `(tactic| ((repeat (first | exact List.Mem.head _ | ktr_member | refine' List.mem_cons_of_mem _ ?_)); done))

section
variable (w : World) (loose : List Str) (mean : ExcName → Option Value) (mg mb : Str → Option Value)
set_option maxRecDepth 100000
set_option maxHeartbeats 8000000
theorem cl_dates (y mo d : Int) (h0 : -100000000000 ≤ y ∧ y ≤ 100000000000) : DatesC w loose mean mg mb y mo d := by
  unfold DatesC
  k_fill
  intro t1 t2 t3 dp un gd cn cs a ccd cl outer A₀ base h₀ L m news s Q E B F X N T hk hdp hun hret
  refine wpAny_call ?_
  k_dflt (refine' code_defC ?k1 ?k2 ?k3 ?k4 ?k5 ?kA ?kF ?kK ?k6 ?k7 ?k8 ?k9 ?kB ?kD ?_ ?c2 ?c3 ?c4; (case kA => exact rfl); (case kF => exact rfl); (case kK => assumption); (case k1 => k_asm); (case k2 => k_asm); (case k3 => k_asm); (case k4 => k_asm); (case k5 => k_asm); (case k6 => k_is); (case k7 => k_is); (case k8 => ktr_room); (case k9 => first | exact BindsTo.of_eq rfl | exact binds_K (by k_in) rfl (by k_is) rfl rfl rfl); (case kB => exact rfl); (case kD => decide +kernel); (case c2 => exact rfl); (case c3 => exact rfl); (case c4 => exact rfl); k_whole; intro g' L' h' tk' cells' FG' F' N' Y' B' X' T' l1; (try k_lt l1); k_cells Y'; (try simp only [List.cons_append, List.nil_append] at N'); (try dsimp only); (try k_lift B'); (try k_fold))
  k_steps
  refine stop_go ?_
  (with_reducible rename Fr _ _ _ _ => jF)
  (with_reducible rename News _ _ _ _ => jN)
  refine cut_row (fun Y xs => SzP LG 12 Y xs ∧ -100000000000 ≤ Y ∧ Y ≤ 100000000000) jF jN ?_ ?_
  focus
    refine Tuple_ ?_
    k_steps
    all_goals (refine RowAt.mk' (xs := [31, _, 31, 30, 31, 30, 31, 31, 30, 31, 30, 31]) (by assumption) (by first | assumption | exact cb_drop (by assumption) (by kcj_all)) (by first | assumption | (repeat constructor)) ?_)
    ((with_reducible rename Hide _ => hr); replace hr := hr.out; simp only [decide_eq_true_eq, decide_eq_false_iff_not, beq_iff_eq, beq_eq_false_iff_ne, ne_eq] at hr; exact ⟨sz0 hr, by omega⟩)
  intro Y0 xs0 ⟨hP0, hB0⟩ T0 S0 rt0 vs0 rn0 rc0 rh0 rtk0 hI0 rF0 rN0
  (try dsimp only)
  k_steps
  refine stop_go ?_
  (with_reducible rename Fr _ _ _ _ => jF)
  (with_reducible rename News _ _ _ _ => jN)
  refine cut_row (fun Y xs => SzP LJ 12 Y xs ∧ -100000000000 ≤ Y ∧ Y ≤ 100000000000) jF jN ?_ ?_
  focus
    refine Tuple_ ?_
    k_steps
    all_goals (refine RowAt.mk' (xs := [31, _, 31, 30, 31, 30, 31, 31, 30, 31, 30, 31]) (by assumption) (by first | assumption | exact cb_drop (by assumption) (by kcj_all)) (by first | assumption | (repeat constructor)) ?_)
    ((with_reducible rename Hide _ => hr); replace hr := hr.out; simp only [decide_eq_true_eq, decide_eq_false_iff_not, beq_iff_eq, beq_eq_false_iff_ne, ne_eq] at hr; exact ⟨sz1 hr, by omega⟩)
  intro Y1 xs1 ⟨hP1, hB1⟩ T1 S1 rt1 vs1 rn1 rc1 rh1 rtk1 hI1 rF1 rN1
  (try dsimp only)
  k_steps
  refine stop_go ?_
  (with_reducible rename Fr _ _ _ _ => jF)
  (with_reducible rename News _ _ _ _ => jN)
  refine cut_row (fun Y xs => SzP LC 13 Y xs ∧ -100000000000 ≤ Y ∧ Y ≤ 100000000000) jF jN ?_ ?_
  focus
    refine Tuple_ ?_
    k_steps
    all_goals (refine RowAt.mk' (xs := [30, 30, 30, 30, 30, 30, 30, 30, 30, 30, 30, 30, _]) (by assumption) (by first | assumption | exact cb_drop (by assumption) (by kcj_all)) (by first | assumption | (repeat constructor)) ?_)
    ((with_reducible rename Hide _ => hr); replace hr := hr.out; simp only [decide_eq_true_eq, decide_eq_false_iff_not, beq_iff_eq, beq_eq_false_iff_ne, ne_eq] at hr; exact ⟨sz2 hr, by omega⟩)
  intro Y2 xs2 ⟨hP2, hB2⟩ T2 S2 rt2 vs2 rn2 rc2 rh2 rtk2 hI2 rF2 rN2
  (try dsimp only)
  k_steps
  refine stop_go ?_
  (with_reducible rename Fr _ _ _ _ => jF)
  (with_reducible rename News _ _ _ _ => jN)
  refine cut_row (fun Y xs => SzP LA 13 Y xs ∧ Y ≤ 100000000001) jF jN ?_ ?_
  focus
    refine Tuple_ ?_
    k_steps
    all_goals (refine RowAt.mk' (xs := [30, 30, 30, 30, 30, 30, 30, 30, 30, 30, 30, 30, 5]) (by assumption) (by first | assumption | exact cb_drop (by assumption) (by kcj_all)) (by first | assumption | (repeat constructor)) ?_)
    exact ⟨sz3 (by omega), by omega⟩
  intro Y3 xs3 ⟨hP3, hB3⟩ T3 S3 rt3 vs3 rn3 rc3 rh3 rtk3 hI3 rF3 rN3
  (try dsimp only)
  k_steps
  refine stop_go ?_
  (with_reducible rename Fr _ _ _ _ => jF)
  (with_reducible rename News _ _ _ _ => jN)
  refine cut_row (fun Y xs => SzP LH 12 Y xs ∧ -100000000000 ≤ Y ∧ Y ≤ 100000000000) jF jN ?_ ?_
  focus
    refine Tuple_ ?_
    k_steps
    all_goals (refine RowAt.mk' (xs := [30, 29, 30, 29, 30, 29, 30, 29, 30, 29, 30, _]) (by assumption) (by first | assumption | exact cb_drop (by assumption) (by kcj_all)) (by first | assumption | (repeat constructor)) ?_)
    ((with_reducible rename Hide _ => hr); replace hr := hr.out; simp only [decide_eq_true_eq, decide_eq_false_iff_not, beq_iff_eq, beq_eq_false_iff_ne, ne_eq] at hr; rw [isl_leap] at hr; exact ⟨sz4 hr, by omega⟩)
  intro Y4 xs4 ⟨hP4, hB4⟩ T4 S4 rt4 vs4 rn4 rc4 rh4 rtk4 hI4 rF4 rN4
  (try dsimp only)
  k_steps
  refine stop_go ?_
  (with_reducible rename Fr _ _ _ _ => jF)
  (with_reducible rename News _ _ _ _ => jN)
  refine cut_row (fun Y xs => SzP LI 12 Y xs ∧ -100000000000 ≤ Y ∧ Y ≤ 100000000000) jF jN ?_ ?_
  focus
    refine Tuple_ ?_
    k_steps
    all_goals (refine RowAt.mk' (xs := [_, 31, 31, 31, 31, 31, 30, 30, 30, 30, 30, 30]) (by assumption) (by first | assumption | exact cb_drop (by assumption) (by kcj_all)) (by first | assumption | (repeat constructor)) ?_)
    ((with_reducible rename Hide _ => hr); replace hr := hr.out; simp only [decide_eq_true_eq, decide_eq_false_iff_not, beq_iff_eq, beq_eq_false_iff_ne, ne_eq] at hr; exact ⟨sz5 (by have := lq_cases (y + 78); unfold Lp at hr; omega) (lq_bd _), by omega⟩)
  intro Y5 xs5 ⟨hP5, hB5⟩ T5 S5 rt5 vs5 rn5 rc5 rh5 rtk5 hI5 rF5 rN5
  (try dsimp only)
  k_steps
  refine stop_go ?_
  (with_reducible rename Fr _ _ _ _ => jF)
  (with_reducible rename News _ _ _ _ => jN)
  refine cut_row (fun Y xs => SzP LF 13 Y xs ∧ Y ≤ 100000000001) jF jN ?_ ?_
  focus
    refine Tuple_ ?_
    k_steps
    all_goals (refine RowAt.mk' (xs := [30, 30, 30, 30, 30, 30, 30, 30, 30, 30, 30, 30, _]) (by assumption) (by first | assumption | exact cb_drop (by assumption) (by kcj_all)) (by first | assumption | (repeat constructor)) ?_)
    ((with_reducible rename Hide _ => hr); replace hr := hr.out; simp only [decide_eq_true_eq, decide_eq_false_iff_not, beq_iff_eq, beq_eq_false_iff_ne, ne_eq] at hr; exact ⟨sz6 (by omega) hr, by omega⟩)
  intro Y6 xs6 ⟨hP6, hB6⟩ T6 S6 rt6 vs6 rn6 rc6 rh6 rtk6 hI6 rF6 rN6
  (try dsimp only)
  k_steps
  refine stop_go ?_
  (with_reducible rename Fr _ _ _ _ => jF)
  (with_reducible rename News _ _ _ _ => jN)
  refine cut_row (fun Y xs => SzP LS 13 Y xs ∧ Y ≤ 100000000533) jF jN ?_ ?_
  focus
    refine Tuple_ ?_
    k_steps
    all_goals (refine RowAt.mk' (xs := [30, 30, 30, 30, 30, 30, 30, 30, 30, 30, 30, 30, _]) (by assumption) (by first | assumption | exact cb_drop (by assumption) (by kcj_all)) (by first | assumption | (repeat constructor)) ?_)
    ((with_reducible rename Hide _ => hr); replace hr := hr.out; simp only [decide_eq_true_eq, decide_eq_false_iff_not, beq_iff_eq, beq_eq_false_iff_ne, ne_eq] at hr; exact ⟨sz7 (by omega) (by omega), by omega⟩)
  intro Y7 xs7 ⟨hP7, hB7⟩ T7 S7 rt7 vs7 rn7 rc7 rh7 rtk7 hI7 rF7 rN7
  (try dsimp only)
  k_steps

  all_goals (refine dates_fin hret (by assumption) (by assumption) (by k_mem) (by k_mem) (by k_mem) (by k_mem) (by k_mem) (by k_mem) (by k_mem) (by k_mem) (by k_mem) (by kcj_all) ?_)
  all_goals (exact ⟨fin_leg (by assumption) (by assumption), fin_leg (by assumption) (by assumption), fin_leg (by assumption) (by assumption), fin_leg (by assumption) (by assumption), fin_leg (by assumption) (by assumption), fin_leg (by assumption) (by assumption), fin_leg (by assumption) (by assumption), fin_leg (by assumption) (by assumption), hB0, hB1, hB2, hB3, hB4, hB5, hB6, hB7⟩)
end
end

theorem law_walk : PySem.Challenge.rw_ad5038_01.Holds := law_of ⟨fun w loose mean mg mb y mo d h => cl_dates w loose mean mg mb y mo d h, fun w loose mean mg mb x0 x1 x2 x3 x4 x5 x6 x7 h => cl_numbers w loose mean mg mb x0 x1 x2 x3 x4 x5 x6 x7 h, fun w loose mean mg mb r hr x0 x1 x2 x3 x4 x5 x6 x7 h => cl_told w loose mean mg mb r hr x0 x1 x2 x3 x4 x5 x6 x7 h⟩
end
end Mine

theorem PySem.Challenge.cw_ad5038_01_holds : PySem.Challenge.rw_ad5038_01.Holds := by
  exact Mine.law_walk
