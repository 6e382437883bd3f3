namespace Go.Proofs.Ybulkbhoo.Tick
/-- what tickDigits counts, d digits left. -/
def td : Nat → Int → Int
  | 0, _ => 0
  | d + 1, t => if t.tmod 10 = 0 then td d (t.tdiv 10) else ((d + 1 : Nat) : Int)
/-- what the model comes to, from 10^k on downward. -/
def mdl : Nat → Int → Int
  | 0, _ => 9
  | k + 1, t => if t.tmod (((10 : Nat) ^ (k + 1) : Nat) : Int) = 0 then 9 - ((k + 1 : Nat) : Int) else mdl k t

theorem tmod_zero (t m : Int) : t.tmod m = 0 ↔ m ∣ t := by
  constructor
  · intro h
    exact Int.dvd_of_tmod_eq_zero h
  · intro h
    exact Int.tmod_eq_zero_of_dvd h

theorem td_spec (d : Nat) : ∀ t : Int, ∃ v : Nat, v ≤ d ∧ td d t = (d : Int) - (v : Int) ∧ (((10 : Nat) ^ v : Nat) : Int) ∣ t ∧ (v < d → ¬ ((((10 : Nat) ^ (v + 1) : Nat) : Int) ∣ t)) := by
  induction d with
  | zero => intro t; exact ⟨0, Nat.le_refl _, by simp [td], ⟨t, by simp⟩, fun h => absurd h (Nat.lt_irrefl _)⟩
  | succ d ih =>
    intro t
    by_cases h : t.tmod 10 = 0
    · obtain ⟨x, hx⟩ := (tmod_zero t 10).1 h
      have hd : t.tdiv 10 = x := by rw [hx, Int.mul_tdiv_cancel_left _ (by decide)]
      obtain ⟨v, h1, h2, ⟨y, hy⟩, h4⟩ := ih x
      refine ⟨v + 1, by omega, ?_, ?_, ?_⟩
      · rw [td, if_pos h, hd, h2]; omega
      · refine ⟨y, ?_⟩
        rw [hx, hy, Nat.pow_succ]
        simp only [Int.natCast_mul]
        rw [← Int.mul_assoc, Int.mul_comm 10]; rfl
      · intro hv ⟨z, hz⟩
        refine h4 (by omega) ⟨z, ?_⟩
        rw [hx, Nat.pow_succ] at hz
        simp only [Int.natCast_mul] at hz
        have : (10 : Int) * x = 10 * ((((10 : Nat) ^ (v + 1) : Nat) : Int) * z) := by
          rw [hz, ← Int.mul_assoc, Int.mul_comm 10]; rfl
        exact Int.eq_of_mul_eq_mul_left (by decide) this
    · refine ⟨0, by omega, by rw [td, if_neg h]; omega, ⟨t, by simp⟩, fun _ hdv => h ((tmod_zero t 10).2 ?_)⟩
      simpa using hdv

theorem mdl_spec (k : Nat) : ∀ t : Int, ∃ v : Nat, v ≤ k ∧ mdl k t = 9 - (v : Int) ∧ (((10 : Nat) ^ v : Nat) : Int) ∣ t ∧ (v < k → ¬ ((((10 : Nat) ^ (v + 1) : Nat) : Int) ∣ t)) := by
  induction k with
  | zero => intro t; exact ⟨0, Nat.le_refl _, by simp [mdl], ⟨t, by simp⟩, fun h => absurd h (Nat.lt_irrefl _)⟩
  | succ k ih =>
    intro t
    by_cases h : t.tmod (((10 : Nat) ^ (k + 1) : Nat) : Int) = 0
    · exact ⟨k + 1, Nat.le_refl _, by rw [mdl, if_pos h], (tmod_zero _ _).1 h, fun h => absurd h (Nat.lt_irrefl _)⟩
    · obtain ⟨v, h1, h2, h3, h4⟩ := ih t
      refine ⟨v, by omega, by rw [mdl, if_neg h, h2], h3, fun hv => ?_⟩
      by_cases e : v = k
      · subst e; exact fun hd => h ((tmod_zero _ _).2 hd)
      · exact h4 (by omega)

theorem pow_dvd_of_le {a b : Nat} (h : a ≤ b) {t : Int} (hd : (((10 : Nat) ^ b : Nat) : Int) ∣ t) : (((10 : Nat) ^ a : Nat) : Int) ∣ t :=
  Int.dvd_trans (Int.natCast_dvd_natCast.2 (Nat.pow_dvd_pow 10 h)) hd

theorem td_mdl (t : Int) : td 9 t = mdl 9 t := by
  obtain ⟨v, v1, v2, v3, v4⟩ := td_spec 9 t
  obtain ⟨u, u1, u2, u3, u4⟩ := mdl_spec 9 t
  have e : v = u := by
    rcases Nat.lt_trichotomy v u with h | h | h
    · exact absurd (pow_dvd_of_le (show v + 1 ≤ u from h) u3) (v4 (by omega))
    · exact h
    · exact absurd (pow_dvd_of_le (show u + 1 ≤ v from h) v3) (u4 (by omega))
  rw [v2, u2, e]; rfl

theorem td_scaled (b : Int) (hb : b.tmod 10 ≠ 0) (k : Nat) : ∀ d : Nat, k ≤ d → td d (b * (((10 : Nat) ^ k : Nat) : Int)) = (d : Int) - (k : Int) := by
  induction k with
  | zero =>
    intro d _
    cases d with
    | zero => simp [td]
    | succ d => simp only [Nat.pow_zero, Int.natCast_one, Int.mul_one]; rw [td, if_neg hb]; omega
  | succ k ih =>
    intro d hd
    cases d with
    | zero => omega
    | succ d =>
      have e : b * (((10 : Nat) ^ (k + 1) : Nat) : Int) = 10 * (b * (((10 : Nat) ^ k : Nat) : Int)) := by
        rw [Nat.pow_succ]; simp only [Int.natCast_mul]; rw [← Int.mul_assoc, Int.mul_comm _ ((10 : Nat) : Int)]; rfl
      rw [e, td, if_pos (by rw [Int.mul_tmod_right]), Int.mul_tdiv_cancel_left _ (by decide), ih d (by omega)]
      omega

theorem tdiv10_bd (x : Int) (h1 : -9223372036854775808 ≤ x) (h2 : x ≤ 9223372036854775807) : -9223372036854775808 ≤ x.tdiv 10 ∧ x.tdiv 10 ≤ 9223372036854775807 := by
  rcases Int.le_total 0 x with h | h
  · rw [Int.tdiv_eq_ediv_of_nonneg h]; omega
  · have e : x.tdiv 10 = -((-x).tdiv 10) := by rw [Int.neg_tdiv, Int.neg_neg]
    rw [e, Int.tdiv_eq_ediv_of_nonneg (by omega)]; omega

theorem pow_bd (k : Nat) (h : k ≤ 9) : (1 : Int) ≤ (((10 : Nat) ^ k : Nat) : Int) ∧ (((10 : Nat) ^ k : Nat) : Int) ≤ 1000000000 := by
  have h1 : 0 < (10 : Nat) ^ k := Nat.pow_pos (by decide)
  have h2 : (10 : Nat) ^ k ≤ 10 ^ 9 := Nat.pow_le_pow_right (by decide) h
  have h3 : (10 : Nat) ^ 9 = 1000000000 := by decide
  omega

theorem pow_div (k : Nat) : (((10 : Nat) ^ (k + 1) : Nat) : Int) / 10 = (((10 : Nat) ^ k : Nat) : Int) := by
  rw [Nat.pow_succ]; omega

theorem td_stop (d : Nat) (z : Int) (h : z.tmod 10 ≠ 0) : td d z = (d : Int) := by
  cases d with
  | zero => rfl
  | succ d => rw [td, if_neg h]

theorem scale_step (b : Int) (j : Nat) : b * (((10 : Nat) ^ j : Nat) : Int) * 10 = b * (((10 : Nat) ^ (j + 1) : Nat) : Int) := by
  rw [Nat.pow_succ]; simp only [Int.natCast_mul]; rw [Int.mul_assoc]; rfl

theorem scale_bd (b : Int) (h1 : -999999999 ≤ b) (h2 : b ≤ 999999999) (j : Nat) (hj : j ≤ 9) : -1000000000000000000 ≤ b * (((10 : Nat) ^ j : Nat) : Int) ∧ b * (((10 : Nat) ^ j : Nat) : Int) ≤ 1000000000000000000 := by
  obtain ⟨p1, p2⟩ := pow_bd j hj
  generalize (((10 : Nat) ^ j : Nat) : Int) = p at *
  have a1 : b * p ≤ 999999999 * p := Int.mul_le_mul_of_nonneg_right h2 (by omega)
  have a2 : -999999999 * p ≤ b * p := Int.mul_le_mul_of_nonneg_right h1 (by omega)
  omega

theorem last_pos (u v : Int) (hu : 0 ≤ u) (hv1 : 0 ≤ v) (hv2 : v ≤ 8) : (u * 10 + v + 1).tmod 10 ≠ 0 := by
  rw [Int.tmod_eq_emod_of_nonneg (by omega)]; omega
theorem last_neg (u v : Int) (hu : 0 ≤ u) (hv1 : 0 ≤ v) (hv2 : v ≤ 8) : (-(u * 10 + v + 1)).tmod 10 ≠ 0 := by
  rw [Int.neg_tmod]; have := last_pos u v hu hv1 hv2; omega
theorem units : td 9 1 = 9 ∧ td 9 1000 = 6 ∧ td 9 1000000 = 3 ∧ td 9 1000000000 = 0 := by decide +kernel
end Go.Proofs.Ybulkbhoo.Tick
