/-
  Plain facts on binary64 words: equality, and the reciprocal. No program is loaded here.
-/
import Derived.Laws.FloatArith
namespace Go.Proofs.Qxb6614116a.Plain
open Ieee

/-- The bits of 1.0. -/
def one : Nat := 4607182418800017408
def B : Nat := 4503599627370496
def I : Nat := 9218868437227405312
def S : Nat := 9223372036854775808

theorem sW : double.signWeight = S := by decide +kernel
theorem bB : double.binade = B := by decide +kernel
theorem iR : double.infRung = I := by decide +kernel
theorem lP : double.leastPlace = -1074 := by decide +kernel

/-- What a word stands for, by its sign and its rung. -/
def rd (neg : Bool) (r : Nat) : Datum :=
  if r < B then .number neg r (-1074) else if r < I then .number neg (B + r % B) (-1074 + ((r / B - 1 : Nat) : Int)) else if r = I then .infinity neg else .nan neg (r - I)
theorem read_eq (x : Nat) : double.read x = rd (x / S % 2 == 1) (x % S) := by
  unfold Format.read rd
  rw [sW, bB, iR, lP]

/-- The magnitude of a rung, in units of the least one. -/
def mag (r : Nat) : Nat := if r < B then r else B + r % B
def up (r : Nat) : Nat := if r < B then 0 else r / B - 1
theorem rd_number (neg : Bool) (r : Nat) (h : r < I) : rd neg r = .number neg (mag r) (-1074 + (up r : Int)) := by
  unfold rd mag up
  by_cases h1 : r < B
  · simp [h1]
  · simp [h1, h]

theorem mag_lt (r : Nat) : mag r < 2 * B := by
  unfold mag
  have : r % B < B := Nat.mod_lt _ (by decide)
  split <;> omega
theorem mag_ge (r : Nat) (h : ¬ r < B) : B ≤ mag r := by
  unfold mag
  rw [if_neg h]; omega
theorem up_inj {r q : Nat} (hu : up r = up q) (hm : mag r = mag q) : r = q := by
  have hp : 0 < B := by decide
  by_cases h1 : r < B
  · by_cases h2 : q < B
    · simpa [mag, h1, h2] using hm
    · have := mag_ge q h2
      rw [← hm] at this
      simp [mag, h1] at this
      omega
  · by_cases h2 : q < B
    · have := mag_ge r h1
      rw [hm] at this
      simp [mag, h2] at this
      omega
    · simp only [mag, up, if_neg h1, if_neg h2] at hu hm
      have e1 := Nat.div_add_mod r B
      have e2 := Nat.div_add_mod q B
      have g1 : 1 ≤ r / B := (Nat.le_div_iff_mul_le hp).2 (by omega)
      have g2 : 1 ≤ q / B := (Nat.le_div_iff_mul_le hp).2 (by omega)
      have e3 : r / B = q / B := by omega
      rw [e3] at e1
      omega
theorem no_less {r q : Nat} (hu : up r < up q) : mag r * 2 ^ up r ≠ mag q * 2 ^ up q := by
  have h2 : ¬ q < B := by
    intro h
    simp [up, h] at hu
  have a1 := mag_lt r
  have a2 := mag_ge q h2
  have e : 2 ^ up q = 2 ^ (up q - up r - 1) * 2 * 2 ^ up r := by
    rw [← Nat.pow_succ, ← Nat.pow_add]
    congr 1
    omega
  have hp : 0 < 2 ^ (up q - up r - 1) := Nat.two_pow_pos _
  have hr : 0 < 2 ^ up r := Nat.two_pow_pos _
  intro h
  rw [e, ← Nat.mul_assoc] at h
  have h' := Nat.eq_of_mul_eq_mul_right hr h
  have : B * 2 ≤ mag q * (2 ^ (up q - up r - 1) * 2) := Nat.mul_le_mul a2 (by omega)
  omega
theorem val_inj {r q : Nat} (h : mag r * 2 ^ up r = mag q * 2 ^ up q) : r = q := by
  rcases Nat.lt_trichotomy (up r) (up q) with hu | hu | hu
  · exact absurd h (no_less hu)
  · rw [hu] at h
    exact up_inj hu (Nat.eq_of_mul_eq_mul_right (Nat.two_pow_pos _) h)
  · exact absurd h.symm (no_less hu)

theorem number_eq {s t : Bool} {m n a b : Nat} (h : Datum.order (.number s m (-1074 + (a : Int))) (.number t n (-1074 + (b : Int))) = some .eq) :
    m * 2 ^ a = n * 2 ^ b ∧ (s = t ∨ m = 0 ∧ n = 0) := by
  simp only [Datum.order, Option.some.injEq, Int.compare_eq_eq] at h
  have e1 : (-1074 + (a : Int) - min (-1074 + (a : Int)) (-1074 + (b : Int))).toNat = a - min a b := by omega
  have e2 : (-1074 + (b : Int) - min (-1074 + (a : Int)) (-1074 + (b : Int))).toNat = b - min a b := by omega
  rw [e1, e2] at h
  simp only [signed, Nat.shiftLeft_eq] at h
  have k1 : m * 2 ^ a = m * 2 ^ (a - min a b) * 2 ^ min a b := by rw [Nat.mul_assoc, ← Nat.pow_add]; congr 2; omega
  have k2 : n * 2 ^ b = n * 2 ^ (b - min a b) * 2 ^ min a b := by rw [Nat.mul_assoc, ← Nat.pow_add]; congr 2; omega
  have z : ∀ c d : Nat, c * 2 ^ d = 0 → c = 0 := fun c d hc => (Nat.mul_eq_zero.1 hc).resolve_right (Nat.ne_of_gt (Nat.two_pow_pos d))
  generalize hX : m * 2 ^ (a - min a b) = X at *
  generalize hY : n * 2 ^ (b - min a b) = Y at *
  cases s <;> cases t <;> simp at h
  · have : X = Y := by omega
    exact ⟨by rw [k1, k2, this], .inl rfl⟩
  · have x0 : X = 0 := by omega
    have y0 : Y = 0 := by omega
    exact ⟨by rw [k1, k2, x0, y0], .inr ⟨z m _ (hX.trans x0), z n _ (hY.trans y0)⟩⟩
  · have x0 : X = 0 := by omega
    have y0 : Y = 0 := by omega
    exact ⟨by rw [k1, k2, x0, y0], .inr ⟨z m _ (hX.trans x0), z n _ (hY.trans y0)⟩⟩
  · have : X = Y := by omega
    exact ⟨by rw [k1, k2, this], .inl rfl⟩

theorem mag_zero {r : Nat} (h : mag r = 0) : r = 0 := by
  by_cases h1 : r < B
  · simpa [mag, h1] using h
  · have := mag_ge r h1
    have : 0 < B := by decide
    omega

/-- Two words that compare as equal are one word, and no NaN; or they are both zeros. -/
theorem order_eq {s t : Bool} {r q : Nat} (h : (rd s r).order (rd t q) = some .eq) : r = q ∧ r ≤ I ∧ (s = t ∨ r = 0) := by
  by_cases h1 : r < I
  · by_cases h2 : q < I
    · rw [rd_number s r h1, rd_number t q h2] at h
      obtain ⟨e, hs⟩ := number_eq h
      refine ⟨val_inj e, by omega, ?_⟩
      rcases hs with hs | hs
      · exact .inl hs
      · exact .inr (mag_zero hs.1)
    · rw [rd_number s r h1] at h
      have hB : ¬ q < B := by have : B < I := by decide
                              omega
      unfold rd at h
      rw [if_neg hB, if_neg h2] at h
      split at h
      · cases t <;> simp [Datum.order] at h
      · simp [Datum.order] at h
  · have hB : ¬ r < B := by have : B < I := by decide
                            omega
    have er : rd s r = if r = I then .infinity s else .nan s (r - I) := by unfold rd; rw [if_neg hB, if_neg h1]
    rw [er] at h
    by_cases h3 : r = I
    · rw [if_pos h3] at h
      by_cases h2 : q < I
      · rw [rd_number t q h2] at h
        cases s <;> simp [Datum.order] at h
      · have hB2 : ¬ q < B := by have : B < I := by decide
                                 omega
        unfold rd at h
        rw [if_neg hB2, if_neg h2] at h
        split at h
        · rename_i h4
          refine ⟨by omega, by omega, .inl ?_⟩
          cases s <;> cases t <;> simp [Datum.order] at h <;> rfl
        · simp [Datum.order] at h
    · rw [if_neg h3] at h
      simp [Datum.order] at h

theorem order_self {s : Bool} {r : Nat} (h : r ≤ I) : (rd s r).order (rd s r) = some .eq := by
  by_cases h1 : r < I
  · rw [rd_number s r h1]
    simp [Datum.order]
  · have e : r = I := by omega
    subst e
    have er : rd s I = .infinity s := by
      unfold rd
      rw [if_neg (by decide), if_neg (by decide), if_pos rfl]
    rw [er]
    simp [Datum.order]

theorem read_word (s : Bool) (q : Nat) (h : q ≤ I) : double.read (double.word s q) = rd s q := by
  rw [read_eq]
  unfold Format.word
  rw [sW]
  have hI : I < S := by decide
  cases s
  · have e1 : q / S = 0 := Nat.div_eq_of_lt (by omega)
    have e2 : q % S = q := Nat.mod_eq_of_lt (by omega)
    simp [e1, e2]
  · have e1 : (S + q) / S = 1 := by rw [Nat.add_div_left _ (by decide), Nat.div_eq_of_lt (by omega)]
    have e2 : (S + q) % S = q := by rw [Nat.add_mod_left]; exact Nat.mod_eq_of_lt (by omega)
    simp [e1, e2]
/-- What is written of no NaN is a word of a sign and a rung up to infinity's. -/
theorem write_form (d : Datum) (h : d.isNaN = false) : ∃ s q, double.write d = double.word s q ∧ q ≤ I := by
  cases d with
  | number s m i =>
    unfold Format.write Format.nearest
    dsimp only
    split
    · exact ⟨s, 0, rfl, Nat.zero_le _⟩
    · exact ⟨s, _, rfl, by rw [← iR]; exact Nat.min_le_right _ _⟩
  | infinity s => exact ⟨s, I, by rw [← iR]; rfl, Nat.le_refl _⟩
  | nan s t => simp [Datum.isNaN] at h
theorem read_one : double.read one = .number false B (-52) := by decide +kernel
/-- One by a word that is no NaN is no NaN. -/
theorem quotient_form (s : Bool) (r : Nat) (h : r ≤ I) : ∃ d, (double.read one).quotient 54 (rd s r) = some d ∧ d.isNaN = false := by
  rw [read_one]
  by_cases h1 : r < I
  · rw [rd_number s r h1]
    simp only [Datum.quotient]
    split
    · rw [if_neg (by decide)]
      exact ⟨_, rfl, rfl⟩
    · exact ⟨_, rfl, rfl⟩
  · have e : r = I := by omega
    subst e
    have er : rd s I = .infinity s := by
      unfold rd
      rw [if_neg (by decide), if_neg (by decide), if_pos rfl]
    rw [er]
    exact ⟨_, rfl, rfl⟩
theorem quotient_zero (s : Bool) : (double.read one).quotient 54 (rd s 0) = some (.infinity s) := by
  cases s <;> decide +kernel
theorem div_eq (x : Nat) : double.div one x = ((double.read one).quotient 54 (rd (x / S % 2 == 1) (x % S))).map double.write := by
  rw [← read_eq]; rfl

/-- THE LAW: of two words that compare as equal the reciprocals are no NaN, and they compare as equal exactly when the signs are the same. -/
theorem recip {x y : Nat} (h : double.order x y = some .eq) :
    ∃ u v, double.div one x = some u ∧ double.div one y = some v ∧ (double.order u v == some .eq) = ((x / S % 2 == 1) == (y / S % 2 == 1)) := by
  have h' : (rd (x / S % 2 == 1) (x % S)).order (rd (y / S % 2 == 1) (y % S)) = some .eq := by rw [← read_eq, ← read_eq]; exact h
  obtain ⟨e, hI, hs⟩ := order_eq h'
  rw [div_eq, div_eq, ← e]
  clear h h' e
  generalize (x / S % 2 == 1) = s at *
  generalize (y / S % 2 == 1) = t at *
  generalize x % S = r at *
  by_cases hst : s = t
  · subst hst
    obtain ⟨d, hd, hn⟩ := quotient_form s r hI
    obtain ⟨s', q, hw, hq⟩ := write_form d hn
    refine ⟨double.write d, double.write d, by rw [hd]; rfl, by rw [hd]; rfl, ?_⟩
    unfold Format.order
    rw [hw, read_word s' q hq, order_self hq]
    simp
  · obtain rfl : r = 0 := hs.resolve_left hst
    refine ⟨double.write (.infinity s), double.write (.infinity t), by rw [quotient_zero]; rfl, by rw [quotient_zero]; rfl, ?_⟩
    cases s <;> cases t <;> first | (exact absurd rfl hst) | decide +kernel

theorem order_symm {x y : Nat} (h : double.order x y = some .eq) : double.order y x = some .eq := by
  have h' : (rd (x / S % 2 == 1) (x % S)).order (rd (y / S % 2 == 1) (y % S)) = some .eq := by rw [← read_eq, ← read_eq]; exact h
  obtain ⟨e, hI, hs⟩ := order_eq h'
  show (double.read y).order (double.read x) = some .eq
  rw [read_eq, read_eq, ← e]
  clear h h' e
  generalize (x / S % 2 == 1) = s at *
  generalize (y / S % 2 == 1) = t at *
  generalize x % S = r at *
  by_cases hst : s = t
  · subst hst
    exact order_self hI
  · obtain rfl : r = 0 := hs.resolve_left hst
    cases s <;> cases t <;> first | (exact absurd rfl hst) | decide +kernel
end Go.Proofs.Qxb6614116a.Plain
