/-
  The plain arithmetic of this seat: whole numbers below 2^53, and such numbers scaled by a power of two, are float64s exactly; their sums are exact. No Go text in sight.
-/
import Derived.Laws.FloatArith
namespace Go.Proofs.YbulkamduFmt
open Ieee

/-- The float64 of 'n * 2 ^ e'. -/
def G (e n : Int) : Nat := double.nearest (decide (n < 0)) n.natAbs e

theorem floatOfInt_eq (n : Int) : floatOfInt .f64 n = G 0 n := rfl

theorem cut_exact (s : Bool) (m d : Nat) (hm : m ≠ 0) : Toward.even.cut s (m * 2 ^ d) d = m := by
  have hp : 0 < 2 ^ d := Nat.two_pow_pos d
  have hl : d ≤ (m * 2 ^ d).log2 := by
    rw [Nat.le_log2 (by exact Nat.mul_ne_zero hm (by omega))]
    exact Nat.le_mul_of_pos_left _ (Nat.pos_of_ne_zero hm)
  unfold Toward.cut
  simp only [Nat.min_eq_left (show d ≤ (m * 2 ^ d).log2 + 2 by omega), Nat.one_shiftLeft, Nat.mul_div_cancel _ hp, Nat.mul_mod_left, Nat.mul_zero]
  have h2 : (2 ^ d == 0) = false := by simp
  simp [h2]

theorem log2_mul_pow (m K : Nat) (hm : m ≠ 0) : (m * 2 ^ K).log2 = m.log2 + K := by
  rw [Nat.log2_eq_iff (Nat.mul_ne_zero hm (by have := Nat.two_pow_pos K; omega))]
  have h1 := Nat.log2_self_le hm
  have h2 : m < 2 ^ (m.log2 + 1) := Nat.lt_log2_self
  constructor
  · rw [Nat.pow_add]; exact Nat.mul_le_mul_right _ h1
  · rw [show m.log2 + K + 1 = (m.log2 + 1) + K by omega, Nat.pow_add]
    exact Nat.mul_lt_mul_of_pos_right h2 (Nat.two_pow_pos K)

theorem log2_le (m : Nat) (hm : m ≠ 0) (h : m < 2 ^ 53) : m.log2 ≤ 52 := by
  have := (Nat.log2_lt hm).2 h
  omega

/-- The significand, made full. -/
def full (m : Nat) : Nat := m * 2 ^ (52 - m.log2)

theorem full_bounds (m : Nat) (hm : m ≠ 0) (h : m < 2 ^ 53) : 4503599627370496 ≤ full m ∧ full m < 9007199254740992 := by
  have hL := log2_le m hm h
  have h1 := Nat.log2_self_le hm
  have h2 : m < 2 ^ (m.log2 + 1) := Nat.lt_log2_self
  unfold full
  constructor
  · have : 2 ^ m.log2 * 2 ^ (52 - m.log2) ≤ m * 2 ^ (52 - m.log2) := Nat.mul_le_mul_right _ h1
    rw [← Nat.pow_add, show m.log2 + (52 - m.log2) = 52 by omega] at this
    simpa using this
  · have : m * 2 ^ (52 - m.log2) < 2 ^ (m.log2 + 1) * 2 ^ (52 - m.log2) := Nat.mul_lt_mul_of_pos_right h2 (Nat.two_pow_pos _)
    rw [← Nat.pow_add, show m.log2 + 1 + (52 - m.log2) = 53 by omega] at this
    simpa using this

/-- The rung of 'm * 2 ^ e'. -/
def rung (m : Nat) (e : Int) : Nat := (e + m.log2 + 1022).toNat * 4503599627370496 + full m

theorem nearest_eq (s : Bool) (m K : Nat) (e : Int) (hm : m ≠ 0) (h : m < 2 ^ 53) (h0 : -1000 ≤ e) (h1 : e ≤ 900) :
    double.nearest s (m * 2 ^ K) (e - K) = double.word s (rung m e) := by
  have hL := log2_le m hm h
  have hK : m * 2 ^ K ≠ 0 := Nat.mul_ne_zero hm (by have := Nat.two_pow_pos K; omega)
  have hf := full_bounds m hm h
  have hfull : full m ≠ 0 := by omega
  have hlast : max (e - (K : Int) + ((m * 2 ^ K).log2 : Int) - (double.fractionBits : Int)) double.leastPlace = e + m.log2 - 52 := by
    have e1 : (double.fractionBits : Int) = 52 := rfl
    have e2 : double.leastPlace = -1074 := rfl
    rw [e1, e2, log2_mul_pow m K hm]
    omega
  unfold Format.nearest
  rw [if_neg hK]
  simp only [hlast]
  have hb : double.binade = 4503599627370496 := rfl
  have hi : double.infRung = 9218868437227405312 := rfl
  have hl : double.leastPlace = -1074 := rfl
  have hkept : Toward.even.cut s ((m * 2 ^ K) <<< (e - (K : Int) - (e + m.log2 - 52)).toNat) (e + m.log2 - 52 - (e - (K : Int))).toNat = full m := by
    by_cases hc : K ≤ 52 - m.log2
    · rw [show (e - (K : Int) - (e + m.log2 - 52)).toNat = 52 - m.log2 - K by omega, show (e + m.log2 - 52 - (e - (K : Int))).toNat = 0 by omega, Nat.shiftLeft_eq, Nat.mul_assoc, ← Nat.pow_add,
        show K + (52 - m.log2 - K) = 52 - m.log2 by omega]
      have := cut_exact s (full m) 0 hfull
      simpa [full] using this
    · rw [show (e - (K : Int) - (e + m.log2 - 52)).toNat = 0 by omega, show (e + m.log2 - 52 - (e - (K : Int))).toNat = K - (52 - m.log2) by omega, Nat.shiftLeft_eq, Nat.pow_zero, Nat.mul_one]
      have := cut_exact s (full m) (K - (52 - m.log2)) hfull
      rwa [full, Nat.mul_assoc, ← Nat.pow_add, show 52 - m.log2 + (K - (52 - m.log2)) = K by omega, ← full] at this
  rw [hkept, hb, hi, hl, show (e + m.log2 - 52 - -1074).toNat = (e + m.log2 + 1022).toNat by congr 1; omega]
  congr 1
  unfold rung
  exact Nat.min_eq_left (by omega)

theorem read_word (s : Bool) (q kept : Nat) (h0 : 4503599627370496 ≤ kept) (h1 : kept < 9007199254740992) (hq : q ≤ 2000) :
    double.read (double.word s (q * 4503599627370496 + kept)) = .number s kept ((q : Int) - 1074) := by
  have hb : double.binade = 4503599627370496 := rfl
  have hi : double.infRung = 9218868437227405312 := rfl
  have hl : double.leastPlace = -1074 := rfl
  have hs : double.signWeight = 9223372036854775808 := rfl
  have hr : (double.word s (q * 4503599627370496 + kept)) % 9223372036854775808 = q * 4503599627370496 + kept := by
    unfold Format.word
    rw [hs]
    split <;> omega
  have hn : (double.word s (q * 4503599627370496 + kept) / 9223372036854775808 % 2 == 1) = s := by
    unfold Format.word
    rw [hs]
    cases s
    · simp only [Bool.false_eq_true, if_false, beq_eq_false_iff_ne, ne_eq]; omega
    · simp only [if_true, beq_iff_eq]; omega
  unfold Format.read
  simp only [hb, hi, hl, hs, hr, hn]
  rw [if_neg (by omega), if_pos (by omega)]
  have e1 : 4503599627370496 + (q * 4503599627370496 + kept) % 4503599627370496 = kept := by omega
  have e2 : -1074 + (((q * 4503599627370496 + kept) / 4503599627370496 - 1 : Nat) : Int) = (q : Int) - 1074 := by omega
  rw [e1, e2]

/-- The word w stands for 'n * 2 ^ e', with n's own sign (a zero is +0). -/
def Rep (w : Nat) (e n : Int) : Prop := ∃ K : Nat, double.read w = .number (decide (n < 0)) (n.natAbs * 2 ^ K) (e - K)

theorem G_eq (e n : Int) (hn : n ≠ 0) (h : n.natAbs < 2 ^ 53) (h0 : -1000 ≤ e) (h1 : e ≤ 900) : G e n = double.word (decide (n < 0)) (rung n.natAbs e) := by
  have := nearest_eq (decide (n < 0)) n.natAbs 0 e (by omega) h h0 h1
  simpa [G] using this

theorem read_G (e n : Int) (hn : n ≠ 0) (h : n.natAbs < 2 ^ 53) (h0 : -1000 ≤ e) (h1 : e ≤ 900) :
    double.read (G e n) = .number (decide (n < 0)) (n.natAbs * 2 ^ (52 - n.natAbs.log2)) (e - (52 - n.natAbs.log2 : Nat)) := by
  have hm : n.natAbs ≠ 0 := by omega
  have hL := log2_le n.natAbs hm h
  have hf := full_bounds n.natAbs hm h
  rw [G_eq e n hn h h0 h1, rung, read_word _ _ _ hf.1 hf.2 (by omega), full]
  congr 1
  omega

theorem G_zero (e : Int) : G e 0 = 0 := by simp [G, Format.nearest, Format.word]

theorem rep_G (e n : Int) (h : n.natAbs < 2 ^ 53) (h0 : -1000 ≤ e) (h1 : e ≤ 900) : Rep (G e n) e n := by
  by_cases hn : n = 0
  · subst hn
    refine ⟨(e + 1074).toNat, ?_⟩
    rw [G_zero, show e - ((e + 1074).toNat : Int) = -1074 by omega, Int.natAbs_zero, Nat.zero_mul]
    rfl
  · exact ⟨_, read_G e n hn h h0 h1⟩

/-- A number written exactly. -/
theorem write_rep (e n : Int) (K : Nat) (h : n.natAbs < 2 ^ 53) (h0 : -1000 ≤ e) (h1 : e ≤ 900) : double.write (.number (decide (n < 0)) (n.natAbs * 2 ^ K) (e - K)) = G e n := by
  by_cases hn : n = 0
  · subst hn
    rw [G_zero]
    simp [Format.write, Format.nearest, Format.word]
  · rw [G_eq e n hn h h0 h1]
    exact nearest_eq _ _ _ _ (by omega) h h0 h1

theorem signed_rep (n : Int) (K u : Nat) : signed (decide (n < 0)) (n.natAbs * 2 ^ K) u = n * 2 ^ (K + u) := by
  unfold signed
  rw [Nat.shiftLeft_eq, Nat.mul_assoc, ← Nat.pow_add]
  by_cases hn : n < 0
  · simp only [hn, decide_true, if_true]
    have : (n.natAbs : Int) = -n := by omega
    push_cast
    rw [this, Int.neg_mul, Int.neg_neg]
  · simp only [hn, decide_false, Bool.false_eq_true, if_false]
    have : (n.natAbs : Int) = n := by omega
    push_cast
    rw [this]

theorem add_rep {x y : Nat} {e a b : Int} (hx : Rep x e a) (hy : Rep y e b) (h : (a + b).natAbs < 2 ^ 53) (h0 : -1000 ≤ e) (h1 : e ≤ 900) : double.add x y = some (G e (a + b)) := by
  obtain ⟨K, hK⟩ := hx
  obtain ⟨L, hL⟩ := hy
  unfold Format.add
  rw [hK, hL]
  unfold Datum.sum
  simp only [Option.map_some, Option.some.injEq]
  have hmin : min (e - (K : Int)) (e - (L : Int)) = e - ((max K L : Nat) : Int) := by omega
  have ht : signed (decide (a < 0)) (a.natAbs * 2 ^ K) (e - (K : Int) - min (e - (K : Int)) (e - (L : Int))).toNat + signed (decide (b < 0)) (b.natAbs * 2 ^ L) (e - (L : Int) - min (e - (K : Int)) (e - (L : Int))).toNat = (a + b) * 2 ^ (max K L) := by
    rw [signed_rep, signed_rep, hmin, show K + (e - (K : Int) - (e - ((max K L : Nat) : Int))).toNat = max K L by omega, show L + (e - (L : Int) - (e - ((max K L : Nat) : Int))).toNat = max K L by omega, Int.add_mul]
  rw [ht, hmin]
  have hpos : (0 : Int) < 2 ^ (max K L) := Int.pow_pos (by decide)
  have habs : ((a + b) * 2 ^ (max K L)).natAbs = (a + b).natAbs * 2 ^ (max K L) := by
    rw [Int.natAbs_mul, Int.natAbs_pow]; rfl
  have hneg : decide ((a + b) * 2 ^ (max K L) < 0) = decide (a + b < 0) := by
    apply decide_eq_decide.2
    constructor
    · intro hlt
      by_cases hc : a + b < 0
      · exact hc
      · have := Int.mul_nonneg (show 0 ≤ a + b by omega) (Int.le_of_lt hpos)
        omega
    · intro hlt
      exact Int.mul_neg_of_neg_of_pos hlt hpos
  have hsign : (if (a + b) * 2 ^ (max K L) = 0 then (decide (a < 0) && decide (b < 0)) else decide ((a + b) * 2 ^ (max K L) < 0)) = decide (a + b < 0) := by
    split
    · rename_i hz
      have : a + b = 0 := by
        rcases Int.mul_eq_zero.1 hz with h' | h'
        · exact h'
        · omega
      rw [this]
      by_cases ha : a < 0 <;> by_cases hb : b < 0 <;> simp [ha, hb] <;> omega
    · exact hneg
  have goal := write_rep e (a + b) (max K L) h h0 h1
  simp only [habs]
  rw [← goal]
  congr 2

/-- The sum of two such floats. -/
theorem add_G (e a b : Int) (ha : a.natAbs < 2 ^ 53) (hb : b.natAbs < 2 ^ 53) (h : (a + b).natAbs < 2 ^ 53) (h0 : -1000 ≤ e) (h1 : e ≤ 900) : floatBits .add .f64 (G e a) (G e b) = some (G e (a + b)) :=
  add_rep (rep_G e a ha h0 h1) (rep_G e b hb h0 h1) h h0 h1

theorem read_scale : double.read 4318952042648305664 = .number false 4503599627370496 (-116) := by decide +kernel

/-- Scaled by 2^-64. -/
theorem mul_G (n : Int) (h : n.natAbs < 2 ^ 53) : floatBits .mul .f64 (G 0 n) 4318952042648305664 = some (G (-64) n) := by
  obtain ⟨K, hK⟩ := rep_G 0 n h (by decide) (by decide)
  show double.mul _ _ = _
  unfold Format.mul
  rw [hK, read_scale]
  unfold Datum.product
  simp only [Bool.xor_false, Option.map_some, Option.some.injEq]
  have e1 : n.natAbs * 2 ^ K * 4503599627370496 = n.natAbs * 2 ^ (K + 52) := by
    rw [Nat.pow_add, Nat.mul_assoc, show (2 : Nat) ^ 52 = 4503599627370496 from rfl]
  have e2 : (0 : Int) - (K : Int) + -116 = -64 - ((K + 52 : Nat) : Int) := by omega
  rw [e1, e2]
  exact write_rep (-64) n (K + 52) h (by decide) (by decide)

/-- The quotient of two such floats, the second not zero: it has an answer. -/
theorem div_G (a b : Int) (ha : a.natAbs < 2 ^ 53) (hb : b.natAbs < 2 ^ 53) (h : b ≠ 0) : ∃ r, floatBits .quo .f64 (G 0 a) (G 0 b) = some r := by
  obtain ⟨K, hK⟩ := rep_G 0 a ha (by decide) (by decide)
  obtain ⟨L, hL⟩ := rep_G 0 b hb (by decide) (by decide)
  show ∃ r, double.div _ _ = _
  unfold Format.div
  rw [hK, hL]
  unfold Datum.quotient
  have : b.natAbs * 2 ^ L ≠ 0 := Nat.mul_ne_zero (by omega) (by have := Nat.two_pow_pos L; omega)
  simp only [this, if_false, Option.map_some]
  exact ⟨_, rfl⟩

/-- Such a float is no NaN. -/
theorem self_G (a : Int) (ha : a.natAbs < 2 ^ 53) : (FloatKind.format .f64).order (G 0 a) (G 0 a) = some .eq := by
  obtain ⟨K, hK⟩ := rep_G 0 a ha (by decide) (by decide)
  show double.order _ _ = _
  unfold Format.order
  rw [hK]
  unfold Datum.order
  simp [compare, compareOfLessAndEq]

theorem read_max : double.read 9218868437227405311 = .number false 9007199254740991 971 := by decide +kernel

theorem signed_great (a : Int) (M : Nat) (ha : a < 2 * (M : Int)) (E K : Nat) (hE : 1 ≤ E) : a * 2 ^ K < signed false M (E + K) := by
  unfold signed
  rw [Nat.shiftLeft_eq, Nat.pow_add, if_neg Bool.false_ne_true]
  push_cast
  rw [← Int.mul_assoc]
  have hp : (0 : Int) < 2 ^ K := Int.pow_pos (by decide)
  apply Int.mul_lt_mul_of_pos_right _ hp
  have h2 : (2 : Nat) ^ 1 ≤ 2 ^ E := Nat.pow_le_pow_right (by decide) hE
  have h4 : M * 2 ≤ M * 2 ^ E := Nat.mul_le_mul_left M (by simpa using h2)
  have h5 : ((M * 2 : Nat) : Int) ≤ ((M * 2 ^ E : Nat) : Int) := by exact_mod_cast h4
  push_cast at h5
  generalize (M : Int) * 2 ^ E = t at h5 ⊢
  omega

/-- A whole number below 2^53 lies below the greatest float. -/
theorem below_max (a : Int) (ha : a.natAbs < 2 ^ 53) : (FloatKind.format .f64).order (G 0 a) 9218868437227405311 = some .lt := by
  obtain ⟨K, hK⟩ := rep_G 0 a ha (by decide) (by decide)
  show double.order _ _ = _
  unfold Format.order
  rw [hK, read_max]
  unfold Datum.order
  simp only [Option.some.injEq]
  have hm : min (0 - (K : Int)) 971 = 0 - (K : Int) := by omega
  rw [hm, signed_rep, show (0 - (K : Int) - (0 - (K : Int))).toNat = 0 by omega, show (971 - (0 - (K : Int))).toNat = 971 + K by omega, Nat.add_zero]
  have hlt := signed_great a 9007199254740991 (by omega) 971 K (by decide)
  generalize signed false 9007199254740991 (971 + K) = t at hlt ⊢
  simp [compare, compareOfLessAndEq, hlt]

/-- The sign struck off. -/
theorem word_abs (s : Bool) (r : Nat) (h : r < 9223372036854775808) : (double.word s r) % 9223372036854775808 = r := by
  have hs : double.signWeight = 9223372036854775808 := rfl
  unfold Format.word
  rw [hs]
  split <;> omega

theorem abs_G (a : Int) (ha : a.natAbs < 2 ^ 53) : G 0 a % 9223372036854775808 = G 0 (a.natAbs : Int) := by
  by_cases hz : a = 0
  · subst hz; rfl
  · have hf := full_bounds a.natAbs (by omega) ha
    have hL := log2_le a.natAbs (by omega) ha
    have hr : rung a.natAbs 0 < 9223372036854775808 := by unfold rung; omega
    rw [G_eq 0 a hz ha (by decide) (by decide), word_abs _ _ hr, G_eq 0 (a.natAbs : Int) (by omega) (by simpa using ha) (by decide) (by decide)]
    simp only [show ¬ ((a.natAbs : Int) < 0) by omega, decide_false, Int.natAbs_natCast]
    rfl

/-- Such a float's bits are a word's. -/
theorem G_lt (e n : Int) : G e n < 18446744073709551616 := by
  have := double.nearest_lt (decide (n < 0)) n.natAbs e
  exact this
theorem bits_lt {op : BinOp} {x y r : Nat} (h : floatBits op .f64 x y = some r) : r < 18446744073709551616 := by
  have := floatBits_wf h
  simpa [Lit.wf] using this
end Go.Proofs.YbulkamduFmt
