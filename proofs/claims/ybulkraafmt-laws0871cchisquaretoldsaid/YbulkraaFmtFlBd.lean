import Derived.Test.YbulkraaFmtFlFn
namespace Go.Proofs.YbulkraaFmt
namespace Fl
open Ieee

theorem log2_lt {n k : Nat} (h : n < 2 ^ k) (hn : n ≠ 0) : n.log2 < k := (Nat.log2_lt hn).2 h
theorem le_log2 {n : Nat} (hn : n ≠ 0) : 2 ^ n.log2 ≤ n := Nat.log2_self_le hn
theorem lt_log2 (n : Nat) : n < 2 ^ (n.log2 + 1) := Nat.lt_log2_self

/-- A cut is at most the quotient and one. -/
theorem cut_le (way : Toward) (neg : Bool) (n drop : Nat) : way.cut neg n drop ≤ n / 2 ^ (min drop (n.log2 + 2)) + 1 := by
  unfold Toward.cut
  simp only [Nat.shiftLeft_eq, Nat.one_mul]
  have : ∀ b : Bool, b.toNat ≤ 1 := fun b => by cases b <;> decide
  exact Nat.add_le_add_left (this _) _

/-- What is kept of a significand fits 53 bits and a carry. -/
theorem kept_le (neg : Bool) (mag : Nat) (place last : Int) (hl : place + mag.log2 - 52 ≤ last) :
    Toward.even.cut neg (mag <<< (place - last).toNat) (last - place).toNat ≤ 2 ^ 53 := by
  refine Nat.le_trans (cut_le _ _ _ _) ?_
  by_cases h : last ≤ place
  · have e1 : (last - place).toNat = 0 := by omega
    rw [e1, Nat.zero_min, Nat.pow_zero, Nat.div_one, Nat.shiftLeft_eq]
    have h1 := lt_log2 mag
    have h2 : mag.log2 + 1 + (place - last).toNat ≤ 53 := by omega
    have h3 : mag * 2 ^ (place - last).toNat < 2 ^ (mag.log2 + 1 + (place - last).toNat) := by
      rw [Nat.pow_add]; exact Nat.mul_lt_mul_of_pos_right h1 (Nat.two_pow_pos _)
    have h4 : 2 ^ (mag.log2 + 1 + (place - last).toNat) ≤ 2 ^ 53 := Nat.pow_le_pow_right (by decide) h2
    omega
  · have e1 : (place - last).toNat = 0 := by omega
    rw [e1, Nat.shiftLeft_zero]
    have h1 := lt_log2 mag
    by_cases h5 : (last - place).toNat ≤ mag.log2 + 2
    · rw [Nat.min_eq_left h5]
      have h6 : mag.log2 + 1 ≤ 53 + (last - place).toNat := by omega
      have h7 : mag < 2 ^ 53 * 2 ^ (last - place).toNat := by
        rw [← Nat.pow_add]; exact Nat.lt_of_lt_of_le h1 (Nat.pow_le_pow_right (by decide) h6)
      have h8 : mag / 2 ^ (last - place).toNat < 2 ^ 53 := Nat.div_lt_of_lt_mul (by rw [Nat.mul_comm]; exact h7)
      omega
    · rw [Nat.min_eq_right (by omega)]
      have h8 : mag / 2 ^ (mag.log2 + 2) = 0 := Nat.div_eq_of_lt (Nat.lt_of_lt_of_le h1 (Nat.pow_le_pow_right (by decide) (by omega)))
      rw [h8]; decide

theorem lp : double.leastPlace = -1074 := by decide
theorem fb : double.fractionBits = 52 := rfl

/-- A number whose leading digit stands at place E at most is written on a rung of E's binade at most. -/
theorem nearest_bd (neg : Bool) (mag : Nat) (place E : Int) (hE : -1022 ≤ E) (hE2 : E ≤ 1000) (h : mag = 0 ∨ place + mag.log2 ≤ E) :
    ∃ rung : Nat, (rung : Int) ≤ (E + 1024) * 4503599627370496 ∧ double.nearest neg mag place = double.word neg rung := by
  unfold Format.nearest
  by_cases hm : mag = 0
  · rw [if_pos hm]
    exact ⟨0, by omega, rfl⟩
  · rw [if_neg hm]
    have h' : place + mag.log2 ≤ E := by omega
    refine ⟨_, ?_, rfl⟩
    have hk := kept_le neg mag place (max (place + mag.log2 - double.fractionBits) double.leastPlace) (by rw [fb]; omega)
    generalize Toward.even.cut neg (mag <<< (place - max (place + mag.log2 - double.fractionBits) double.leastPlace).toNat) (max (place + mag.log2 - double.fractionBits) double.leastPlace - place).toNat = K at hk
    have hl : max (place + mag.log2 - double.fractionBits) double.leastPlace ≤ E - 52 := by rw [fb, lp]; omega
    generalize max (place + mag.log2 - double.fractionBits) double.leastPlace = last at hl
    rw [bn, ir, lp]
    have h53 : (2 : Nat) ^ 53 = 9007199254740992 := by decide
    have h52 : (2 : Nat) ^ 52 = 4503599627370496 := by decide
    rw [h53] at hk
    rw [h52]
    have : (last - -1074).toNat ≤ (E + 1022).toNat := by omega
    omega

/-- The number on such a rung. -/
theorem read_bd (neg : Bool) (rung : Nat) (E : Int) (hE : -1022 ≤ E) (hE2 : E ≤ 1000) (h : (rung : Int) ≤ (E + 1024) * 4503599627370496) :
    ∃ m p, double.read (double.word neg rung) = .number neg m p ∧ m < 2 ^ 53 ∧ p ≤ E - 51 := by
  have hw : double.word neg rung % double.signWeight = rung ∧ (double.word neg rung / double.signWeight % 2 == 1) = neg := by
    unfold Format.word
    rw [sw]
    cases neg <;> simp <;> omega
  unfold Format.read
  simp only [hw.1, hw.2, bn, ir, lp]
  by_cases h1 : rung < 2 ^ 52
  · rw [if_pos h1]
    exact ⟨rung, -1074, rfl, by omega, by omega⟩
  · rw [if_neg h1, if_pos (by omega)]
    exact ⟨_, _, rfl, by omega, by omega⟩

/-- Made whole, it is small. -/
theorem whole_bd (way : Toward) (neg : Bool) (m : Nat) (p : Int) (e : Nat) (hm : m < 2 ^ 53) (hp : p ≤ (e : Int) - 51) (he : e ≤ 20) :
    way.cut neg (m <<< p.toNat) (-p).toNat ≤ 2 ^ (e + 2) + 1 := by
  refine Nat.le_trans (cut_le _ _ _ _) ?_
  have e1 : p.toNat = 0 := by omega
  rw [e1, Nat.shiftLeft_zero]
  refine Nat.add_le_add_right ?_ 1
  by_cases h5 : (-p).toNat ≤ m.log2 + 2
  · rw [Nat.min_eq_left h5]
    have h7 : m < 2 ^ (e + 2) * 2 ^ (-p).toNat := by
      rw [← Nat.pow_add]; exact Nat.lt_of_lt_of_le hm (Nat.pow_le_pow_right (by decide) (by omega))
    exact Nat.le_of_lt (Nat.div_lt_of_lt_mul (by rw [Nat.mul_comm]; exact h7))
  · rw [Nat.min_eq_right (by omega)]
    rw [Nat.div_eq_of_lt (Nat.lt_of_lt_of_le (lt_log2 m) (Nat.pow_le_pow_right (by decide) (by omega)))]
    exact Nat.zero_le _

/-- The quotient by ln 2. -/
theorem ln2_read : double.read 4604418534313441775 = .number false 6243314768165359 (-53) := by decide
theorem quot_bd (s : Bool) (m : Nat) (p E : Int) (h : m = 0 ∨ p + m.log2 ≤ E) :
    ∃ M P, (Datum.number s m p).quotient 54 (.number false 6243314768165359 (-53)) = some (.number s M P) ∧ (M = 0 ∨ P + M.log2 ≤ E + 1) := by
  refine ⟨_, _, by simp [Datum.quotient]; exact ⟨rfl, rfl⟩, ?_⟩
  have hn : Nat.log2 6243314768165359 = 52 := by decide
  rw [hn]
  by_cases hm : m = 0
  · subst hm
    left
    simp
  · have h' : p + m.log2 ≤ E := by omega
    generalize hd : m <<< (54 + 52 - m.log2) = D
    have hD : D < 2 ^ (m.log2 + 1 + (54 + 52 - m.log2)) := by
      rw [← hd, Nat.shiftLeft_eq, Nat.pow_add]; exact Nat.mul_lt_mul_of_pos_right (lt_log2 m) (Nat.two_pow_pos _)
    have hq : D / 6243314768165359 < 2 ^ (m.log2 + 1 + (54 + 52 - m.log2) - 52) := by
      refine Nat.div_lt_of_lt_mul ?_
      have h52 : (2 : Nat) ^ 52 ≤ 6243314768165359 := by decide
      refine Nat.lt_of_lt_of_le hD ?_
      rw [show m.log2 + 1 + (54 + 52 - m.log2) = 52 + (m.log2 + 1 + (54 + 52 - m.log2) - 52) from by omega, Nat.pow_add]
      rw [show 52 + (m.log2 + 1 + (54 + 52 - m.log2) - 52) - 52 = m.log2 + 1 + (54 + 52 - m.log2) - 52 from by omega]
      exact Nat.mul_le_mul_right _ h52
    have hr : (D % 6243314768165359 != 0).toNat ≤ 1 := by cases (D % 6243314768165359 != 0) <;> decide
    generalize hM : 2 * (D / 6243314768165359) + (D % 6243314768165359 != 0).toNat = M
    have hMlt : M < 2 ^ (m.log2 + 1 + (54 + 52 - m.log2) - 52 + 1) := by
      rw [Nat.pow_succ]; omega
    by_cases hM0 : M = 0
    · left; exact hM0
    · right
      have := log2_lt hMlt hM0
      omega

/-- Between the limits of Exp a number's leading digit stands low. -/
theorem limL : double.read 4649917901605096508 = .number false 6706685786115132 (-43) := by decide
theorem limM : double.read 13873289938459872316 = .number true 6706685786115132 (-43) := by decide

theorem shift_bd (m : Nat) (p : Int) (a b : Nat) (base : Int) (ha : a = (p - base).toNat) (hb : b = (-43 - base).toNat) (h1 : base ≤ p) (h2 : base ≤ -43) (h : m * 2 ^ a ≤ 6706685786115132 * 2 ^ b) : m = 0 ∨ p + m.log2 ≤ 9 := by
  by_cases hm : m = 0
  · left; exact hm
  · right
    have h3 : 2 ^ (m.log2 + a) ≤ m * 2 ^ a := by rw [Nat.pow_add]; exact Nat.mul_le_mul_right _ (le_log2 hm)
    have h4 : 6706685786115132 * 2 ^ b < 2 ^ (53 + b) := by
      rw [Nat.pow_add]; exact Nat.mul_lt_mul_of_pos_right (by decide) (Nat.two_pow_pos _)
    have h5 : m.log2 + a < 53 + b := (Nat.pow_lt_pow_iff_right (by decide : 1 < 2)).1 (by omega)
    omega

theorem cmp_gt {a b : Int} (h : ¬ compare a b = .gt) : a ≤ b := by
  by_cases h1 : a < b
  · omega
  · by_cases h2 : a = b
    · omega
    · exact absurd (show compare a b = .gt by simp [compare, compareOfLessAndEq, h1, h2]) h
theorem cmp_lt {a b : Int} (h : ¬ compare a b = .lt) : b ≤ a := by
  by_cases h1 : a < b
  · exact absurd (show compare a b = .lt by simp [compare, compareOfLessAndEq, h1]) h
  · omega
theorem cast_le {m k a b : Nat} (h : (m : Int) * 2 ^ a ≤ (k : Int) * 2 ^ b) : m * 2 ^ a ≤ k * 2 ^ b := by
  have h' : ((m * 2 ^ a : Nat) : Int) ≤ ((k * 2 ^ b : Nat) : Int) := by
    rw [Int.natCast_mul, Int.natCast_mul, Int.natCast_pow, Int.natCast_pow]; exact h
  exact Int.ofNat_le.1 h'

theorem in_limits {v : Nat} (h0 : nanW v = false) (h1 : gt (some v) expL = false) (h2 : lt (some v) expM = false) :
    ∃ s m p, double.read v = .number s m p ∧ (m = 0 ∨ p + m.log2 ≤ 9) := by
  have e1 : cmp (some v) expL = (double.read v).order (.number false 6706685786115132 (-43)) := by rw [← limL]; rfl
  have e2 : cmp (some v) expM = (double.read v).order (.number true 6706685786115132 (-43)) := by rw [← limM]; rfl
  unfold gt at h1
  unfold lt at h2
  rw [e1] at h1
  rw [e2] at h2
  unfold nanW at h0
  cases hr : double.read v with
  | nan s t => rw [hr] at h0; cases h0
  | infinity s =>
    rw [hr] at h1 h2
    cases s
    · simp [Datum.order] at h1
    · simp [Datum.order] at h2
  | number s m p =>
    rw [hr] at h1 h2
    refine ⟨s, m, p, rfl, ?_⟩
    cases s
    · simp [Datum.order, signed, Nat.shiftLeft_eq] at h1
      have h3 := cmp_gt h1
      refine shift_bd m p _ _ (min p (-43)) rfl rfl (by omega) (by omega) ?_
      exact cast_le h3
    · simp [Datum.order, signed, Nat.shiftLeft_eq] at h2
      have h3 := Int.neg_le_neg_iff.1 (cmp_lt h2)
      refine shift_bd m p _ _ (min p (-43)) rfl rfl (by omega) (by omega) ?_
      exact cast_le h3

theorem pow14 : (2 : Nat) ^ (12 + 2) + 1 = 16385 := by decide
theorem pow12 : (2 : Nat) ^ (10 + 2) + 1 = 4097 := by decide

/-- What Exp asks of int(k): it is fixed, and small. -/
theorem exp_int {v : Nat} (h0 : nanW v = false) (h1 : gt (some v) expL = false) (h2 : lt (some v) expM = false) :
    ∃ u, div (some v) ln2 = some u ∧ nanW u = false ∧ ∃ n : Int, toI (rte (some u)) = some n ∧ -100000 ≤ n ∧ n ≤ 100000 := by
  obtain ⟨s, m, p, hr, hb⟩ := in_limits h0 h1 h2
  obtain ⟨M, P, hq, hM⟩ := quot_bd s m p 9 hb
  have e1 : div (some v) ln2 = some (double.write (.number s M P)) := by
    show double.div v 4604418534313441775 = _
    unfold Format.div
    rw [hr, ln2_read]
    show (Datum.quotient 54 _ _).map _ = _
    rw [hq]; rfl
  obtain ⟨g, hg, ew⟩ := nearest_bd s M P 10 (by decide) (by decide) hM
  obtain ⟨m1, p1, er, hm1, hp1⟩ := read_bd s g 10 (by decide) (by decide) hg
  have e2 : double.write (.number s M P) = double.word s g := ew
  refine ⟨_, e1, write_not_nan _ rfl, ?_⟩
  have c1 := whole_bd .even s m1 p1 10 hm1 (by omega) (by decide)
  rw [pow12] at c1
  generalize hc : Toward.even.cut s (m1 <<< p1.toNat) (-p1).toNat = C at c1
  have e3 : rte (some (double.write (.number s M P))) = some (double.nearest s C 0) := by
    show some (double.write ((double.read (double.write (.number s M P))).integral .even)) = _
    rw [e2, er]
    show some (double.nearest s (Toward.even.cut s (m1 <<< p1.toNat) (-p1).toNat) 0) = _
    rw [hc]
  have hC : C = 0 ∨ (0 : Int) + C.log2 ≤ 12 := by
    by_cases h : C = 0
    · left; exact h
    · right
      have := log2_lt (show C < 2 ^ 13 by have : (2 : Nat) ^ 13 = 8192 := by decide
                                          omega) h
      omega
  obtain ⟨g2, hg2, ew2⟩ := nearest_bd s C 0 12 (by decide) (by decide) hC
  obtain ⟨m2, p2, er2, hm2, hp2⟩ := read_bd s g2 12 (by decide) (by decide) hg2
  have c2 := whole_bd .zero s m2 p2 12 hm2 (by omega) (by decide)
  rw [pow14] at c2
  generalize hc2 : Toward.zero.cut s (m2 <<< p2.toNat) (-p2).toNat = C2 at c2
  have e4 : (FloatKind.f64.decode (double.nearest s C 0)).toInt .zero = some (signed s C2 0) := by
    show (double.read (double.nearest s C 0)).toInt .zero = _
    rw [ew2, er2]
    show some (signed s (Toward.zero.cut s (m2 <<< p2.toNat) (-p2).toNat) 0) = _
    rw [hc2]
  have hs : -100000 ≤ signed s C2 0 ∧ signed s C2 0 ≤ 100000 := by
    unfold signed
    rw [Nat.shiftLeft_zero]
    cases s <;> simp <;> omega
  refine ⟨signed s C2 0, ?_, hs⟩
  rw [e3]
  show floatToIntVal .f64 (double.nearest s C 0) .i64 = _
  unfold floatToIntVal
  rw [e4]
  have i1 : IntKind.i64.min = -9223372036854775808 := rfl
  have i2 : IntKind.i64.max = 9223372036854775807 := rfl
  simp only [i1, i2]
  rw [if_pos (by omega)]
end Fl
end Go.Proofs.YbulkraaFmt
