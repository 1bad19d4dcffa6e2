import Derived.Laws.FloatArith
import Derived.Laws.BitsAllLaws
namespace Go.Proofs.YbulkraaFmt
namespace Fl

/-- A float64 up to a NaN's bits: 'some b': the word b, which is no NaN; 'none': a NaN. -/
abbrev F := Option Nat

def nanW (b : Nat) : Bool := (Ieee.double.read b).isNaN
def ofWord (b : Nat) : F := if nanW b then none else some b
/-- The word b is what 'o' says. -/
structure Is (b : Nat) (o : F) : Prop where
  lt : b < 2 ^ 64
  eq : ofWord b = o

def add (x y : F) : F := x.bind fun a => y.bind fun b => Ieee.double.add a b
def sub (x y : F) : F := x.bind fun a => y.bind fun b => Ieee.double.sub a b
def mul (x y : F) : F := x.bind fun a => y.bind fun b => Ieee.double.mul a b
def div (x y : F) : F := x.bind fun a => y.bind fun b => Ieee.double.div a b
def cmp (x y : F) : Option Ordering := x.bind fun a => y.bind fun b => Ieee.double.order a b
def lt (x y : F) : Bool := cmp x y == some .lt
def gt (x y : F) : Bool := cmp x y == some .gt
def eq (x y : F) : Bool := cmp x y == some .eq
def le (x y : F) : Bool := cmp x y == some .lt || cmp x y == some .eq
def neg (x : F) : F := x.map fun b => Op.negFloat .f64 b
def abs (x : F) : F := x.map fun b => b % 2 ^ 63
def ofInt (n : Int) : F := some (floatOfInt .f64 n)

/-! ### Which words are NaNs -/
theorem sw : Ieee.double.signWeight = 2 ^ 63 := by decide
theorem bn : Ieee.double.binade = 2 ^ 52 := by decide
theorem ir : Ieee.double.infRung = 2047 * 2 ^ 52 := by decide

theorem nan_iff (b : Nat) : nanW b = decide (2047 * 2 ^ 52 < b % 2 ^ 63) := by
  unfold nanW Ieee.Format.read
  simp only [sw, bn, ir]
  split
  · rename_i h; simp [Ieee.Datum.isNaN]; omega
  · split
    · rename_i h; simp [Ieee.Datum.isNaN]; omega
    · split
      · rename_i h; simp [Ieee.Datum.isNaN, h]
      · simp [Ieee.Datum.isNaN]; omega

theorem word_not_nan (neg : Bool) (rung : Nat) (h : rung ≤ 2047 * 2 ^ 52) : nanW (Ieee.double.word neg rung) = false := by
  rw [nan_iff]
  unfold Ieee.Format.word
  cases neg <;> simp [sw] <;> omega

theorem nearest_not_nan (neg : Bool) (mag : Nat) (place : Int) : nanW (Ieee.double.nearest neg mag place) = false := by
  unfold Ieee.Format.nearest
  split
  · exact word_not_nan _ _ (by decide)
  · exact word_not_nan _ _ (by rw [ir]; exact Nat.min_le_right _ _)

theorem write_not_nan (d : Ieee.Datum) (h : d.isNaN = false) : nanW (Ieee.double.write d) = false := by
  cases d with
  | number s m p => exact nearest_not_nan s m p
  | infinity s => exact word_not_nan s _ (by rw [ir]; exact Nat.le_refl _)
  | nan s t => cases h

theorem sum_not_nan {a b d : Ieee.Datum} (h : a.sum b = some d) : d.isNaN = false := by
  cases a <;> cases b <;> simp [Ieee.Datum.sum] at h <;> first | (subst h; rfl) | (obtain ⟨_, h⟩ := h; subst h; rfl)
theorem product_not_nan {a b d : Ieee.Datum} (h : a.product b = some d) : d.isNaN = false := by
  cases a <;> cases b <;> simp [Ieee.Datum.product] at h <;> first | (subst h; rfl) | (obtain ⟨_, h⟩ := h; subst h; rfl)
theorem quotient_not_nan {n : Nat} {a b d : Ieee.Datum} (h : a.quotient n b = some d) : d.isNaN = false := by
  cases a <;> cases b <;> simp [Ieee.Datum.quotient] at h
  · split at h
    · split at h
      · cases h
      · cases h; rfl
    · cases h; rfl
  all_goals (subst h; rfl)

theorem map_not_nan {o : Option Ieee.Datum} {r : Nat} (ho : ∀ d, o = some d → d.isNaN = false) (h : o.map Ieee.double.write = some r) : nanW r = false ∧ r < 2 ^ 64 := by
  cases o with
  | none => cases h
  | some d =>
    simp at h
    subst h
    exact ⟨write_not_nan d (ho d rfl), Ieee.double.write_lt d⟩

theorem nan_read {b : Nat} (h : nanW b = true) : ∃ s t, Ieee.double.read b = .nan s t := by
  unfold nanW at h
  cases hr : Ieee.double.read b with
  | nan s t => exact ⟨s, t, rfl⟩
  | number s m p => rw [hr] at h; cases h
  | infinity s => rw [hr] at h; cases h

theorem isSome_of {b v : Nat} (h : ofWord b = some v) : b = v ∧ nanW b = false := by
  unfold ofWord at h
  cases hn : nanW b
  · simp [hn] at h; exact ⟨h, rfl⟩
  · simp [hn] at h
theorem isNone_of {b : Nat} (h : ofWord b = none) : nanW b = true := by
  unfold ofWord at h
  cases hn : nanW b
  · simp [hn] at h
  · rfl
theorem ofWord_some {b : Nat} (h : nanW b = false) : ofWord b = some b := by simp [ofWord, h]
theorem ofWord_none {b : Nat} (h : nanW b = true) : ofWord b = none := by simp [ofWord, h]

/-! ### The four operations on words, as on F -/
theorem add_eq (a b : Nat) : Ieee.double.add a b = add (ofWord a) (ofWord b) := by
  cases ha : nanW a
  · cases hb : nanW b
    · simp [add, ofWord, ha, hb]
    · obtain ⟨s, t, e⟩ := nan_read hb
      simp [add, ofWord, ha, hb, Ieee.Format.add, e]
      cases Ieee.double.read a <;> simp [Ieee.Datum.sum]
  · obtain ⟨s, t, e⟩ := nan_read ha
    simp [add, ofWord, ha, Ieee.Format.add, e, Ieee.Datum.sum]
theorem sub_eq (a b : Nat) : Ieee.double.sub a b = sub (ofWord a) (ofWord b) := by
  cases ha : nanW a
  · cases hb : nanW b
    · simp [sub, ofWord, ha, hb]
    · obtain ⟨s, t, e⟩ := nan_read hb
      simp [sub, ofWord, ha, hb, Ieee.Format.sub, e, Ieee.Datum.opposite]
      cases Ieee.double.read a <;> simp [Ieee.Datum.sum]
  · obtain ⟨s, t, e⟩ := nan_read ha
    simp [sub, ofWord, ha, Ieee.Format.sub, e, Ieee.Datum.sum]
theorem mul_eq (a b : Nat) : Ieee.double.mul a b = mul (ofWord a) (ofWord b) := by
  cases ha : nanW a
  · cases hb : nanW b
    · simp [mul, ofWord, ha, hb]
    · obtain ⟨s, t, e⟩ := nan_read hb
      simp [mul, ofWord, ha, hb, Ieee.Format.mul, e]
      cases Ieee.double.read a <;> simp [Ieee.Datum.product]
  · obtain ⟨s, t, e⟩ := nan_read ha
    simp [mul, ofWord, ha, Ieee.Format.mul, e, Ieee.Datum.product]
theorem div_eq (a b : Nat) : Ieee.double.div a b = div (ofWord a) (ofWord b) := by
  cases ha : nanW a
  · cases hb : nanW b
    · simp [div, ofWord, ha, hb]
    · obtain ⟨s, t, e⟩ := nan_read hb
      simp [div, ofWord, ha, hb, Ieee.Format.div, e]
      cases Ieee.double.read a <;> simp [Ieee.Datum.quotient]
  · obtain ⟨s, t, e⟩ := nan_read ha
    simp [div, ofWord, ha, Ieee.Format.div, e, Ieee.Datum.quotient]
theorem cmp_eq (a b : Nat) : Ieee.double.order a b = cmp (ofWord a) (ofWord b) := by
  cases ha : nanW a
  · cases hb : nanW b
    · simp [cmp, ofWord, ha, hb]
    · obtain ⟨s, t, e⟩ := nan_read hb
      simp [cmp, ofWord, ha, hb, Ieee.Format.order, e]
      cases Ieee.double.read a <;> simp [Ieee.Datum.order]
  · obtain ⟨s, t, e⟩ := nan_read ha
    simp [cmp, ofWord, ha, Ieee.Format.order, e, Ieee.Datum.order]

theorem add_word {a b r : Nat} (h : Ieee.double.add a b = some r) : nanW r = false ∧ r < 2 ^ 64 := map_not_nan (fun _ e => sum_not_nan e) h
theorem sub_word {a b r : Nat} (h : Ieee.double.sub a b = some r) : nanW r = false ∧ r < 2 ^ 64 := map_not_nan (fun _ e => sum_not_nan e) h
theorem mul_word {a b r : Nat} (h : Ieee.double.mul a b = some r) : nanW r = false ∧ r < 2 ^ 64 := map_not_nan (fun _ e => product_not_nan e) h
theorem div_word {a b r : Nat} (h : Ieee.double.div a b = some r) : nanW r = false ∧ r < 2 ^ 64 := map_not_nan (fun _ e => quotient_not_nan e) h

/-! ### Is -/
theorem Is.some {b v : Nat} (h : Is b (some v)) : b = v := (isSome_of h.2).1
theorem Is.nan {b : Nat} (h : Is b none) : nanW b = true := isNone_of h.2
theorem Is.num {b v : Nat} (h : Is b (Option.some v)) : nanW b = false := (isSome_of h.2).2
theorem is_lit {c : Nat} (h : (nanW c, decide (c < 2 ^ 64)) = (false, true)) : Is c (Option.some c) := by
  simp only [Prod.mk.injEq, decide_eq_true_eq] at h
  exact ⟨h.2, ofWord_some h.1⟩
theorem is_word {c : Nat} (h : c < 2 ^ 64) : Is c (ofWord c) := ⟨h, rfl⟩

theorem neg_is {b : Nat} {o : F} (h : Is b o) : Is (Op.negFloat .f64 b) (neg o) := by
  have e : Op.negFloat .f64 b = b ^^^ 2 ^ 63 := rfl
  have hm : (b ^^^ 2 ^ 63) % 2 ^ 63 = b % 2 ^ 63 := by rw [Nat.xor_mod_two_pow]; simp
  have hl : b ^^^ 2 ^ 63 < 2 ^ 64 := Nat.xor_lt_two_pow h.lt (by decide)
  have hn : nanW (b ^^^ 2 ^ 63) = nanW b := by rw [nan_iff, nan_iff, hm]
  refine ⟨by rw [e]; exact hl, ?_⟩
  rw [← h.eq, e]
  cases hb : nanW b
  · rw [ofWord_some (hn.trans hb), ofWord_some hb]; rfl
  · rw [ofWord_none (hn.trans hb), ofWord_none hb]; rfl
theorem abs_is {b : Nat} {o : F} (h : Is b o) : Is (b % 2 ^ 63) (abs o) := by
  have hn : nanW (b % 2 ^ 63) = nanW b := by rw [nan_iff, nan_iff, Nat.mod_mod]
  have hl : b % 2 ^ 63 < 2 ^ 64 := by omega
  refine ⟨hl, ?_⟩
  rw [← h.eq]
  cases hb : nanW b
  · rw [ofWord_some (hn.trans hb), ofWord_some hb]; rfl
  · rw [ofWord_none (hn.trans hb), ofWord_none hb]; rfl
theorem ofInt_is (n : Int) : Is (floatOfInt .f64 n) (ofInt n) := by
  have e : floatOfInt .f64 n = Ieee.double.write (.number (n < 0) n.natAbs 0) := rfl
  refine ⟨by rw [e]; exact Ieee.double.write_lt _, ?_⟩
  rw [e]
  exact ofWord_some (nearest_not_nan _ _ _)
theorem cmp_self {b : Nat} {o : F} (h : Is b o) : eq o o = o.isSome := by
  rw [← h.eq]
  unfold eq
  rw [← cmp_eq]
  cases hb : nanW b
  · rw [ofWord_some hb]
    unfold nanW at hb
    unfold Ieee.Format.order
    cases hr : Ieee.double.read b with
    | nan s t => rw [hr] at hb; cases hb
    | number s m p => simp [Ieee.Datum.order]
    | infinity s => simp [Ieee.Datum.order]
  · obtain ⟨s, t, e⟩ := nan_read hb
    rw [ofWord_none hb]
    simp [Ieee.Format.order, e, Ieee.Datum.order]
end Fl
end Go.Proofs.YbulkraaFmt
