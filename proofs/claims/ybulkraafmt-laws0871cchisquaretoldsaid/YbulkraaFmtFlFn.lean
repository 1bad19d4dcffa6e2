import Derived.Test.YbulkraaFmtFl
namespace Go.Proofs.YbulkraaFmt
namespace Fl

def zero : F := some 0
def one : F := some 4607182418800017408
def two : F := some 4611686018427387904
def half : F := some 4602678819172646912
def maxW : F := some 9218868437227405311
def pinf : F := some 9218868437227405312
def ninf : F := some 18442240474082181120
def ln2 : F := some 4604418534313441775
def ln2Hi : F := some 4604418534330597376
def ln2Lo : F := some 13700051638354996281
def expL : F := some 4649917901605096508
def expM : F := some 13873289938459872316
def eps : F := some 4382569440205035030
def tiny : F := some 118622047889322841
def huge : F := some 9094988921128908188
def c21 : F := some 4587023449039406616
def sqh : F := some 4604544271217802189
def ten : F := some 4621819117588971520
def halfLn2Pi : F := some 4606452282016710325
def smallest : F := some 4503599627370496
def two52 : F := some 4841369599423283200
def two53m : F := some 4368491638549381120
def stir : Nat → F
  | 0 => some 4590669220166325589
  | 1 => some 13791923578851126295
  | 2 => some 4560459359808757786
  | 3 => some 13782001362529237012
  | 4 => some 4560903004447375139
  | 5 => some 13789857891829234813
  | _ => some 4574040544619111450

/-! ### Loops, whatever the step -/
def iter (f : Nat → F → F) : Nat → F → F
  | 0, p => p
  | n + 1, p => iter f n (f n p)
theorem iter_zero (f : Nat → F → F) (p : F) : iter f 0 p = p := rfl
theorem iter_succ (f : Nat → F → F) (n : Nat) (p : F) : iter f (n + 1) p = iter f n (f n p) := rfl
section
variable {σ : Type}
def upto (more : σ → Bool) (next : σ → σ) : Nat → σ → Option σ
  | 0, st => if more st then none else some st
  | n + 1, st => if more st then upto more next n (next st) else some st
theorem upto_done (more : σ → Bool) (next : σ → σ) (n : Nat) (st : σ) (h : more st = false) : upto more next n st = some st := by
  cases n <;> simp [upto, h]
theorem upto_more (more : σ → Bool) (next : σ → σ) (n : Nat) (st : σ) (h : more st = true) : upto more next (n + 1) st = upto more next n (next st) := by
  simp [upto, h]
theorem upto_zero (more : σ → Bool) (next : σ → σ) (st : σ) (h : more st = true) : upto more next 0 st = none := by
  simp [upto, h]
/-- At most n rounds, the round's number from i on. -/
def whileN (more : σ → Bool) (next : Nat → σ → σ) : Nat → Nat → σ → σ
  | 0, _, st => st
  | n + 1, i, st => if more st then whileN more next n (i + 1) (next i st) else st
theorem whileN_zero (more : σ → Bool) (next : Nat → σ → σ) (i : Nat) (st : σ) : whileN more next 0 i st = st := rfl
theorem whileN_done (more : σ → Bool) (next : Nat → σ → σ) (n i : Nat) (st : σ) (h : more st = false) : whileN more next n i st = st := by
  cases n <;> simp [whileN, h]
theorem whileN_more (more : σ → Bool) (next : Nat → σ → σ) (n i : Nat) (st : σ) (h : more st = true) : whileN more next (n + 1) i st = whileN more next n (i + 1) (next i st) := by
  simp [whileN, h]
def untilN (stop : Nat → σ → Bool) (next : Nat → σ → σ) : Nat → Nat → σ → σ
  | 0, _, st => st
  | n + 1, i, st => if stop i st then next i st else untilN stop next n (i + 1) (next i st)
theorem untilN_zero (stop : Nat → σ → Bool) (next : Nat → σ → σ) (i : Nat) (st : σ) : untilN stop next 0 i st = st := rfl
theorem untilN_stop (stop : Nat → σ → Bool) (next : Nat → σ → σ) (n i : Nat) (st : σ) (h : stop i st = true) : untilN stop next (n + 1) i st = next i st := by
  simp [untilN, h]
theorem untilN_more (stop : Nat → σ → Bool) (next : Nat → σ → σ) (n i : Nat) (st : σ) (h : stop i st = false) : untilN stop next (n + 1) i st = untilN stop next n (i + 1) (next i st) := by
  simp [untilN, h]
end

/-- The bits outside the exponent field. -/
def rim (u : Nat) : Nat := u &&& 9227875636482146303
/-- The exponent field. -/
def field (u : Nat) : Int := ((u / 4503599627370496 % 2048 : Nat) : Int)

def normalize (x : F) : F × Int := if lt (abs x) smallest then (mul x two52, -52) else (x, 0)
def frW (u : Nat) : Nat := rim u ||| 4602678819172646912
def frexpTail (g : F) (e : Int) : F × Int :=
  match g with
  | none => (none, 0)
  | some u => (ofWord (frW u), e + (field u - 1023 + 1))
def frexp (x : F) : F × Int :=
  if eq x zero then (x, 0)
  else if gt (abs x) maxW || x.isNone then (x, 0)
  else frexpTail (normalize x).1 (normalize x).2
def ldW (u : Nat) (e : Int) : Nat := rim u ||| ((e + 1023).toNat * 4503599627370496)
def ldexpTail (g : F) (e : Int) : F :=
  match g with
  | none => none
  | some u =>
    let e2 := e + (field u - 1023)
    if e2 < -1075 then some (u &&& 9223372036854775808)
    else if 1023 < e2 then (if lt (some u) zero then ninf else pinf)
    else if e2 < -1022 then mul two53m (ofWord (ldW u (e2 + 53)))
    else mul one (ofWord (ldW u e2))
def ldexp (f : F) (e : Int) : F :=
  if eq f zero then f
  else if gt (abs f) maxW || f.isNone then f
  else ldexpTail (normalize f).1 (e + (normalize f).2)

def rte (x : F) : F := x.map fun b => Ieee.double.write ((Ieee.double.read b).integral .even)
def toI (x : F) : Option Int := x.bind fun b => floatToIntVal .f64 b .i64
def expStep (r : F) (n : Nat) (p : F) : F := add one (mul (div r (ofInt ((n + 1 : Nat) : Int))) p)
def expTail (k r : F) : F :=
  match toI k with
  | some n => ldexp (iter (expStep r) 13 one) n
  | none => none
def exp (x : F) : F :=
  if x.isNone then x
  else if gt x expL then pinf
  else if lt x expM then zero
  else expTail (rte (div x ln2)) (sub (sub x (mul (rte (div x ln2)) ln2Hi)) (mul (rte (div x ln2)) ln2Lo))

def logStep (s2 : F) (n : Nat) (p : F) : F := add (div one (ofInt ((2 * n + 1 : Nat) : Int))) (mul s2 p)
def logTail (f : F) (k : Int) : F :=
  let s := div (sub f one) (add f one)
  let s2 := mul s s
  let lnF := mul (mul two s) (iter (logStep s2) 10 c21)
  add (mul (ofInt k) ln2Hi) (add lnF (mul (ofInt k) ln2Lo))
def log (x : F) : F :=
  if x.isNone || gt x maxW then x
  else if lt x zero then none
  else if eq x zero then ninf
  else if lt (frexp x).1 sqh then logTail (mul two (frexp x).1) ((frexp x).2 - 1)
  else logTail (frexp x).1 (frexp x).2

/-- The shift below ten: 'none': not done in that many rounds. -/
def lgMore (st : F × F) : Bool := lt st.1 ten
def lgNext (st : F × F) : F × F := (add st.1 one, mul st.2 st.1)
def stirStep (w2 : F) (n : Nat) (p : F) : F := add (stir n) (mul w2 p)
def lgTail (x sh : F) : F :=
  let w := div one x
  let w2 := mul w w
  let series := iter (stirStep w2) 6 (stir 6)
  let lg := add (add (sub (mul (sub x half) (log x)) x) halfLn2Pi) (mul w series)
  sub lg (log sh)
def lgamma (x : F) : F :=
  if x.isNone || lt x zero then none
  else if gt x maxW then x
  else match upto lgMore lgNext 20 (x, one) with
    | some st => lgTail st.1 st.2
    | none => none

def max0 (y : F) : F :=
  match cmp zero y with
  | none => none
  | some .lt => y
  | _ => zero
def serMore (st : F × F) : Bool := gt (abs st.1) (mul eps (abs st.2))
def serNext (s x : F) (n : Nat) (st : F × F) : F × F := (mul st.1 (div x (add s (ofInt (n : Int)))), add st.2 (mul st.1 (div x (add s (ofInt (n : Int))))))
def clampT (x : F) : F := if lt (abs x) tiny then tiny else x
/-- The continued fraction's state. -/
structure Cf where
  b : F
  c : F
  d : F
  h : F
def cfA (s : F) (i : Nat) : F := mul (neg (ofInt (i : Int))) (sub (ofInt (i : Int)) s)
def cfC (s : F) (i : Nat) (st : Cf) : F := clampT (add (add st.b two) (div (cfA s i) st.c))
def cfD (s : F) (i : Nat) (st : Cf) : F := div one (clampT (add (mul (cfA s i) st.d) (add st.b two)))
def cfNext (s : F) (i : Nat) (st : Cf) : Cf := ⟨add st.b two, cfC s i st, cfD s i st, mul st.h (mul (cfD s i st) (cfC s i st))⟩
def cfStop (s : F) (i : Nat) (st : Cf) : Bool := lt (abs (sub (mul (cfD s i st) (cfC s i st)) one)) eps
def front (s x : F) : F := exp (sub (sub (mul s (log x)) x) (lgamma s))
def cfStart (s x : F) : Cf := ⟨sub (add x one) s, huge, div one (sub (add x one) s), div one (sub (add x one) s)⟩
def upperGamma (s x : F) : F :=
  if lt x (add s one) then max0 (sub one (mul (front s x) (whileN serMore (serNext s x) 9999 1 (div one s, div one s)).2))
  else mul (front s x) (untilN (cfStop s) (cfNext s) 9999 1 (cfStart s x)).h
end Fl
end Go.Proofs.YbulkraaFmt
