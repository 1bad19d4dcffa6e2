import Derived.Test.YbulkraaFmtFlFn
import Derived.WalkKit
import Derived.Deep.Draws
import Derived.KernelRfl
namespace Go.Proofs.YbulkraaFmt
namespace Fl
open Go.RowKit

theorem zero_is : Is 0 zero := is_lit (by kernel_rfl)
theorem one_is : Is 4607182418800017408 one := is_lit (by kernel_rfl)
theorem two_is : Is 4611686018427387904 two := is_lit (by kernel_rfl)
theorem half_is : Is 4602678819172646912 half := is_lit (by kernel_rfl)
theorem maxW_is : Is 9218868437227405311 maxW := is_lit (by kernel_rfl)
theorem pinf_is : Is 9218868437227405312 pinf := is_lit (by kernel_rfl)
theorem ninf_is : Is 18442240474082181120 ninf := is_lit (by kernel_rfl)
theorem ln2_is : Is 4604418534313441775 ln2 := is_lit (by kernel_rfl)
theorem ln2Hi_is : Is 4604418534330597376 ln2Hi := is_lit (by kernel_rfl)
theorem ln2Lo_is : Is 13700051638354996281 ln2Lo := is_lit (by kernel_rfl)
theorem expL_is : Is 4649917901605096508 expL := is_lit (by kernel_rfl)
theorem expM_is : Is 13873289938459872316 expM := is_lit (by kernel_rfl)
theorem eps_is : Is 4382569440205035030 eps := is_lit (by kernel_rfl)
theorem tiny_is : Is 118622047889322841 tiny := is_lit (by kernel_rfl)
theorem huge_is : Is 9094988921128908188 huge := is_lit (by kernel_rfl)
theorem c21_is : Is 4587023449039406616 c21 := is_lit (by kernel_rfl)
theorem sqh_is : Is 4604544271217802189 sqh := is_lit (by kernel_rfl)
theorem ten_is : Is 4621819117588971520 ten := is_lit (by kernel_rfl)
theorem halfLn2Pi_is : Is 4606452282016710325 halfLn2Pi := is_lit (by kernel_rfl)
theorem smallest_is : Is 4503599627370496 smallest := is_lit (by kernel_rfl)
theorem two52_is : Is 4841369599423283200 two52 := is_lit (by kernel_rfl)
theorem two53m_is : Is 4368491638549381120 two53m := is_lit (by kernel_rfl)

theorem cut_is (x y : Nat) (t : Nat) : Is (Question.cut (.nanBits .f64 x y) t) none := by
  have h1 : (t / 2) % (2 ^ 52 - 1) < 2 ^ 52 - 1 := Nat.mod_lt _ (by decide)
  have h2 : t % 2 < 2 := Nat.mod_lt _ (by decide)
  have e : Question.cut (.nanBits .f64 x y) t = (t % 2) * 2 ^ 63 + 9218868437227405312 + 1 + (t / 2) % (2 ^ 52 - 1) := rfl
  have hn : nanW (Question.cut (.nanBits .f64 x y) t) = true := by
    rw [nan_iff, e, decide_eq_true_eq]
    rcases (by omega : t % 2 = 0 ∨ t % 2 = 1) with h | h <;> rw [h] <;> omega
  refine ⟨?_, ofWord_none hn⟩
  rw [e]
  rcases (by omega : t % 2 = 0 ∨ t % 2 = 1) with h | h <;> rw [h] <;> omega
theorem cutMax_is (x y : Nat) (b : Bool) (t : Nat) : Is (Question.cut (.nanMinMax .f64 b x y) t) none := cut_is x y t

section
variable {P : Program} {ops : Array Oper} {rest : List Oper} {o : Oper} {a : Act} {w : World} {Q : Exit → Act → World → Prop}

theorem run_fadd (w : World) (t : TypeId) {u v : Nat} {ou ov : F} (hu : Is u ou) (hv : Is v ov) :
    ∃ r n, (binOp .add t (.float .f64 u) (.float .f64 v)).run P w = .ok (.float .f64 r) (w.drewN n) ∧ Is r (add ou ov) := by
  have e := add_eq u v
  rw [hu.eq, hv.eq] at e
  have ef : FloatKind.f64.format = Ieee.double := rfl
  cases hr : Ieee.double.add u v with
  | some r =>
    obtain ⟨h1, h2⟩ := add_word hr
    rw [hr] at e
    exact ⟨r, 0, by simp [binOp, Op.floatArith, ef, hr, World.drewN_zero], h2, (ofWord_some h1).trans e⟩
  | none =>
    rw [hr] at e
    refine ⟨_, 1, ?_, by rw [← e]; exact cut_is u v (w.tape w.drawn (.nanBits .f64 u v))⟩
    simp [binOp, Op.floatArith, ef, hr, Question.forced, ← World.drew_is_drewN]
theorem run_fsub (w : World) (t : TypeId) {u v : Nat} {ou ov : F} (hu : Is u ou) (hv : Is v ov) :
    ∃ r n, (binOp .sub t (.float .f64 u) (.float .f64 v)).run P w = .ok (.float .f64 r) (w.drewN n) ∧ Is r (sub ou ov) := by
  have e := sub_eq u v
  rw [hu.eq, hv.eq] at e
  have ef : FloatKind.f64.format = Ieee.double := rfl
  cases hr : Ieee.double.sub u v with
  | some r =>
    obtain ⟨h1, h2⟩ := sub_word hr
    rw [hr] at e
    exact ⟨r, 0, by simp [binOp, Op.floatArith, ef, hr, World.drewN_zero], h2, (ofWord_some h1).trans e⟩
  | none =>
    rw [hr] at e
    refine ⟨_, 1, ?_, by rw [← e]; exact cut_is u v (w.tape w.drawn (.nanBits .f64 u v))⟩
    simp [binOp, Op.floatArith, ef, hr, Question.forced, ← World.drew_is_drewN]
theorem run_fmul (w : World) (t : TypeId) {u v : Nat} {ou ov : F} (hu : Is u ou) (hv : Is v ov) :
    ∃ r n, (binOp .mul t (.float .f64 u) (.float .f64 v)).run P w = .ok (.float .f64 r) (w.drewN n) ∧ Is r (mul ou ov) := by
  have e := mul_eq u v
  rw [hu.eq, hv.eq] at e
  have ef : FloatKind.f64.format = Ieee.double := rfl
  cases hr : Ieee.double.mul u v with
  | some r =>
    obtain ⟨h1, h2⟩ := mul_word hr
    rw [hr] at e
    exact ⟨r, 0, by simp [binOp, Op.floatArith, ef, hr, World.drewN_zero], h2, (ofWord_some h1).trans e⟩
  | none =>
    rw [hr] at e
    refine ⟨_, 1, ?_, by rw [← e]; exact cut_is u v (w.tape w.drawn (.nanBits .f64 u v))⟩
    simp [binOp, Op.floatArith, ef, hr, Question.forced, ← World.drew_is_drewN]
theorem run_fquo (w : World) (t : TypeId) {u v : Nat} {ou ov : F} (hu : Is u ou) (hv : Is v ov) :
    ∃ r n, (binOp .quo t (.float .f64 u) (.float .f64 v)).run P w = .ok (.float .f64 r) (w.drewN n) ∧ Is r (div ou ov) := by
  have e := div_eq u v
  rw [hu.eq, hv.eq] at e
  have ef : FloatKind.f64.format = Ieee.double := rfl
  cases hr : Ieee.double.div u v with
  | some r =>
    obtain ⟨h1, h2⟩ := div_word hr
    rw [hr] at e
    exact ⟨r, 0, by simp [binOp, Op.floatArith, ef, hr, World.drewN_zero], h2, (ofWord_some h1).trans e⟩
  | none =>
    rw [hr] at e
    refine ⟨_, 1, ?_, by rw [← e]; exact cut_is u v (w.tape w.drawn (.nanBits .f64 u v))⟩
    simp [binOp, Op.floatArith, ef, hr, Question.forced, ← World.drew_is_drewN]

theorem guard_float (op : BinOp) (t : TypeId) (x y : Operand) (k : FloatKind) (u v : Nat) : eqGuard op t x y (.float k u) (.float k v) = pure () := by
  cases op <;> rfl

/-- One operation on two floats, at the head of a list. -/
theorem wpList_bin (op : BinOp) (t t' : TypeId) (x y : Operand) (G : F) (hw : Region.wanted o (yielded ops a.tmps) = true) (ho : o.op = .binOp op t x y t') (u v : Nat) (hx : a.eval x = .float .f64 u) (hy : a.eval y = .float .f64 v)
    (hrun : ∃ r n, (binOp op t (.float .f64 u) (.float .f64 v)).run P w = .ok (.float .f64 r) (w.drewN n) ∧ Is r G)
    (h : ∀ r n, Is r G → wpList P ops Q rest (a.put o.dst (.float .f64 r)) (w.drewN n)) : wpList P ops Q (o :: rest) a w := by
  obtain ⟨r, n, hr, hi⟩ := hrun
  refine BigFrame.wpList_want hw fun K hK => ?_
  unfold Oper.wp
  simp only [execOp, ho, hx, hy, guard_float, hr, Sem.run_bind, Sem.run_pure, pure_bind, Result.andThen]
  exact hK _ _ (h r n hi)
theorem wpList_fadd {t t' : TypeId} {x y : Operand} {u v : Nat} {ou ov : F} (hw : Region.wanted o (yielded ops a.tmps) = true) (ho : o.op = .binOp .add t x y t') (hx : a.eval x = .float .f64 u) (hy : a.eval y = .float .f64 v) (hu : Is u ou) (hv : Is v ov)
    (h : ∀ r n, Is r (add ou ov) → wpList P ops Q rest (a.put o.dst (.float .f64 r)) (w.drewN n)) : wpList P ops Q (o :: rest) a w :=
  wpList_bin .add t t' x y (add ou ov) hw ho u v hx hy (run_fadd w t hu hv) h
theorem wpList_fsub {t t' : TypeId} {x y : Operand} {u v : Nat} {ou ov : F} (hw : Region.wanted o (yielded ops a.tmps) = true) (ho : o.op = .binOp .sub t x y t') (hx : a.eval x = .float .f64 u) (hy : a.eval y = .float .f64 v) (hu : Is u ou) (hv : Is v ov)
    (h : ∀ r n, Is r (sub ou ov) → wpList P ops Q rest (a.put o.dst (.float .f64 r)) (w.drewN n)) : wpList P ops Q (o :: rest) a w :=
  wpList_bin .sub t t' x y (sub ou ov) hw ho u v hx hy (run_fsub w t hu hv) h
theorem wpList_fmul {t t' : TypeId} {x y : Operand} {u v : Nat} {ou ov : F} (hw : Region.wanted o (yielded ops a.tmps) = true) (ho : o.op = .binOp .mul t x y t') (hx : a.eval x = .float .f64 u) (hy : a.eval y = .float .f64 v) (hu : Is u ou) (hv : Is v ov)
    (h : ∀ r n, Is r (mul ou ov) → wpList P ops Q rest (a.put o.dst (.float .f64 r)) (w.drewN n)) : wpList P ops Q (o :: rest) a w :=
  wpList_bin .mul t t' x y (mul ou ov) hw ho u v hx hy (run_fmul w t hu hv) h
theorem wpList_fquo {t t' : TypeId} {x y : Operand} {u v : Nat} {ou ov : F} (hw : Region.wanted o (yielded ops a.tmps) = true) (ho : o.op = .binOp .quo t x y t') (hx : a.eval x = .float .f64 u) (hy : a.eval y = .float .f64 v) (hu : Is u ou) (hv : Is v ov)
    (h : ∀ r n, Is r (div ou ov) → wpList P ops Q rest (a.put o.dst (.float .f64 r)) (w.drewN n)) : wpList P ops Q (o :: rest) a w :=
  wpList_bin .quo t t' x y (div ou ov) hw ho u v hx hy (run_fquo w t hu hv) h

/-- A comparison. -/
theorem wpList_cmp (op : BinOp) (t t' : TypeId) (x y : Operand) (G : Bool) (hw : Region.wanted o (yielded ops a.tmps) = true) (ho : o.op = .binOp op t x y t') (u v : Nat) (hx : a.eval x = .float .f64 u) (hy : a.eval y = .float .f64 v)
    (hrun : (binOp op t (.float .f64 u) (.float .f64 v)).run P w = .ok (.bool G) w)
    (h : wpList P ops Q rest (a.put o.dst (.bool G)) w) : wpList P ops Q (o :: rest) a w := by
  refine BigFrame.wpList_want hw fun K hK => ?_
  unfold Oper.wp
  simp only [execOp, ho, hx, hy, guard_float, hrun, Sem.run_bind, Sem.run_pure, pure_bind, Result.andThen]
  exact hK _ _ h
theorem order_is {u v : Nat} {ou ov : F} (hu : Is u ou) (hv : Is v ov) : FloatKind.f64.format.order u v = cmp ou ov := by
  have e := cmp_eq u v
  rw [hu.eq, hv.eq] at e
  exact e
theorem wpList_flt {c : Bool} {t t' : TypeId} {x y : Operand} {u v : Nat} {ou ov : F} (hw : Region.wanted o (yielded ops a.tmps) = true) (ho : o.op = .binOp .lss t x y t') (hx : a.eval x = .float .f64 u) (hy : a.eval y = .float .f64 v) (hu : Is u ou) (hv : Is v ov) (hc : lt ou ov = c)
    (h : wpList P ops Q rest (a.put o.dst (.bool c)) w) : wpList P ops Q (o :: rest) a w := by
  subst hc
  exact wpList_cmp .lss t t' x y (lt ou ov) hw ho u v hx hy (by simp [binOp, Op.floatCmp, order_is hu hv, lt]) h
theorem wpList_fgt {c : Bool} {t t' : TypeId} {x y : Operand} {u v : Nat} {ou ov : F} (hw : Region.wanted o (yielded ops a.tmps) = true) (ho : o.op = .binOp .gtr t x y t') (hx : a.eval x = .float .f64 u) (hy : a.eval y = .float .f64 v) (hu : Is u ou) (hv : Is v ov) (hc : gt ou ov = c)
    (h : wpList P ops Q rest (a.put o.dst (.bool c)) w) : wpList P ops Q (o :: rest) a w := by
  subst hc
  exact wpList_cmp .gtr t t' x y (gt ou ov) hw ho u v hx hy (by simp [binOp, Op.floatCmp, order_is hu hv, gt]) h
theorem wpList_feq {c : Bool} {t t' : TypeId} {x y : Operand} {u v : Nat} {ou ov : F} (hw : Region.wanted o (yielded ops a.tmps) = true) (ho : o.op = .binOp .eql t x y t') (hx : a.eval x = .float .f64 u) (hy : a.eval y = .float .f64 v) (hu : Is u ou) (hv : Is v ov) (hc : eq ou ov = c)
    (h : wpList P ops Q rest (a.put o.dst (.bool c)) w) : wpList P ops Q (o :: rest) a w := by
  subst hc
  exact wpList_cmp .eql t t' x y (eq ou ov) hw ho u v hx hy (by simp [binOp, Op.floatCmp, order_is hu hv, eq]) h
theorem wpList_fne {c : Bool} {t t' : TypeId} {x y : Operand} {u v : Nat} {ou ov : F} (hw : Region.wanted o (yielded ops a.tmps) = true) (ho : o.op = .binOp .neq t x y t') (hx : a.eval x = .float .f64 u) (hy : a.eval y = .float .f64 v) (hu : Is u ou) (hv : Is v ov) (hc : (!eq ou ov) = c)
    (h : wpList P ops Q rest (a.put o.dst (.bool c)) w) : wpList P ops Q (o :: rest) a w := by
  subst hc
  exact wpList_cmp .neq t t' x y (!eq ou ov) hw ho u v hx hy (by simp [binOp, Op.floatCmp, order_is hu hv, eq]; rfl) h
theorem wpList_fle {c : Bool} {t t' : TypeId} {x y : Operand} {u v : Nat} {ou ov : F} (hw : Region.wanted o (yielded ops a.tmps) = true) (ho : o.op = .binOp .leq t x y t') (hx : a.eval x = .float .f64 u) (hy : a.eval y = .float .f64 v) (hu : Is u ou) (hv : Is v ov) (hc : le ou ov = c)
    (h : wpList P ops Q rest (a.put o.dst (.bool c)) w) : wpList P ops Q (o :: rest) a w := by
  subst hc
  exact wpList_cmp .leq t t' x y (le ou ov) hw ho u v hx hy (by simp [binOp, Op.floatCmp, order_is hu hv, le]) h

/-- float64(n). -/
theorem wpList_ofInt {src dst : TypeId} {q : IntKind} {x : Operand} {n : Int} (hw : Region.wanted o (yielded ops a.tmps) = true) (ho : o.op = .convert src dst x) (hx : a.eval x = .int q n) (hs : (P.underlying src).isSome = true) (hd : P.underlying dst = some (.float .f64))
    (h : ∀ r, Is r (ofInt n) → wpList P ops Q rest (a.put o.dst (.float .f64 r)) w) : wpList P ops Q (o :: rest) a w := by
  refine BigFrame.wpList_want hw fun K hK => ?_
  unfold Oper.wp
  have hr := run_convert_int_float (P := P) w src dst q .f64 n hs hd
  simp only [execOp, ho, hx, hr, Sem.run_bind, Sem.run_pure, Result.andThen]
  exact hK _ _ (h _ (ofInt_is n))
/-- int(x), where it is fixed. -/
theorem wpList_toInt {src dst : TypeId} {x : Operand} {u : Nat} {ou : F} {n : Int} (hw : Region.wanted o (yielded ops a.tmps) = true) (ho : o.op = .convert src dst x) (hx : a.eval x = .float .f64 u) (hs : (P.underlying src).isSome = true) (hd : P.underlying dst = some (.int .i64)) (hu : Is u ou) (hn : toI ou = some n)
    (h : wpList P ops Q rest (a.put o.dst (.int .i64 n)) w) : wpList P ops Q (o :: rest) a w := by
  refine BigFrame.wpList_want hw fun K hK => ?_
  unfold Oper.wp
  have hv : floatToIntVal .f64 u .i64 = some n := by
    cases ou with
    | none => cases hn
    | some v => rw [hu.some]; exact hn
  have hr := run_convert_float_int (P := P) w src dst .f64 .i64 u n hs hd hv
  simp only [execOp, ho, hx, hr, Sem.run_bind, Sem.run_pure, Result.andThen]
  exact hK _ _ h
/-- -x. -/
theorem wpList_fneg {t : TypeId} {x : Operand} {u : Nat} {ou : F} (hw : Region.wanted o (yielded ops a.tmps) = true) (ho : o.op = .unOp .neg t x) (hx : a.eval x = .float .f64 u) (hu : Is u ou)
    (h : ∀ r, Is r (neg ou) → wpList P ops Q rest (a.put o.dst (.float .f64 r)) w) : wpList P ops Q (o :: rest) a w := by
  refine BigFrame.wpList_want hw fun K hK => ?_
  unfold Oper.wp
  simp only [execOp, ho, hx, Op.unary, Sem.run_bind, Sem.run_pure, Result.andThen]
  exact hK _ _ (h _ (neg_is hu))
end
end Fl
end Go.Proofs.YbulkraaFmt
