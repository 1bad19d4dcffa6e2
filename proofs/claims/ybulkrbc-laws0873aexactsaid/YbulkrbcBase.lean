import Derived.Test.YbulkrbcRows
import Derived.WalkKit
import Derived.WalkSpells
import Derived.WalkLawsBesides
import Derived.WalkSmall
import Derived.Deep.RegionLaw
import Derived.OwnWalk
namespace Go.Proofs.Ybulkrbc
open Go.RowKit

theorem hide {p : Prop} (h : p) : Hid p := h
theorem unhide {p : Prop} (h : Hid p) : p := h

/-- The cells of k pairs of strings. -/
def flat (S D : Nat → ByteArray) : Nat → List Value
  | 0 => []
  | k + 1 => flat S D k ++ [.string (S k), .string (D k)]
theorem flat_length (S D : Nat → ByteArray) (k : Nat) : (flat S D k).length = k * 2 := by
  induction k with
  | zero => rfl
  | succ k ih => simp [flat, ih]; omega
theorem flat_get (S D : Nat → ByteArray) (k i : Nat) (h : i < k) : (flat S D k)[i * 2]? = some (.string (S i)) ∧ (flat S D k)[i * 2 + 1]? = some (.string (D i)) := by
  induction k with
  | zero => omega
  | succ k ih =>
    by_cases e : i = k
    · subst e
      refine ⟨?_, ?_⟩
      · rw [flat, List.getElem?_append_right (by rw [flat_length]; omega), flat_length]; simp
      · rw [flat, List.getElem?_append_right (by rw [flat_length]; omega), flat_length]; simp
    · obtain ⟨h1, h2⟩ := ih (by omega)
      refine ⟨?_, ?_⟩
      · rw [flat, List.getElem?_append_left (by rw [flat_length]; omega)]; exact h1
      · rw [flat, List.getElem?_append_left (by rw [flat_length]; omega)]; exact h2

/-- n pairs of strings lie from ⟨b, off⟩ on. -/
def Pairs (w : World) (b off n : Nat) (S D : Nat → ByteArray) : Prop :=
  ∀ i, i < n → w.cell? ⟨b, off + i * 2, none⟩ = some (.string (S i)) ∧ w.cell? ⟨b, off + i * 2 + 1, none⟩ = some (.string (D i))

theorem Pairs.of_own {w : World} {base : Nat} {e : TypeId} {g n cap : Nat} {S D : Nat → ByteArray} (h : w.ownsRow base e 2 (.slice (some ⟨g, 0, none⟩) n cap) n (flat S D n)) : Pairs w g 0 n S D := by
  intro i hi
  obtain ⟨h1, h2⟩ := flat_get S D n i hi
  refine ⟨?_, ?_⟩
  · rw [Nat.zero_add, h.cellAt _ (by omega)]; exact h1
  · rw [Nat.zero_add, h.cellAt _ (by omega)]; exact h2

theorem block_lt {w : World} {a : Addr} {u : Value} (h : w.cell? a = some u) : a.block < w.heap.size := by
  rcases Nat.lt_or_ge a.block w.heap.size with h1 | h1
  · exact h1
  · simp [World.cell?, Array.getElem?_eq_none h1] at h

/-- append within the capacity, as one step of a region that draws. -/
theorem step_append_fits {P : Program} {ops : Array Oper} {o : Oper} {a : Act} {w : World} {K : Act → World → Prop} {Q : Exit → Act → World → Prop} {E : Prop}
    (hg : o.guard = none) (s x : Operand) (t : TypeId) (hop : o.op = Op.call { callee := Callee.builtin Builtin.append, args := #[s, x], argTypes := #[t, t] })
    (base : Nat) (e : TypeId) (i : TypeInfo) (size : Nat) (h1 : P.underlying t = some (.slice e)) (h2 : P.info? e = some i) (h4 : i.size = size)
    (g k cap : Nat) (xs : List Value) (hs : a.eval s = .slice (some ⟨g, 0, none⟩) k cap) (hown : w.ownsRow base e size (.slice (some ⟨g, 0, none⟩) k cap) k xs) (ad : Addr) (m c : Nat) (news : List Value) (hx : a.eval x = .slice (some ad) m c) (hn : news.length = m * size)
    (hc : ∀ j u, news[j]? = some u → w.cell? (ad.add j) = some u) (h1c : ∀ u ∈ news, u.oneCell' = true) (b1 : k + m ≤ cap)
    (hK : ∀ w', w'.ownsRow base e size (.slice (some ⟨g, 0, none⟩) (k + m) cap) (k + m) (xs ++ news) → w.grownBy w' (some g) → K (a.put o.dst (.slice (some ⟨g, 0, none⟩) (k + m) cap)) w') :
    if Region.wanted o (yielded ops a.tmps) = true then Oper.wp P o a w K Q else E := by
  have hw : Region.wanted o (yielded ops a.tmps) = true := by simp [Region.wanted, hg]
  rw [if_pos hw]
  obtain ⟨w', hrun, r1, r2⟩ := run_append_fits (P := P) w base t o.type e i size h1 h2 h4 g k cap xs hown ad m c news hn hc h1c b1
  unfold Oper.wp
  simp [execOp, hop, resolve, invoke, builtin, hs, hx, hrun, Result.andThen]
  exact hK w' r1 r2

theorem nil22 (w : World) (a : Option Addr) (n c : Nat) : (binOp .eql 22 (.slice a n c) (.slice none 0 0)).run Yba.prog w = .ok (.bool a.isNone) w := Go.Lib.run_eql_slice_nil (P := Yba.prog) w 22 30 a n c 0 0 Yba.underlying22
theorem nil25 (w : World) (a : Option Addr) (n c : Nat) : (binOp .eql 25 (.slice a n c) (.slice none 0 0)).run Yba.prog w = .ok (.bool a.isNone) w := Go.Lib.run_eql_slice_nil (P := Yba.prog) w 25 28 a n c 0 0 Yba.underlying25
theorem Yba.info32 : (Yba.prog.info? 32).map (fun i => (i.zero, i.size, i.bytes)) = some (some (.agg #[.string ⟨#[]⟩, .string ⟨#[]⟩]), 2, 32) := by kernel_rfl
theorem Yba.info28 : (Yba.prog.info? 28).map (fun i => (i.zero, i.size, i.bytes)) = some (some (.agg #[.string ⟨#[]⟩, .string ⟨#[]⟩]), 2, 32) := by kernel_rfl
theorem two_new {w : World} {s d : ByteArray} {t : TypeId} : ∀ (j : Nat) (u : Value), ([.string s, .string d] : List Value)[j]? = some u → (w.alloc (.cells #[.string s, .string d] t)).cell? ((⟨w.heap.size, 0, none⟩ : Addr).add j) = some u := by
  intro j u hj
  match j, hj with
  | 0, hj => simp at hj; subst hj; simp [Addr.add]
  | 1, hj => simp at hj; subst hj; simp [Addr.add]
theorem two_later {w : World} {o : Obj} {s d : ByteArray} {t : TypeId} : ∀ (j : Nat) (u : Value), ([.string s, .string d] : List Value)[j]? = some u → ((w.alloc o).alloc (.cells #[.string s, .string d] t)).cell? ((⟨w.heap.size + 1, 0, none⟩ : Addr).add j) = some u := by
  intro j u hj
  have h := two_new (w := w.alloc o) (t := t) j u hj
  have e : (w.alloc o).heap.size = w.heap.size + 1 := by simp
  rw [e] at h
  exact h
theorem two_one {s d : ByteArray} : ∀ u ∈ ([.string s, .string d] : List Value), u.oneCell' = true := by
  intro u hu
  simp at hu
  rcases hu with rfl | rfl <;> rfl
end Go.Proofs.Ybulkrbc
