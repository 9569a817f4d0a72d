/-
  OUR OWN. 'append(s, make([]column.Value, m)...)' where it grows: a new row of the old elements and zeros.
-/
import Derived.WalkKit
import Derived.Lib.AppendZeros
import Derived.Test.YbulkexpkaMem
namespace Go.Proofs.Ybulkexpka.Mem
open Go.RowKit
set_option linter.unusedVariables false
set_option linter.unusedSimpArgs false

theorem run_append_zeros {P : Program} (w : World) (t tn ty e : TypeId) (i : TypeInfo) (z : Value) (k kn : IntKind) (ht : P.underlying t = some (.slice e)) (htn : P.underlying tn = some (.int kn)) (hi : P.info? e = some i) (hz : i.zero = some z)
    (ao : Option Addr) (n cap : Nat) (olds : Array Value) (ho : (Builtin.firstCells i.size n (.slice ao n cap)).run P w.drew = .ok olds w.drew)
    (m : Nat) (hs : 0 < i.size) (h0 : 0 < m) (hg : cap < n + m) (h63 : ((n + m : Nat) : Int) ≤ 9223372036854775807) (h48 : (n + m) * i.bytes ≤ 140737488355328) :
    (Builtin.append_ #[t, tn] ty #[.slice ao n cap, .int k m]).run P w =
      .ok (.slice (some ⟨w.heap.size, 0, none⟩) (n + m) (grownCap w (n + m) cap e)) (w.drew.alloc (.cells (olds ++ Builtin.zeroCells z.cells m ++ Builtin.zeroCells z.cells (grownCap w (n + m) cap e - (n + m))) e)) := by
  have hm : m ≠ 0 := by omega
  have hn : ¬ (n + m ≤ cap) := by omega
  have hw : IntKind.i64.wrap (m : Int) = m := by rw [IntKind.wrap_i64]; omega
  have h63' : ¬ (9223372036854775807 < ((n : Int) + (m : Int))) := by omega
  have hfit := growslice_fits hg h48
  have h48' : ¬ (281474976710656 < Builtin.nextslicecap (n + m) cap * i.bytes) := by omega
  have h48i : ¬ (281474976710656 < (m : Int) * (i.bytes : Int)) := by
    rw [← Int.natCast_mul]
    rw [Nat.add_mul] at h48
    omega
  have hneg : ¬ ((m : Int) < 0) := by omega
  have hns : ¬ (m * i.size = 0) := Nat.mul_ne_zero hm (by omega)
  simp [Builtin.append_, run_underlying ht, run_underlying htn, sizeOf, typeInfo, zeroValue, hi, hz, asInt, asIntOf, hw, hn, hm, hneg, hns, h63', h48', h48i, Question.forced, ho, newRow, grownCap]

/-- What is known of the world behind such an append. -/
structure Grew (w w1 : World) (n m : Nat) (f : Nat → Int) : Prop where
  os : w1.os = w.os
  tape : w1.tape = w.tape
  output : w1.output = w.output
  size : w1.heap.size = w.heap.size + 1
  old : ∀ k, k < w.heap.size → w1.heap[k]? = w.heap[k]?
  row : VRow w1 w.heap.size (n + m) (fun e => if e < n then f e else 0) (fun _ => nilS)

theorem grew_of {w : World} {n m cap' : Nat} {f : Nat → Int} {olds : Array Value} (hsz : olds.size = 12 * n) (hold : ∀ i, i < n → ∀ j, j < 12 → olds[12 * i + j]? = some (vc (f i) nilS j)) (hc : n + m ≤ cap') :
    Grew w (w.drew.alloc (.cells (olds ++ Builtin.zeroCells zc.toArray m ++ Builtin.zeroCells zc.toArray (cap' - (n + m))) 37)) n m f := by
  have hz : (Builtin.zeroCells zc.toArray m).size = 12 * m := by rw [size_zeroCells]; show m * 12 = _; omega
  refine ⟨rfl, rfl, rfl, by simp, fun k hk => Below.heap_alloc w.drew _ k hk, ⟨_, heap_alloc_new w.drew _, by simp only [Array.size_append, hsz, hz]; omega, fun i hi j hj => ?_⟩⟩
  rw [Array.append_assoc, Array.getElem?_append]
  split
  · rename_i h
    have hi' : i < n := by omega
    rw [hold i hi' j hj]
    simp only [hi', if_true]
  · rename_i h
    have hi' : ¬ i < n := by omega
    simp only [hi', if_false]
    rw [Array.getElem?_append, if_pos (by omega), hsz, show 12 * i + j - 12 * n = 12 * (i - n) + j by omega]
    exact zero_cell m (i - n) j (by omega) hj

theorem firstCells_row {P : Program} {w : World} {b n cap : Nat} {f : Nat → Int} {g : Nat → Value} (h : VRow w b n f g) :
    ∃ olds : Array Value, (Builtin.firstCells 12 n (.slice (some ⟨b, 0, none⟩) n cap)).run P w = .ok olds w ∧ olds.size = 12 * n ∧ ∀ i, i < n → ∀ j, j < 12 → olds[12 * i + j]? = some (vc (f i) (g i) j) := by
  obtain ⟨c, hc, hs, hh⟩ := h
  have hl : (c.toList.take (12 * n)).length = n * 12 := by simp; omega
  refine ⟨(c.toList.take (12 * n)).toArray, run_firstCells_some w 12 n ⟨b, 0, none⟩ n cap (c.toList.take (12 * n)) hl ?_, by simp; omega, fun i hi j hj => ?_⟩
  · intro j u hu
    rw [Addr.add_lit, Nat.zero_add]
    rw [List.getElem?_take] at hu
    split at hu
    · simp only [World.cell?, hc]; simpa using hu
    · cases hu
  · have := hh i hi j hj
    simp only [List.getElem?_toArray, List.getElem?_take, Array.getElem?_toList]
    rw [if_pos (by omega), this]

/-- AT A STEP OF A REGION THAT DRAWS. The slice is nil, or a row whose capacity is its length. -/
theorem step_append_zeros {P : Program} {ops : Array Oper} {o : Oper} {a : Act} {w : World} {K : Act → World → Prop} {Q : Exit → Act → World → Prop} {EE : Prop}
    (hgd : o.guard = none) (s x : Operand) (t tn : TypeId) (hop : o.op = Op.call { callee := Callee.builtin Builtin.append, args := #[s, x], argTypes := #[t, tn] })
    (i : TypeInfo) (z : Value) (k kn : IntKind) (ht : P.underlying t = some (.slice 37)) (htn : P.underlying tn = some (.int kn)) (hi : P.info? 37 = some i) (hz : i.zero = some z) (hzz : z.cells = zc.toArray) (hsize : i.size = 12) (hby : i.bytes = 120)
    (ao : Option Addr) (n m : Nat) (f : Nat → Int) (X : Int) (hs : a.eval s = .slice ao n n) (hx : a.eval x = .int k X) (hX : X = (m : Int))
    (hrow : (ao = none ∧ n = 0) ∨ ∃ b, ao = some ⟨b, 0, none⟩ ∧ VRow w b n f (fun _ => nilS)) (h0 : 0 < m) (hnm : n + m ≤ 1000)
    (hK : ∀ cap' w1, n + m ≤ cap' → Grew w w1 n m f → K (a.put o.dst (.slice (some ⟨w.heap.size, 0, none⟩) (n + m) cap')) w1) :
    if Region.wanted o (yielded ops a.tmps) = true then Oper.wp P o a w K Q else EE := by
  have hw : Region.wanted o (yielded ops a.tmps) = true := by simp [Region.wanted, hgd]
  rw [if_pos hw]
  subst hX
  have hfc : ∃ olds : Array Value, (Builtin.firstCells i.size n (.slice ao n n)).run P w.drew = .ok olds w.drew ∧ olds.size = 12 * n ∧ ∀ i, i < n → ∀ j, j < 12 → olds[12 * i + j]? = some (vc (f i) nilS j) := by
    rw [hsize]
    rcases hrow with ⟨rfl, rfl⟩ | ⟨b, rfl, hr⟩
    · exact ⟨#[], run_firstCells_none w.drew 12 0 0 0, rfl, fun i hi => by omega⟩
    · exact firstCells_row (w := w.drew) hr
  obtain ⟨olds, ho, hos, hoc⟩ := hfc
  have hr := run_append_zeros (P := P) w t tn o.type 37 i z k kn ht htn hi hz ao n n olds ho m (by omega) h0 (by omega) (by omega) (by rw [hby]; omega)
  refine Lib.wp_append_run w s x t tn hop _ _ hs hx _ _ hr (hK _ _ (grownCap_ge w (n + m) n 37) ?_)
  rw [hzz]
  exact grew_of hos hoc (grownCap_ge w (n + m) n 37)

#print axioms step_append_zeros
end Go.Proofs.Ybulkexpka.Mem
