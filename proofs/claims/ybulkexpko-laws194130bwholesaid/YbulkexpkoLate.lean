/-
  OUR OWN. What the second half of the law reads and builds.
-/
import Derived.Test.YbulkexpkoCallees
namespace Go.Proofs.Ybulkexpko.C
open Go.RowKit Plain Mem
set_option linter.unusedVariables false
set_option linter.unusedSimpArgs false

theorem getD_key {l : List (Int × Int)} {t : Nat} (ht : t < l.length) : l[t]? = some ((keys l).getD t 0, (vals l).getD t 0) := by
  simp [keys, vals, List.getD, ht]

theorem take_oth {l : List (Int × Int)} {t : Nat} (ht : t < l.length) (k : Int) :
    oth (l.take (t + 1)) k = oth (l.take t) k ++ if (keys l).getD t 0 = k then [] else [((keys l).getD t 0, (vals l).getD t 0)] := by
  have h := getD_key ht
  rw [List.take_add_one, h]
  simp only [Option.toList_some]
  unfold oth
  rw [List.filter_append]
  generalize (keys l).getD t 0 = a
  generalize (vals l).getD t 0 = b
  by_cases e : a = k
  · simp [e]
  · simp [e]

theorem oth_length (l : List (Int × Int)) (k : Int) : (oth l k).length ≤ l.length := List.length_filter_le _ _
theorem keys_length (l : List (Int × Int)) : (keys l).length = l.length := by simp [keys]
theorem vals_length (l : List (Int × Int)) : (vals l).length = l.length := by simp [vals]
theorem want_mem {l : List (Int × Int)} {i : Nat} (h : i < l.length) : ((keys l).getD i 0, (vals l).getD i 0) ∈ l := List.mem_of_getElem? (getD_key h)

/-- 'len(m)' whose run is known. -/
theorem wpList_len_run {P : Program} (w : World) {ops : Array Oper} {rest : List Oper} {o : Oper} {a : Act} {Q : Exit → Act → World → Prop} (hgd : o.guard = none) (s : Operand) (t : TypeId)
    (ho : o.op = .call { callee := .builtin .len, args := #[s], argTypes := #[t] }) (vs : Value) (hs : a.eval s = vs)
    (v' : Value) (hr : (Builtin.len_ #[t] o.type #[vs]).run P w = .ok v' w) (h : wpList P ops Q rest (a.put o.dst v') w) : wpList P ops Q (o :: rest) a w := by
  refine wpList_plain hgd fun K hK => ?_
  unfold Oper.wp execOp
  simp only [ho, resolve, invoke, builtin, Sem.run_bind, Sem.run_pure, Result.andThen_ok, List.map_toArray, List.map_cons, List.map_nil, hs, hr]
  exact hK _ _ h

/-- Behind 'forget'. -/
structure Late (w w2 : World) (l : List (Int × Int)) (k : Int) (C : Nat) (com : Int) (vk vv : Value) : Prop where
  map : MapOf w2 w.heap.size (forgot l k (newCount l k))
  two : Two w2 (w.heap.size + 1) (keys l) (vals l) vk vv
  bel : Below w.heap.size w w2
  lt : C < w2.heap.size
  mlt : w.heap.size < w2.heap.size

theorem late_of {w wr wv w2 : World} {l : List (Int × Int)} {k com : Int} {C : Nat} {vk vv : Value} {o : Obj} (hS : St w wr l vk vv) (hC : C = wr.heap.size) (hwv : wv = wr.alloc o)
    (hm2 : MapOf w2 w.heap.size (forgot l k (newCount l k))) (ht2 : Turned wv w2 w.heap.size) : Late w w2 l k C com vk vv := by
  have hz : wv.heap.size = wr.heap.size + 1 := by rw [hwv]; simp
  have hold : ∀ g, g < wr.heap.size → wv.heap[g]? = wr.heap[g]? := fun g hg => by rw [hwv]; exact Below.heap_alloc wr o g hg
  have hlt := hS.map.lt
  refine ⟨hm2, hS.two.of_below (fun g hg hl => ?_) (by rw [ht2.size, hz]; omega), ?_, by rw [ht2.size, hz]; omega, by rw [ht2.size, hz]; omega⟩
  · rw [ht2.block g (by omega)]; exact hold g hl
  · have : Below w.heap.size w wv := by rw [hwv]; exact hS.bel.alloc (by omega) _
    exact this.trans (ht2.below (Nat.le_refl _))

theorem cell_box (w1 : World) (c : Array Value) (t : TypeId) (o : Nat) : (w1.alloc (.cells c t)).cell? ⟨w1.heap.size, o, none⟩ = c[o]? := by
  have h := heap_alloc_new w1 (.cells c t)
  simp only [World.cell?, h]
  simp

/-- The old count, as the law looks it up. -/
theorem old_none {l : List (Int × Int)} {k : Int} (h : idx (keys l) k = none) : (get l k).getD 0 = 0 := by rw [(idx_none h 0).1]; rfl
theorem old_some {l : List (Int × Int)} {k : Int} {j : Nat} (h : idx (keys l) k = some j) : (vals l).getD j 0 = (get l k).getD 0 := by
  obtain ⟨h1, ⟨u, h2, h3⟩, _⟩ := idx_some h 0
  rw [h3]
  simp [vals, List.getD, h2]

#print axioms late_of
end Go.Proofs.Ybulkexpko.C
