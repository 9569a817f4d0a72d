/-
  OUR OWN. A map[uint64]int that the call made, as a table of pairs: what a look-up, a store, a deletion and len do.
-/
import Derived.WalkKit
import Derived.Test.YbulkexpkoPlain
namespace Go.Proofs.Ybulkexpko.Mem
open Go.RowKit Plain
set_option linter.unusedVariables false
set_option linter.unusedSimpArgs false

def encP (p : Int × Int) : Value × Value := (.int .u64 p.1, .int .i64 p.2)
def entP (e : MapEntry) : Value × Value := (e.key, e.val)
/-- Block r is a map whose entries are l, in that order. -/
def MapOf (w : World) (r : Nat) (l : List (Int × Int)) : Prop := ∃ es clock, w.heap[r]? = some (.map es clock) ∧ es.toList.map entP = l.map encP

theorem MapOf.of_block {w w' : World} {r : Nat} {l : List (Int × Int)} (h : MapOf w r l) (hb : w'.heap[r]? = w.heap[r]?) : MapOf w' r l := by
  obtain ⟨es, c, he, hl⟩ := h
  exact ⟨es, c, by rw [hb]; exact he, hl⟩
theorem MapOf.lt {w : World} {r : Nat} {l : List (Int × Int)} (h : MapOf w r l) : r < w.heap.size := by
  obtain ⟨es, c, he, hl⟩ := h
  exact (Array.getElem?_eq_some_iff.1 he).1
theorem MapOf.made (w : World) : MapOf (w.alloc (.map #[] 0)) w.heap.size [] := ⟨#[], 0, heap_alloc_new w _, rfl⟩

/-- The entry found, if any. -/
def hit (l : List (Int × Int)) (k : Int) (i : Nat) : Option (Nat × Value) := (idx (keys l) k).map fun j => (i + j, .int .i64 ((l.getD j (0, 0)).2))

theorem findNow_hit (q : IntKind) (k : Int) (es : List MapEntry) (l : List (Int × Int)) (i : Nat) (h : es.map entP = l.map encP) :
    Instr.findNow (.int q) (.int .u64 k) es i = some (hit l k i) := by
  induction es generalizing l i with
  | nil =>
    cases l with
    | nil => rfl
    | cons p l => simp at h
  | cons e es ih =>
    cases l with
    | nil => simp at h
    | cons p l =>
      simp only [List.map_cons, List.cons.injEq] at h
      obtain ⟨h1, h2⟩ := h
      have hk : e.key = .int .u64 p.1 := congrArg Prod.fst h1
      have hv : e.val = .int .i64 p.2 := congrArg Prod.snd h1
      have := ih l (i + 1) h2
      simp only [Instr.findNow, hk, Instr.sameNow, if_true]
      by_cases e1 : k = p.1
      · subst e1
        simp [hit, keys, idx, hv]
      · have e2 : ¬ p.1 = k := fun e => e1 e.symm
        have e3 : (k == p.1) = false := by simpa using e1
        rw [e3]
        simp only [this, hit, keys, List.map_cons, idx, e2, if_false]
        cases idx (List.map Prod.fst l) k with
        | none => rfl
        | some j => simp; omega

theorem map_eraseAt {α β : Type} (f : α → β) (l : List α) (j : Nat) : (l.eraseIdx j).map f = (l.map f).eraseIdx j := by
  induction l generalizing j with
  | nil => rfl
  | cons a l ih =>
    cases j with
    | zero => rfl
    | succ j => simp [List.eraseIdx, ih]

section
variable {P : Program} {t kt et : TypeId}

theorem run_checkKey_int (b : Bool) (n : Nat) (q : IntKind) (v : Value) (hk : P.underlying kt = some (.int q)) (w : World) : (Instr.checkKey b (n + 1) kt v).run P w = .ok () w := by
  simp [Instr.checkKey, run_underlying hk]

theorem run_findKey (q : IntKind) (hk : P.underlying kt = some (.int q)) (k : Int) (es : List MapEntry) (l : List (Int × Int)) (h : es.map entP = l.map encP) (w : World) :
    (Instr.findKey kt (.int .u64 k) es).run P w = .ok (hit l k 0) w := by
  simp only [Instr.findKey, Sem.run_bind, run_underlying hk, Result.andThen_ok, findNow_hit q k es l 0 h]
  simp

theorem run_look {w : World} {r : Nat} {l : List (Int × Int)} (h : MapOf w r l) (q : IntKind) (ht : P.underlying t = some (.map kt et)) (hk : P.underlying kt = some (.int q))
    (hz : (zeroValue et).run P w = .ok (.int .i64 0) w) (k : Int) (ok : Bool) :
    (Instr.lookup t (.map (some r)) (.int .u64 k) ok).run P w = .ok (if ok then .tuple #[.int .i64 ((get l k).getD 0), .bool (get l k).isSome] else .int .i64 ((get l k).getD 0)) w := by
  obtain ⟨es, c, he, hl⟩ := h
  have hf := run_findKey (P := P) q hk k es.toList l hl w
  have hg : (getObj r).run P w = .ok (.map es c) w := by simp [getObj, Sem.run, he]
  have hc := run_checkKey_int (P := P) (kt := kt) es.isEmpty 9999 q (.int .u64 k) hk w
  simp only [Instr.lookup, Sem.run_bind, run_underlying ht, Result.andThen_ok, hg, Sem.run_pure, hc, hf]
  cases hi : idx (keys l) k with
  | none =>
    have := (idx_none hi 0).1
    simp only [hit, hi, Option.map_none, Sem.run_bind, hz, Result.andThen_ok, Sem.run_pure, this]
    cases ok <;> rfl
  | some j =>
    obtain ⟨h1, ⟨u, h2, h3⟩, _⟩ := idx_some hi 0
    have h4 : (l.getD j (0, 0)).2 = u := by simp [List.getD, h2]
    simp only [hit, hi, Option.map_some, Sem.run_pure, Result.andThen_ok, h3, h4]
    cases ok <;> rfl

/-- What a store or a deletion leaves: the map's block alone has turned. -/
structure Turned (w w' : World) (r : Nat) : Prop where
  os : w'.os = w.os
  tape : w'.tape = w.tape
  output : w'.output = w.output
  drawn : w'.drawn = w.drawn
  size : w'.heap.size = w.heap.size
  block : ∀ k, k ≠ r → w'.heap[k]? = w.heap[k]?

theorem turned_set (w : World) (r : Nat) (o : Obj) : Turned w { w with heap := w.heap.setIfInBounds r o } r :=
  ⟨rfl, rfl, rfl, rfl, by simp, fun k hk => by rw [Array.getElem?_setIfInBounds, if_neg (fun e => hk e.symm)]⟩

theorem run_put {w : World} {r : Nat} {l : List (Int × Int)} (h : MapOf w r l) (q : IntKind) (ht : P.underlying t = some (.map kt et)) (hk : P.underlying kt = some (.int q)) (k v : Int) :
    ∃ w', (Instr.mapUpdate t (.map (some r)) (.int .u64 k) (.int .i64 v)).run P w = .ok () w' ∧ MapOf w' r (put l k v) ∧ Turned w w' r := by
  have hlt := h.lt
  obtain ⟨es, c, he, hl⟩ := h
  have hf := run_findKey (P := P) q hk k es.toList l hl w
  have hg : (getObj r).run P w = .ok (.map es c) w := by simp [getObj, Sem.run, he]
  have hc := run_checkKey_int (P := P) (kt := kt) false 9999 q (.int .u64 k) hk w
  have hset : ∀ o, (setObj r o).run P w = .ok () { w with heap := w.heap.setIfInBounds r o } := fun o => by simp [setObj, Sem.run, he]
  have hnew : ∀ o, ({ w with heap := w.heap.setIfInBounds r o } : World).heap[r]? = some o := fun o => by
    show (w.heap.setIfInBounds r o)[r]? = _
    rw [Array.getElem?_setIfInBounds, if_pos rfl, if_pos hlt]
  cases hi : idx (keys l) k with
  | none =>
    have h2 := (idx_none hi v).2.1
    refine ⟨_, ?_, ⟨es.push { key := .int .u64 k, val := .int .i64 v, born := c }, c + 1, hnew _, ?_⟩, turned_set w r _⟩
    · simp only [Instr.mapUpdate, Sem.run_bind, run_underlying ht, Result.andThen_ok, hg, hc, hf, hit, hi, Option.map_none, hset]
    · rw [h2]; simp [hl, entP, encP]
  | some j =>
    obtain ⟨h1, ⟨u, h2, h3⟩, h4, _⟩ := idx_some hi v
    have hkey : ((es[0 + j]?).map (·.key)).getD (.int .u64 k) = .int .u64 k := by
      have : (es.toList.map entP)[j]? = some (encP (k, u)) := by rw [hl, List.getElem?_map, h2]; rfl
      rw [List.getElem?_map, Option.map_eq_some_iff] at this
      obtain ⟨e, he1, he2⟩ := this
      have he3 : es[0 + j]? = some e := by simpa using he1
      rw [he3]
      exact congrArg Prod.fst he2
    have hstay : (Instr.keyThatStays (.int .u64 k) (.int .u64 k)).run P w = .ok (.int .u64 k) w := by simp [Instr.keyThatStays, Instr.sameBits]
    refine ⟨_, ?_, ⟨es.modify (0 + j) (fun e => { e with key := .int .u64 k, val := .int .i64 v }), c, hnew _, ?_⟩, turned_set w r _⟩
    · simp only [Instr.mapUpdate, Sem.run_bind, run_underlying ht, Result.andThen_ok, hg, hc, hf, hit, hi, Option.map_some, hkey, hstay, hset]
    · rw [h4, Nat.zero_add]
      apply List.ext_getElem?
      intro i
      have hi' := congrArg (fun x => x[i]?) hl
      simp only [List.getElem?_map, Array.toList_modify, List.getElem?_modify, List.getElem?_set] at hi' ⊢
      by_cases e : j = i
      · subst e
        simp only [if_true, Option.map_map]
        rw [if_pos h1]
        cases hx : es.toList[j]? with
        | none =>
          rw [hx, h2] at hi'
          simp at hi'
        | some x => simp [entP, encP]
      · simp only [e, if_false, Option.map_map]
        simpa using hi'

theorem run_del {w : World} {r : Nat} {l : List (Int × Int)} (h : MapOf w r l) (q : IntKind) (ht : P.underlying t = some (.map kt et)) (hk : P.underlying kt = some (.int q)) (k : Int) (ty : TypeId) :
    ∃ w', (Builtin.delete_ #[t, kt] ty #[.map (some r), .int .u64 k]).run P w = .ok (.tuple #[]) w' ∧ MapOf w' r (del l k) ∧ Turned w w' r := by
  have hlt := h.lt
  obtain ⟨es, c, he, hl⟩ := h
  have hf := run_findKey (P := P) q hk k es.toList l hl w
  have hg : (getObj r).run P w = .ok (.map es c) w := by simp [getObj, Sem.run, he]
  have hc := run_checkKey_int (P := P) (kt := kt) es.isEmpty 9999 q (.int .u64 k) hk w
  have hset : ∀ o, (setObj r o).run P w = .ok () { w with heap := w.heap.setIfInBounds r o } := fun o => by simp [setObj, Sem.run, he]
  have hnew : ∀ o, ({ w with heap := w.heap.setIfInBounds r o } : World).heap[r]? = some o := fun o => by
    show (w.heap.setIfInBounds r o)[r]? = _
    rw [Array.getElem?_setIfInBounds, if_pos rfl, if_pos hlt]
  cases hi : idx (keys l) k with
  | none =>
    have h2 := (idx_none hi 0).2.2
    refine ⟨_, ?_, ⟨es, c, hnew _, ?_⟩, turned_set w r _⟩
    · simp [Builtin.delete_, run_underlying ht, hg, hc, hf, hit, hi, hset]
    · rw [h2]; exact hl
  | some j =>
    obtain ⟨h1, _, _, h5⟩ := idx_some hi 0
    refine ⟨_, ?_, ⟨es.eraseIdxIfInBounds j, c, hnew _, ?_⟩, turned_set w r _⟩
    · simp [Builtin.delete_, run_underlying ht, hg, hc, hf, hit, hi, hset]
    · rw [h5]
      have hs : j < es.size := by have := congrArg List.length hl; simp at this; omega
      unfold Array.eraseIdxIfInBounds
      rw [dif_pos hs, Array.toList_eraseIdx, map_eraseAt, hl, ← map_eraseAt]

theorem run_len {w : World} {r : Nat} {l : List (Int × Int)} (h : MapOf w r l) (ht : P.underlying t = some (.map kt et)) (ty : TypeId) :
    (Builtin.len_ #[t] ty #[.map (some r)]).run P w = .ok (.int .i64 l.length) w := by
  obtain ⟨es, c, he, hl⟩ := h
  have hg : (getObj r).run P w = .ok (.map es c) w := by simp [getObj, Sem.run, he]
  have hs : es.size = l.length := by have := congrArg List.length hl; simpa using this
  simp [Builtin.len_, run_underlying ht, hg, hs, goInt]

end
#print axioms run_put
#print axioms run_del
end Go.Proofs.Ybulkexpko.Mem
