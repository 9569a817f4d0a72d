/-
  OUR OWN. Memory facts for the law 'LawS194129CWhole': rows of column.Value (12 cells an element), the chain of rows that a path leads down, and what a store, a new row and a frame do to them.
-/
import Derived.WalkKit
namespace Go.Proofs.Ybulkexpka.Mem
open Go.RowKit
set_option linter.unusedVariables false
set_option linter.unusedSimpArgs false

def nilS : Value := .slice none 0 0
def zc : List Value := [.bool false, .bool false, .int .i64 0, .int .u64 0, .float .f64 0, .slice none 0 0, .int .u64 0, .int .u64 0, .int .u64 0, .int .u64 0, .slice none 0 0, .pointer none]
/-- Cell j of an element whose Int is x and whose Elems is e. -/
def vc (x : Int) (e : Value) (j : Nat) : Value := if j = 2 then .int .i64 x else if j = 10 then e else zc.getD j undef

def VRow (w : World) (b n : Nat) (f : Nat → Int) (g : Nat → Value) : Prop :=
  ∃ c, w.heap[b]? = some (.cells c 37 (0, 0)) ∧ 12 * n ≤ c.size ∧ ∀ i, i < n → ∀ j, j < 12 → c[12 * i + j]? = some (vc (f i) (g i) j)

theorem VRow.lt {w : World} {b n : Nat} {f : Nat → Int} {g : Nat → Value} (h : VRow w b n f g) : b < w.heap.size := by
  obtain ⟨c, hc, _⟩ := h
  exact (Array.getElem?_eq_some_iff.1 hc).1

theorem VRow.cell {w : World} {b n : Nat} {f : Nat → Int} {g : Nat → Value} (h : VRow w b n f g) {i j : Nat} (hi : i < n) (hj : j < 12) : w.cell? ⟨b, 12 * i + j, none⟩ = some (vc (f i) (g i) j) := by
  obtain ⟨c, hc, _, hh⟩ := h
  simp [World.cell?, hc, hh i hi j hj]

theorem VRow.frozen {w : World} {b n : Nat} {f : Nat → Int} {g : Nat → Value} (h : VRow w b n f g) (o : Nat) : w.frozen? ⟨b, o, none⟩ = false := by
  obtain ⟨c, hc, _, hh⟩ := h
  simp [World.frozen?, hc]

theorem VRow.null {w : World} {b n : Nat} {f : Nat → Int} {g : Nat → Value} (h : VRow w b n f g) {i : Nat} (hi : i < n) : w.cell? ⟨b, i * 12, none⟩ = some (.bool false) := by
  have := h.cell hi (j := 0) (by omega)
  rw [show i * 12 = 12 * i + 0 by omega, this]; rfl
theorem VRow.int {w : World} {b n : Nat} {f : Nat → Int} {g : Nat → Value} (h : VRow w b n f g) {i : Nat} (hi : i < n) : w.cell? ⟨b, i * 12 + 2, none⟩ = some (.int .i64 (f i)) := by
  have := h.cell hi (j := 2) (by omega)
  rw [show i * 12 + 2 = 12 * i + 2 by omega, this]; rfl
theorem VRow.elems {w : World} {b n : Nat} {f : Nat → Int} {g : Nat → Value} (h : VRow w b n f g) {i : Nat} (hi : i < n) : w.cell? ⟨b, i * 12 + 10, none⟩ = some (g i) := by
  have := h.cell hi (j := 10) (by omega)
  rw [show i * 12 + 10 = 12 * i + 10 by omega, this]; rfl

theorem VRow.of_block {w w' : World} {b n : Nat} {f : Nat → Int} {g : Nat → Value} (h : VRow w b n f g) (hb : w'.heap[b]? = w.heap[b]?) : VRow w' b n f g := by
  obtain ⟨c, hc, r⟩ := h
  exact ⟨c, by rw [hb]; exact hc, r⟩

theorem VRow.congr {w : World} {b n : Nat} {f f' : Nat → Int} {g g' : Nat → Value} (h : VRow w b n f g) (hf : ∀ i, i < n → f' i = f i) (hg : ∀ i, i < n → g' i = g i) : VRow w b n f' g' := by
  obtain ⟨c, hc, hs, hh⟩ := h
  exact ⟨c, hc, hs, fun i hi j hj => by rw [hh i hi j hj, hf i hi, hg i hi]⟩

theorem heap_setCell_same {w : World} {b o : Nat} {c : Array Value} {t : TypeId} {fz : Nat × Nat} (v : Value) (h : w.heap[b]? = some (.cells c t fz)) :
    (w.setCell ⟨b, o, none⟩ v).heap[b]? = some (.cells (c.setIfInBounds o v) t fz) := by
  have hb := (Array.getElem?_eq_some_iff.1 h).1
  simp only [World.setCell, Array.getElem?_modify, h]
  simp

theorem VRow.setInt {w : World} {b n : Nat} {f : Nat → Int} {g : Nat → Value} (h : VRow w b n f g) {k : Nat} (hk : k < n) (x : Int) :
    VRow (w.setCell ⟨b, k * 12 + 2, none⟩ (.int .i64 x)) b n (fun i => if i = k then x else f i) g := by
  obtain ⟨c, hc, hs, hh⟩ := h
  refine ⟨_, heap_setCell_same _ hc, by simpa using hs, fun i hi j hj => ?_⟩
  rw [Array.getElem?_setIfInBounds]
  split
  · rename_i e
    have e1 : i = k := by omega
    have e2 : j = 2 := by omega
    subst e1 e2
    rw [if_pos (by omega)]
    simp [vc]
  · rename_i e
    rw [hh i hi j hj]
    by_cases e1 : i = k
    · subst e1
      have : j ≠ 2 := by omega
      simp [vc, this]
    · simp [e1]

theorem VRow.setElems {w : World} {b n : Nat} {f : Nat → Int} {g : Nat → Value} (h : VRow w b n f g) {k : Nat} (hk : k < n) (x : Value) :
    VRow (w.setCell ⟨b, k * 12 + 10, none⟩ x) b n f (fun i => if i = k then x else g i) := by
  obtain ⟨c, hc, hs, hh⟩ := h
  refine ⟨_, heap_setCell_same _ hc, by simpa using hs, fun i hi j hj => ?_⟩
  rw [Array.getElem?_setIfInBounds]
  split
  · rename_i e
    have e1 : i = k := by omega
    have e2 : j = 10 := by omega
    subst e1 e2
    rw [if_pos (by omega)]
    simp [vc]
  · rename_i e
    rw [hh i hi j hj]
    by_cases e1 : i = k
    · subst e1
      have : j ≠ 10 := by omega
      simp [vc, this]
    · simp [e1]

/-- n zero elements, made by 'make'. -/
theorem made_cell (n i j : Nat) (hi : i < n) (hj : j < 12) : (madeCells zc.toArray (n * 12))[12 * i + j]? = some (vc 0 nilS j) := by
  have h1 : 12 * i + j < n * 12 := by omega
  have hz : (12 * i + j) % 12 = j := by omega
  unfold madeCells
  rw [Array.getElem?_map, Array.getElem?_range, if_pos h1]
  simp only [Option.map_some, List.size_toArray]
  rw [show zc.length = 12 from rfl, hz]
  match j, hj with
  | 0, _ | 1, _ | 2, _ | 3, _ | 4, _ | 5, _ | 6, _ | 7, _ | 8, _ | 9, _ | 10, _ | 11, _ => rfl

theorem VRow.made (w : World) (n : Nat) : VRow (w.alloc (.cells (madeCells zc.toArray (n * 12)) 37)) w.heap.size n (fun _ => 0) (fun _ => nilS) :=
  ⟨_, heap_alloc_new w _, by rw [size_madeCells]; omega, fun i hi j hj => made_cell n i j hi hj⟩

theorem zero_cell (n i j : Nat) (hi : i < n) (hj : j < 12) : (Builtin.zeroCells zc.toArray n)[12 * i + j]? = some (vc 0 nilS j) := made_cell n i j hi hj

/-- What a world keeps while only the blocks of S are written, and new ones made. -/
structure Keeps (S : Nat → Prop) (w w' : World) : Prop where
  os : w'.os = w.os
  tape : w'.tape = w.tape
  output : w'.output = w.output
  size : w.heap.size ≤ w'.heap.size
  block : ∀ k, k < w.heap.size → ¬ S k → w'.heap[k]? = w.heap[k]?

theorem Keeps.refl (S : Nat → Prop) (w : World) : Keeps S w w := ⟨rfl, rfl, rfl, Nat.le_refl _, fun _ _ _ => rfl⟩
theorem Keeps.trans {S : Nat → Prop} {a b c : World} (h : Keeps S a b) (k : Keeps S b c) : Keeps S a c :=
  ⟨k.os.trans h.os, k.tape.trans h.tape, k.output.trans h.output, Nat.le_trans h.size k.size, fun i hi hn => (k.block i (Nat.lt_of_lt_of_le hi h.size) hn).trans (h.block i hi hn)⟩
theorem Keeps.alloc {S : Nat → Prop} {a w : World} (h : Keeps S a w) (o : Obj) : Keeps S a (w.alloc o) :=
  h.trans ⟨rfl, rfl, rfl, by simp, fun k hk _ => Below.heap_alloc w o k hk⟩
theorem Keeps.drew {S : Nat → Prop} {a w : World} (h : Keeps S a w) : Keeps S a w.drew := ⟨h.os, h.tape, h.output, h.size, h.block⟩
/-- A store into a block of S, or into one made since. -/
theorem Keeps.setCell {S : Nat → Prop} {a w : World} (h : Keeps S a w) {p : Addr} (hp : a.heap.size ≤ p.block ∨ S p.block) (v : Value) : Keeps S a (w.setCell p v) :=
  ⟨h.os, h.tape, h.output, by simpa using h.size, fun k hk hn => by
    rw [Below.heap_setCell _ _ _ _ (fun e => by rcases hp with hp | hp; omega; exact hn (e ▸ hp))]
    exact h.block k hk hn⟩
theorem Keeps.mono {S S' : Nat → Prop} {a w : World} (h : Keeps S a w) (hs : ∀ k, k < a.heap.size → S k → S' k) : Keeps S' a w :=
  ⟨h.os, h.tape, h.output, h.size, fun k hk hn => h.block k hk (fun e => hn (hs k hk e))⟩
theorem Keeps.below {S : Nat → Prop} {a w : World} {B : Nat} (h : Keeps S a w) (hB : B ≤ a.heap.size) (hs : ∀ k, S k → B ≤ k) : Below B a w :=
  ⟨h.os, h.tape, h.output, h.size, fun k hk => h.block k (by omega) (fun e => by have := hs k e; omega)⟩

/-- THE CHAIN: level k (k ≤ D) is row bs k, of M k elements with Ints F k; its element q k has the Elems E k, all others nil; E k is row bs (k + 1) for k < D, nil from D on. -/
structure Chain (w : World) (D : Nat) (q M : Nat → Nat) (F : Nat → Nat → Int) (E : Nat → Value) (bs : Nat → Nat) : Prop where
  lvl : ∀ k, k ≤ D → VRow w (bs k) (M k) (F k) (fun e => if e = q k then E k else nilS)
  el : ∀ k, k < D → ∃ cap, E k = .slice (some ⟨bs (k + 1), 0, none⟩) (M (k + 1)) cap ∧ M (k + 1) ≤ cap
  en : ∀ k, D ≤ k → E k = nilS
  inj : ∀ i j, i ≤ D → j ≤ D → bs i = bs j → i = j

theorem Chain.of_blocks {w w' : World} {D : Nat} {q M : Nat → Nat} {F : Nat → Nat → Int} {E : Nat → Value} {bs : Nat → Nat} (h : Chain w D q M F E bs) (hb : ∀ k, k ≤ D → w'.heap[bs k]? = w.heap[bs k]?) : Chain w' D q M F E bs :=
  ⟨fun k hk => (h.lvl k hk).of_block (hb k hk), h.el, h.en, h.inj⟩
theorem Chain.lt {w : World} {D : Nat} {q M : Nat → Nat} {F : Nat → Nat → Int} {E : Nat → Value} {bs : Nat → Nat} (h : Chain w D q M F E bs) {k : Nat} (hk : k ≤ D) : bs k < w.heap.size := (h.lvl k hk).lt
theorem Chain.alloc {w : World} {D : Nat} {q M : Nat → Nat} {F : Nat → Nat → Int} {E : Nat → Value} {bs : Nat → Nat} (h : Chain w D q M F E bs) (o : Obj) : Chain (w.alloc o) D q M F E bs :=
  h.of_blocks fun k hk => Below.heap_alloc w o _ (h.lt hk)
theorem Chain.drew {w : World} {D : Nat} {q M : Nat → Nat} {F : Nat → Nat → Int} {E : Nat → Value} {bs : Nat → Nat} (h : Chain w D q M F E bs) : Chain w.drew D q M F E bs :=
  ⟨fun k hk => (h.lvl k hk), h.el, h.en, h.inj⟩
theorem Chain.congrF {w : World} {D : Nat} {q M : Nat → Nat} {F F' : Nat → Nat → Int} {E : Nat → Value} {bs : Nat → Nat} (h : Chain w D q M F E bs) (hf : ∀ k, k ≤ D → ∀ e, e < M k → F' k e = F k e) : Chain w D q M F' E bs :=
  ⟨fun k hk => (h.lvl k hk).congr (hf k hk) (fun _ _ => rfl), h.el, h.en, h.inj⟩

/-- One Int of the last level is set. -/
theorem Chain.setInt {w : World} {D : Nat} {q M : Nat → Nat} {F : Nat → Nat → Int} {E : Nat → Value} {bs : Nat → Nat} (h : Chain w D q M F E bs) {t i : Nat} (ht : t ≤ D) (hi : i < M t) (x : Int) :
    Chain (w.setCell ⟨bs t, i * 12 + 2, none⟩ (.int .i64 x)) D q M (fun k e => if k = t ∧ e = i then x else F k e) E bs := by
  refine ⟨fun k hk => ?_, h.el, h.en, h.inj⟩
  by_cases e : k = t
  · subst e
    refine ((h.lvl k hk).setInt hi x).congr (fun j _ => ?_) (fun _ _ => rfl)
    simp
  · refine ((h.lvl k hk).of_block (Below.heap_setCell _ _ _ _ (fun e' => e (h.inj k t hk ht e')))).congr (fun j _ => ?_) (fun _ _ => rfl)
    simp [e]

/-- A NEW ROW AT LEVEL t + 1: made in a world 'w1' that has the old rows, its header stored at level t's element q t. What hung below level t + 1 is dropped. -/
theorem Chain.put {w w1 : World} {D : Nat} {q M : Nat → Nat} {F : Nat → Nat → Int} {E : Nat → Value} {bs : Nat → Nat} (h : Chain w D q M F E bs) {t : Nat} (ht : t ≤ D) (hD : D ≤ t + 1) (hq : q t < M t)
    {b m cap : Nat} (hb : w.heap.size ≤ b) (hold : ∀ k, k < w.heap.size → w1.heap[k]? = w.heap[k]?) (hm : m ≤ cap) {f : Nat → Int} (hrow : VRow w1 b m f (fun _ => nilS)) :
    Chain (w1.setCell ⟨bs t, q t * 12 + 10, none⟩ (.slice (some ⟨b, 0, none⟩) m cap)) (t + 1) q (fun k => if k = t + 1 then m else M k) (fun k => if k = t + 1 then f else F k)
      (fun k => if k = t then .slice (some ⟨b, 0, none⟩) m cap else if k = t + 1 then nilS else E k) (fun k => if k = t + 1 then b else bs k) := by
  have hlt : ∀ k, k ≤ t → bs k < w.heap.size := fun k hk => h.lt (by omega)
  refine ⟨fun k hk => ?_, fun k hk => ?_, fun k hk => ?_, fun i j hi hj e => ?_⟩
  · by_cases e1 : k = t + 1
    · subst e1
      simp only [if_true]
      refine (hrow.of_block (Below.heap_setCell _ _ _ _ (fun e => by have := hlt t (Nat.le_refl _); simp at e; omega))).congr (fun _ _ => rfl) (fun i _ => ?_)
      simp
    · have hk' : k ≤ t := by omega
      simp only [e1, if_false]
      have hv := (h.lvl k (by omega)).of_block (hold (bs k) (hlt k hk'))
      by_cases e2 : k = t
      · subst e2
        refine (hv.setElems hq _).congr (fun _ _ => rfl) (fun i _ => ?_)
        by_cases e3 : i = q k <;> simp [e3]
      · refine (hv.of_block (Below.heap_setCell _ _ _ _ (fun e => e2 (h.inj k t (by omega) ht e)))).congr (fun _ _ => rfl) (fun i _ => ?_)
        simp [e2]
  · by_cases e1 : k = t
    · subst e1
      exact ⟨cap, by simp, by simpa using hm⟩
    · obtain ⟨c, hc, hl⟩ := h.el k (by omega)
      have e2 : k + 1 ≠ t + 1 := by omega
      have e3 : k ≠ t + 1 := by omega
      exact ⟨c, by simp [e1, e3, hc], by simpa [e1] using hl⟩
  · have e1 : k ≠ t := by omega
    by_cases e2 : k = t + 1
    · simp [e2]
    · simp [e1, e2, h.en k (by omega)]
  · by_cases e1 : i = t + 1 <;> by_cases e2 : j = t + 1
    · omega
    · simp only [e1, e2, if_true, if_false] at e
      have := hlt j (by omega); omega
    · simp only [e1, e2, if_true, if_false] at e
      have := hlt i (by omega); omega
    · simp only [e1, e2, if_false] at e
      exact h.inj i j (by omega) (by omega) e

#print axioms Chain.put
end Go.Proofs.Ybulkexpka.Mem
