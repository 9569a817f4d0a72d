/-
  OUR OWN. Blocks of the call's own, cell by cell; 'make' with the world behind it named; what the building loop keeps.
-/
import Derived.WalkKit
import Derived.Deep.QuietTactic
namespace Go.Proofs.YbulkexpqmFmt.Mem
open Go.RowKit
set_option linter.unusedVariables false
set_option linter.unusedSimpArgs false

/-- Block b, of n cells of type t: cell i holds g i. -/
def CB (w : World) (b n : Nat) (t : TypeId) (g : Nat → Value) : Prop := ∃ c, w.heap[b]? = some (.cells c t (0, 0)) ∧ c.size = n ∧ ∀ i, i < n → c[i]? = some (g i)

theorem CB.lt {w : World} {b n : Nat} {t : TypeId} {g : Nat → Value} (h : CB w b n t g) : b < w.heap.size := by
  obtain ⟨c, hc, _⟩ := h
  exact (Array.getElem?_eq_some_iff.1 hc).1
theorem CB.cell {w : World} {b n : Nat} {t : TypeId} {g : Nat → Value} (h : CB w b n t g) {i : Nat} (hi : i < n) : w.cell? ⟨b, i, none⟩ = some (g i) := by
  obtain ⟨c, hc, _, hh⟩ := h
  simp [World.cell?, hc, hh i hi]
theorem CB.frozen {w : World} {b n : Nat} {t : TypeId} {g : Nat → Value} (h : CB w b n t g) (o : Nat) : w.frozen? ⟨b, o, none⟩ = false := by
  obtain ⟨c, hc, _⟩ := h
  simp [World.frozen?, hc]
theorem CB.of_block {w w' : World} {b n : Nat} {t : TypeId} {g : Nat → Value} (h : CB w b n t g) (hb : w'.heap[b]? = w.heap[b]?) : CB w' b n t g := by
  obtain ⟨c, hc, r⟩ := h
  exact ⟨c, by rw [hb]; exact hc, r⟩
theorem CB.congr {w : World} {b n : Nat} {t : TypeId} {g g' : Nat → Value} (h : CB w b n t g) (hg : ∀ i, i < n → g' i = g i) : CB w b n t g' := by
  obtain ⟨c, hc, hs, hh⟩ := h
  exact ⟨c, hc, hs, fun i hi => by rw [hh i hi, hg i hi]⟩
theorem CB.set {w : World} {b n : Nat} {t : TypeId} {g : Nat → Value} (h : CB w b n t g) {k : Nat} (hk : k < n) (x : Value) : CB (w.setCell ⟨b, k, none⟩ x) b n t (fun i => if i = k then x else g i) := by
  obtain ⟨c, hc, hs, hh⟩ := h
  refine ⟨c.setIfInBounds k x, ?_, by simpa using hs, fun i hi => ?_⟩
  · simp only [World.setCell, Array.getElem?_modify, hc]
    simp
  · rw [Array.getElem?_setIfInBounds]
    split
    · rename_i e; subst e; rw [if_pos (by omega)]; simp
    · rename_i e
      have : i ≠ k := fun e' => e e'.symm
      simp [this, hh i hi]
theorem CB.alloc {w : World} {b n : Nat} {t : TypeId} {g : Nat → Value} (h : CB w b n t g) (o : Obj) : CB (w.alloc o) b n t g := h.of_block (Below.heap_alloc w o b h.lt)
theorem CB.below {w w' : World} {B b n : Nat} {t : TypeId} {g : Nat → Value} (h : CB w b n t g) (hb : Below B w w') (hlt : b < B) : CB w' b n t g := h.of_block (hb.block b hlt)
theorem CB.setOther {w : World} {b n : Nat} {t : TypeId} {g : Nat → Value} (h : CB w b n t g) {a : Addr} (ha : a.block ≠ b) (v : Value) : CB (w.setCell a v) b n t g := h.of_block (Below.heap_setCell _ _ _ _ (fun e => ha e.symm))
theorem CB.new (w : World) (c : Array Value) (t : TypeId) : CB (w.alloc (.cells c t)) w.heap.size c.size t (fun i => c[i]?.getD undef) :=
  ⟨c, heap_alloc_new w _, rfl, fun i hi => by simp [hi]⟩

theorem made1 (z : Value) (n : Nat) (w : World) (t : TypeId) : CB (w.alloc (.cells (madeCells #[z] n) t)) w.heap.size n t (fun _ => z) := by
  refine ⟨_, heap_alloc_new w _, by rw [size_madeCells], fun i hi => ?_⟩
  unfold madeCells
  rw [Array.getElem?_map, Array.getElem?_range, if_pos hi]
  simp [Nat.mod_one]
theorem made2 (z : Value) (n : Nat) (w : World) (t : TypeId) : CB (w.alloc (.cells (madeCells #[z, z] (n * 2)) t)) w.heap.size (n * 2) t (fun _ => z) := by
  refine ⟨_, heap_alloc_new w _, by rw [size_madeCells], fun i hi => ?_⟩
  unfold madeCells
  rw [Array.getElem?_map, Array.getElem?_range, if_pos hi]
  simp only [Option.map_some]
  have hm := Nat.mod_lt i (show 0 < 2 by omega)
  show some (#[z, z][i % 2]!) = some z
  generalize i % 2 = r at *
  match r, hm with
  | 0, _ | 1, _ => rfl

/-- 'make([]T, n)': the world behind it is named. -/
theorem wpList_make_w {P : Program} (w : World) {ops : Array Oper} {rest : List Oper} {o : Oper} {a : Act} {Q : Exit → Act → World → Prop}
    (hg : o.guard = none) (l c : Operand) (t : TypeId) (hop : o.op = Op.makeSlice t l c)
    (e : TypeId) (i : TypeInfo) (z : Value) (size : Nat) (h1 : P.underlying t = some (.slice e)) (h2 : P.info? e = some i) (h3 : i.zero = some z) (h4 : i.size = size)
    (kl kc : IntKind) (L C : Int) (n : Nat) (hl : a.eval l = .int kl L) (hc : a.eval c = .int kc C) (hL : L = (n : Int)) (hC : C = (n : Int)) (b2 : i.bytes * n ≤ 281474976710656) (b3 : n ≤ 1000000000)
    (hK : ∀ w', Hid (w' = w.alloc (.cells (madeCells z.cells (n * size)) e)) → wpList P ops Q rest (a.put o.dst (.slice (some ⟨w.heap.size, 0, none⟩) n n)) w') :
    wpList P ops Q (o :: rest) a w := by
  refine wpList_plain hg fun K hK' => ?_
  subst hL
  subst hC
  have hb : (i.bytes : Int) * (n : Int) ≤ 281474976710656 := by
    have h : ((i.bytes * n : Nat) : Int) ≤ 281474976710656 := by omega
    rwa [Int.natCast_mul] at h
  have hrun := run_make (P := P) w t e i z h1 h2 h3 kl kc n n (by omega) (Int.le_refl _) hb (by omega)
  simp only [Int.toNat_natCast, h4] at hrun
  unfold Oper.wp
  simp [execOp, hop, hl, hc, hrun, Result.andThen]
  exact hK' _ _ (hK _ rfl)

def ptr (b : Nat) : Value := .pointer (some ⟨b, 0, none⟩)
/-- The interface value that holds such a pointer. -/
def ifc (b : Nat) : Value := .iface 31 (.pointer (some ⟨b, 0, none⟩))
/-- The entries' cells behind t rounds. -/
def ge (kp vp : Nat → Nat) (t : Nat) : Nat → Value := fun i => if i < t * 2 then ifc (if i % 2 = 0 then kp (i / 2) else vp (i / 2)) else .nilIface
def gp (p : Nat → Nat) (t : Nat) : Nat → Value := fun i => if i < t then ptr (p i) else .pointer none

/-- The building behind t rounds: keys at block Kb, vals at Kb + 1, the entries at Kb + 2. -/
structure St (w3 wr : World) (N Kb t : Nat) (kp vp : Nat → Nat) (ks : Nat → Int) : Prop where
  k : CB wr Kb N 31 (gp kp t)
  v : CB wr (Kb + 1) N 31 (gp vp t)
  e : CB wr (Kb + 2) (N * 2) 37 (ge kp vp t)
  kb : ∀ i, i < t → CB wr (kp i) 1 33 (fun _ => .int .i64 (ks i)) ∧ Kb + 2 < kp i
  vb : ∀ i, i < t → CB wr (vp i) 1 33 (fun _ => .int .i64 (wrap64 (ks i + 1))) ∧ Kb + 2 < vp i
  bel : Below Kb w3 wr

def upd (f : Nat → Nat) (t b : Nat) : Nat → Nat := fun i => if i = t then b else f i

theorem gp_step (p : Nat → Nat) (t b N : Nat) : ∀ i, i < N → gp (upd p t b) (t + 1) i = (if i = t then ptr b else gp p t i) := by
  intro i _
  unfold gp upd
  by_cases e : i = t
  · subst e; simp
  · by_cases e2 : i < t
    · simp [e, e2, show i < t + 1 by omega]
    · simp [e, e2, show ¬ i < t + 1 by omega]

theorem ge_step (kp vp : Nat → Nat) (t b b' N : Nat) : ∀ i, i < N → ge (upd kp t b) (upd vp t b') (t + 1) i = (if i = t * 2 + 1 then ifc b' else if i = t * 2 then ifc b else ge kp vp t i) := by
  intro i _
  unfold ge upd
  by_cases e1 : i = t * 2 + 1
  · subst e1
    simp [show (t * 2 + 1) % 2 = 1 by omega, show (t * 2 + 1) / 2 = t by omega, show t * 2 + 1 < (t + 1) * 2 by omega]
  · by_cases e2 : i = t * 2
    · subst e2
      simp [show (t * 2) % 2 = 0 by omega, show (t * 2) / 2 = t by omega, show t * 2 < (t + 1) * 2 by omega]
    · have h3 : i / 2 ≠ t := by omega
      by_cases e3 : i < t * 2
      · simp [e1, e2, e3, h3, show i < (t + 1) * 2 by omega]
      · simp [e1, e2, e3, show ¬ i < (t + 1) * 2 by omega]

/-- One round: two boxes, two pointers, one entry. w1: with the first box and its pointer; w2: with the second. -/
theorem St.step {w3 wr : World} {N Kb t : Nat} {kp vp : Nat → Nat} {ks : Nat → Int} (h : St w3 wr N Kb t kp vp ks) (ht : t < N) {w1 w2 : World} {n : Nat}
    (h1 : w1 = (wr.alloc (.cells #[.int .i64 (ks t)] 33)).setCell ⟨Kb, t, none⟩ (ptr wr.heap.size)) (h2 : w2 = (w1.alloc (.cells #[.int .i64 (wrap64 (ks t + 1))] 33)).setCell ⟨Kb + 1, t, none⟩ (ptr w1.heap.size)) :
    St w3 (((w2.drewN n).setCell ⟨Kb + 2, t * 2, none⟩ (ifc wr.heap.size)).setCell ⟨Kb + 2, t * 2 + 1, none⟩ (ifc w1.heap.size)) N Kb (t + 1) (upd kp t wr.heap.size) (upd vp t w1.heap.size) ks := by
  have hel := h.e.lt
  have hz1 : w1.heap.size = wr.heap.size + 1 := by rw [h1]; simp
  have hz2 : w2.heap.size = wr.heap.size + 2 := by rw [h2]; simp; omega
  -- what w1 keeps
  have k1 : ∀ j, j < wr.heap.size → j ≠ Kb → w1.heap[j]? = wr.heap[j]? := fun j hj hne => by rw [h1, Below.heap_setCell _ _ _ _ hne]; exact Below.heap_alloc wr _ j hj
  have k2 : ∀ j, j < w1.heap.size → j ≠ Kb + 1 → w2.heap[j]? = w1.heap[j]? := fun j hj hne => by rw [h2, Below.heap_setCell _ _ _ _ hne]; exact Below.heap_alloc w1 _ j hj
  have k3 : ∀ j, j ≠ Kb + 2 → (((w2.drewN n).setCell ⟨Kb + 2, t * 2, none⟩ (ifc wr.heap.size)).setCell ⟨Kb + 2, t * 2 + 1, none⟩ (ifc w1.heap.size)).heap[j]? = w2.heap[j]? := fun j hne => by
    rw [Below.heap_setCell _ _ _ _ hne, Below.heap_setCell _ _ _ _ hne]; rfl
  have b1 : CB w1 wr.heap.size 1 33 (fun _ => .int .i64 (ks t)) := by
    rw [h1]
    refine ((CB.new wr #[.int .i64 (ks t)] 33).setOther (by simp; omega) _).congr (fun i hi => ?_)
    obtain rfl : i = 0 := by simpa using hi
    rfl
  have b2 : CB w2 w1.heap.size 1 33 (fun _ => .int .i64 (wrap64 (ks t + 1))) := by
    rw [h2]
    refine ((CB.new w1 #[.int .i64 (wrap64 (ks t + 1))] 33).setOther (by simp; omega) _).congr (fun i hi => ?_)
    obtain rfl : i = 0 := by simpa using hi
    rfl
  have hk1 : CB w1 Kb N 31 (gp (upd kp t wr.heap.size) (t + 1)) := by rw [h1]; exact ((h.k.alloc _).set ht _).congr (gp_step kp t _ N)
  have hv2 : CB w2 (Kb + 1) N 31 (gp (upd vp t w1.heap.size) (t + 1)) := by
    rw [h2]
    exact (((h.v.of_block (k1 _ h.v.lt (by omega))).alloc _).set ht _).congr (gp_step vp t _ N)
  have he2 : CB w2 (Kb + 2) (N * 2) 37 (ge kp vp t) := (h.e.of_block (k1 _ hel (by omega))).of_block (k2 _ (by omega) (by omega))
  refine ⟨?_, ?_, ?_, fun i hi => ?_, fun i hi => ?_, ?_⟩
  · exact (hk1.of_block (k2 _ (by omega) (by omega))).of_block (k3 _ (by omega))
  · exact hv2.of_block (k3 _ (by omega))
  · have he3 : CB (w2.drewN n) (Kb + 2) (N * 2) 37 (ge kp vp t) := he2
    exact ((he3.set (k := t * 2) (by omega) (ifc wr.heap.size)).set (k := t * 2 + 1) (by omega) (ifc w1.heap.size)).congr (ge_step kp vp t _ _ _)
  · by_cases e : i = t
    · subst e
      simp only [upd, if_true]
      exact ⟨(b1.of_block (k2 _ (by omega) (by omega))).of_block (k3 _ (by omega)), by omega⟩
    · obtain ⟨hc, hlt⟩ := h.kb i (by omega)
      have := hc.lt
      simp only [upd, e, if_false]
      exact ⟨((hc.of_block (k1 _ hc.lt (by omega))).of_block (k2 _ (by omega) (by omega))).of_block (k3 _ (by omega)), hlt⟩
  · by_cases e : i = t
    · subst e
      simp only [upd, if_true]
      exact ⟨b2.of_block (k3 _ (by omega)), by omega⟩
    · obtain ⟨hc, hlt⟩ := h.vb i (by omega)
      have := hc.lt
      simp only [upd, e, if_false]
      exact ⟨((hc.of_block (k1 _ hc.lt (by omega))).of_block (k2 _ (by omega) (by omega))).of_block (k3 _ (by omega)), hlt⟩
  · have hb := h.bel
    refine ⟨?_, ?_, ?_, ?_, fun j hj => ?_⟩
    · show w2.os = _; rw [h2]; show w1.os = _; rw [h1]; exact hb.os
    · show w2.tape = _; rw [h2]; show w1.tape = _; rw [h1]; exact hb.tape
    · show w2.output = _; rw [h2]; show w1.output = _; rw [h1]; exact hb.output
    · have := hb.size
      simp only [World.size_setCell]
      show w3.heap.size ≤ w2.heap.size
      omega
    · rw [k3 j (by omega), k2 j (by omega) (by omega), k1 j (by omega) (by omega)]
      exact hb.block j hj

#print axioms St.step
end Go.Proofs.YbulkexpqmFmt.Mem
