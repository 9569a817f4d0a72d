/-
  OUR OWN. From the building's end to the call of 'value', and what the checks behind it read.
-/
import Derived.Test.YbulkexpkaBuild
namespace Go.Proofs.Ybulkexpka.Mem
open Go.RowKit
set_option linter.unusedVariables false
set_option linter.unusedSimpArgs false

theorem Chain.congrM {w : World} {D : Nat} {q M M' : Nat → Nat} {F : Nat → Nat → Int} {E : Nat → Value} {bs : Nat → Nat} (h : Chain w D q M F E bs) (hm : ∀ k, k ≤ D → M' k = M k) : Chain w D q M' F E bs :=
  ⟨fun k hk => by rw [hm k hk]; exact h.lvl k hk, fun k hk => by rw [hm (k + 1) (by omega)]; exact h.el k hk, h.en, h.inj⟩

theorem BInv.toV {w wr : World} {rl idx N K : Nat} {p L : Nat → Nat} {bt : Nat} (h : BInv w rl idx N p L K bt wr) (hK : K ≤ N) (hix : idx < rl) {wv : World} (hold : ∀ k, k < wr.heap.size → wv.heap[k]? = wr.heap[k]?) :
    ∃ S : Nat → Prop, VInv wv S (qB idx p) (Mo rl K L) (Fo rl K L) w.heap.size N 0 (.pointer (some ⟨w.heap.size, idx * 12, none⟩)) wv ∧ ¬ S (w.heap.size + 1) ∧ ¬ S (w.heap.size + 2) ∧ (∀ b, S b → b < wr.heap.size ∧ w.heap.size ≤ b) := by
  obtain ⟨E, bs, hch, h0, hbt, hqs, hE, hbs, hP, hO, hbel⟩ := h
  have hMo : ∀ k, k ≤ K → Mo rl K L k = MB rl L k := fun k hk => by simp [Mo, hk]
  refine ⟨fun b => ∃ k, k ≤ K ∧ bs k = b, ⟨K, Mo rl K L, E, bs, ?_, Nat.zero_le _, hK, h0, ?_, ?_, fun k hk => ?_, fun k _ => rfl, fun k hk => ?_, fun k hk => ?_, fun k _ hk => ?_, fun k hk => .inl ⟨k, hk, rfl⟩, Keeps.refl _ _⟩, ?_, ?_, ?_⟩
  · refine ((hch.of_blocks (fun k hk => hold _ (hch.lt hk))).congrM hMo).congrF (fun k hk e he => ?_)
    by_cases e1 : k = 0
    · subst e1; simp [Fo, FB]
    · obtain ⟨k, rfl⟩ : ∃ j, k = j + 1 := ⟨k - 1, by omega⟩
      simp [Fo, FB, he]
  · rw [h0]; rfl
  · rw [hMo 0 (by omega)]; exact hix
  · obtain rfl : k = 0 := by omega
    simp
  · have : ¬ k ≤ K := by omega
    simp [Mo, this]
  · rw [hMo k (by omega)]; exact hqs k hk
  · rw [hMo (k + 1) (by omega)]; exact hE k hk
  · rintro ⟨k, hk, e⟩
    rcases hbs k hk with h | h <;> omega
  · rintro ⟨k, hk, e⟩
    rcases hbs k hk with h | h <;> omega
  · rintro b ⟨k, hk, rfl⟩
    refine ⟨hch.lt hk, ?_⟩
    rcases hbs k hk with h | h <;> omega

/-- The lengths behind 'value'. -/
def Mf (q Mo : Nat → Nat) : Nat → Nat := fun k => if k = 0 then Mo 0 else max (Mo k) (q k + 1)

theorem VInv.final {w w' : World} {S : Nat → Prop} {q Mo : Nat → Nat} {F : Nat → Nat → Int} {R N : Nat} {v : Value} (h : VInv w S q Mo F R N N v w') :
    ∃ E bs, Chain w' N q (Mf q Mo) F E bs ∧ bs 0 = R ∧ v = .pointer (some ⟨bs N, q N * 12, none⟩) ∧ Keeps S w w' := by
  obtain ⟨D, M, E, bs, hch, h1, h2, h3, h4, h5, h6, h7, h8, h9, h10, h11, h12⟩ := h
  obtain rfl : D = N := by omega
  exact ⟨E, bs, hch.congrM (fun k hk => (h6 k hk).symm), h3, h4, h12⟩

theorem cell_box (w1 : World) (c : Array Value) (t : TypeId) (o : Nat) : (w1.alloc (.cells c t)).cell? ⟨w1.heap.size, o, none⟩ = c[o]? := by
  have h := heap_alloc_new w1 (.cells c t)
  simp only [World.cell?, h]
  simp

/-- What the checks read: the chain as 'value' leaves it, the receiver, the path and its copy, the lengths. -/
structure Fin (w wf : World) (rl ix N K C bc : Nat) (p L : Nat → Nat) (E : Nat → Value) (bs : Nat → Nat) : Prop where
  chain : Chain wf N (qB ix p) (Mf (qB ix p) (Mo rl K L)) (Fo rl K L) E bs
  b0 : bs 0 = w.heap.size
  c3 : wf.cell? ⟨C, 3, none⟩ = some (.int .i64 (ix : Int))
  c4 : wf.cell? ⟨C, 4, none⟩ = some (.slice (some ⟨w.heap.size + 1, 0, none⟩) N N)
  ps : ∀ k, k < N → wf.cell? ⟨w.heap.size + 1, k, none⟩ = some (.int .i64 (p k : Int))
  pc : ∀ k, k < N → wf.cell? ⟨bc, k, none⟩ = some (.int .i64 (p k : Int))
  lens : ∀ k, k < N → wf.cell? ⟨w.heap.size + 2, k, none⟩ = some (.int .i64 (Mo rl K L (k + 1) : Int))
  bel : Below w.heap.size w wf

theorem fin_of {w wc w1 wv w2 : World} {rl ix N K C bc bt : Nat} {p L : Nat → Nat} {E : Nat → Value} {bs : Nat → Nat} {S : Nat → Prop} {o : Obj} (hB : BInv w rl ix N p L K bt wc)
    (hk1 : Keeps (fun _ => False) wc w1) (hC : C = w1.heap.size) (hwv : wv = w1.alloc o)
    (h3 : wv.cell? ⟨C, 3, none⟩ = some (.int .i64 (ix : Int))) (h4 : wv.cell? ⟨C, 4, none⟩ = some (.slice (some ⟨w.heap.size + 1, 0, none⟩) N N))
    (hbc : wc.heap.size ≤ bc) (hbc1 : bc < w1.heap.size) (hpc : ∀ k, k < N → w1.cell? ⟨bc, k, none⟩ = some (.int .i64 (p k : Int)))
    (hS1 : ¬ S (w.heap.size + 1)) (hS2 : ¬ S (w.heap.size + 2)) (hS : ∀ b, S b → b < wc.heap.size ∧ w.heap.size ≤ b)
    (hch : Chain w2 N (qB ix p) (Mf (qB ix p) (Mo rl K L)) (Fo rl K L) E bs) (hb0 : bs 0 = w.heap.size) (hk2 : Keeps S wv w2) : Fin w w2 rl ix N K C bc p L E bs := by
  have hz1 := hk1.size
  have hz3 := hB.size
  have hzv : wv.heap.size = w1.heap.size + 1 := by rw [hwv]; simp
  have hv1 : ∀ k, k < w1.heap.size → wv.heap[k]? = w1.heap[k]? := fun k hk => by rw [hwv]; exact Below.heap_alloc w1 o k hk
  have h2 : ∀ k, k < wc.heap.size → ¬ S k → w2.heap[k]? = wc.heap[k]? := fun k hk hn => by
    rw [hk2.block k (by omega) hn, hv1 k (by omega), hk1.block k hk (fun h => h)]
  have hSC : ¬ S C := fun h => by have := (hS _ h).1; omega
  have hSbc : ¬ S bc := fun h => by have := (hS _ h).1; omega
  refine ⟨hch, hb0, ?_, ?_, fun k hk => ?_, fun k hk => ?_, fun k hk => ?_, ?_⟩
  · rw [World.cell?_of_block (w := wv) (hk2.block C (by omega) hSC)]; exact h3
  · rw [World.cell?_of_block (w := wv) (hk2.block C (by omega) hSC)]; exact h4
  · rw [World.cell?_of_block (w := wc) (h2 (w.heap.size + 1) (by omega) hS1)]; exact hB.path hk
  · rw [World.cell?_of_block (w := wv) (hk2.block bc (by omega) hSbc), World.cell?_of_block (w := w1) (hv1 bc hbc1)]; exact hpc k hk
  · rw [World.cell?_of_block (w := wc) (h2 (w.heap.size + 2) (by omega) hS2), hB.lens.cell hk]
    by_cases e : k < K
    · simp [Mo, MB, e, show k + 1 ≤ K by omega]
    · simp [Mo, MB, e, show ¬ k + 1 ≤ K by omega]
  · have hb := hB.below
    refine ⟨?_, ?_, ?_, by have := hk2.size; have := hb.size; omega, fun k hk => ?_⟩
    · rw [hk2.os, hwv]; exact hk1.os.trans hb.os
    · rw [hk2.tape, hwv]; exact hk1.tape.trans hb.tape
    · rw [hk2.output, hwv]; exact hk1.output.trans hb.output
    · rw [h2 k (by omega) (fun h => by have := (hS _ h).2; omega)]; exact hb.block k hk

theorem Fin.row {w wf : World} {rl ix N K C bc : Nat} {p L : Nat → Nat} {E : Nat → Value} {bs : Nat → Nat} (h : Fin w wf rl ix N K C bc p L E bs) {j : Nat} (hj : j < rl) :
    wf.cell? ⟨w.heap.size, j * 12 + 2, none⟩ = some (.int .i64 ((j : Int) + 1)) ∧ wf.cell? ⟨w.heap.size, j * 12, none⟩ = some (.bool false) ∧ (j ≠ ix → wf.cell? ⟨w.heap.size, j * 12 + 10, none⟩ = some (.slice none 0 0)) := by
  have hl := h.chain.lvl 0 (Nat.zero_le _)
  rw [h.b0] at hl
  have hM : Mf (qB ix p) (Mo rl K L) 0 = rl := by simp [Mf, Mo, MB]
  rw [hM] at hl
  refine ⟨by rw [hl.int hj]; rfl, hl.null hj, fun hne => ?_⟩
  rw [hl.elems hj]
  have : ¬ j = qB ix p 0 := hne
  simp [this, nilS]

theorem Fin.level {w wf : World} {rl ix N K C bc : Nat} {p L : Nat → Nat} {E : Nat → Value} {bs : Nat → Nat} (h : Fin w wf rl ix N K C bc p L E bs) {t : Nat} (ht : t < N) (hq : qB ix p t < Mf (qB ix p) (Mo rl K L) t) :
    ∃ cap, wf.cell? ⟨bs t, qB ix p t * 12 + 10, none⟩ = some (.slice (some ⟨bs (t + 1), 0, none⟩) (max (Mo rl K L (t + 1)) (p t + 1)) cap) ∧
      (∀ e, e < max (Mo rl K L (t + 1)) (p t + 1) → wf.cell? ⟨bs (t + 1), e * 12, none⟩ = some (.bool false) ∧ wf.cell? ⟨bs (t + 1), e * 12 + 2, none⟩ = some (.int .i64 (if e < Mo rl K L (t + 1) then tagI t e else 0)) ∧ (e ≠ p t → wf.cell? ⟨bs (t + 1), e * 12 + 10, none⟩ = some (.slice none 0 0))) := by
  have hl := h.chain.lvl t (by omega)
  have hl1 := h.chain.lvl (t + 1) (by omega)
  obtain ⟨cap, hE, _⟩ := h.chain.el t ht
  have hM : Mf (qB ix p) (Mo rl K L) (t + 1) = max (Mo rl K L (t + 1)) (p t + 1) := by simp [Mf, qB]
  rw [hM] at hl1 hE
  refine ⟨cap, ?_, fun e he => ⟨hl1.null he, ?_, fun hne => ?_⟩⟩
  · rw [hl.elems hq]; simp [hE]
  · rw [hl1.int he]; simp [Fo]
  · rw [hl1.elems he]
    have : ¬ e = qB ix p (t + 1) := hne
    simp [this, nilS]

theorem Fin.last {w wf : World} {rl ix N K C bc : Nat} {p L : Nat → Nat} {E : Nat → Value} {bs : Nat → Nat} (h : Fin w wf rl ix N K C bc p L E bs) (hq : qB ix p N < Mf (qB ix p) (Mo rl K L) N) :
    wf.cell? ⟨bs N, qB ix p N * 12 + 10, none⟩ = some (.slice none 0 0) := by
  rw [(h.chain.lvl N (Nat.le_refl _)).elems hq]
  simp [h.chain.en N (Nat.le_refl _), nilS]

theorem q_lt {rl ix K : Nat} {p L : Nat → Nat} (hix : ix < rl) (t : Nat) : qB ix p t < Mf (qB ix p) (Mo rl K L) t := by
  cases t with
  | zero => simpa [qB, Mf, Mo, MB] using hix
  | succ t => simp [qB, Mf]; omega

#print axioms fin_of
end Go.Proofs.Ybulkexpka.Mem
