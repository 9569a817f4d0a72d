/-
  OUR OWN. What the loop of '(*textColumn).value' keeps, and what one round does to it. No walk here.
-/
import Derived.Test.YbulkexpkaZeros
namespace Go.Proofs.Ybulkexpka.Mem
open Go.RowKit
set_option linter.unusedVariables false
set_option linter.unusedSimpArgs false

/-- t levels have been walked; v points at level t's element q t. -/
def VInv (w : World) (S : Nat → Prop) (q Mo : Nat → Nat) (F : Nat → Nat → Int) (R N : Nat) (t : Nat) (v : Value) (wr : World) : Prop :=
  ∃ (D : Nat) (M : Nat → Nat) (E : Nat → Value) (bs : Nat → Nat), Chain wr D q M F E bs ∧ t ≤ D ∧ D ≤ N ∧ bs 0 = R ∧ v = .pointer (some ⟨bs t, q t * 12, none⟩) ∧ q t < M t ∧
    (∀ k, k ≤ t → M k = if k = 0 then Mo 0 else max (Mo k) (q k + 1)) ∧ (∀ k, t < k → M k = Mo k) ∧ (∀ k, D < k → Mo k = 0) ∧ (∀ k, k < D → q k < M k) ∧
    (∀ k, t ≤ k → k < D → E k = .slice (some ⟨bs (k + 1), 0, none⟩) (Mo (k + 1)) (Mo (k + 1))) ∧ (∀ k, k ≤ D → S (bs k) ∨ w.heap.size ≤ bs k) ∧ Keeps S w wr

theorem VInv.keeps {w : World} {S : Nat → Prop} {q Mo : Nat → Nat} {F : Nat → Nat → Int} {R N t : Nat} {v : Value} {wr : World} (h : VInv w S q Mo F R N t v wr) : Keeps S w wr := by
  obtain ⟨D, M, E, bs, _, _, _, _, _, _, _, _, _, _, _, _, hk⟩ := h
  exact hk

/-- What a round finds: the pointer; the element's Elems; what becomes of it, whether it is long enough or not. -/
theorem VInv.look {w : World} {S : Nat → Prop} {q Mo : Nat → Nat} {F : Nat → Nat → Int} {R N t : Nat} {v : Value} {wr : World} (h : VInv w S q Mo F R N t v wr) (ht : t < N) (hF : ∀ k e, 1 ≤ k → Mo k ≤ e → F k e = 0) :
    ∃ (b : Nat) (ao : Option Addr), v = .pointer (some ⟨b, q t * 12, none⟩) ∧ b < wr.heap.size ∧ wr.cell? ⟨b, q t * 12 + 10, none⟩ = some (.slice ao (Mo (t + 1)) (Mo (t + 1))) ∧ wr.frozen? ⟨b, q t * 12 + 10, none⟩ = false ∧
      (q (t + 1) < Mo (t + 1) → ∃ b', ao = some ⟨b', 0, none⟩ ∧ VInv w S q Mo F R N (t + 1) (.pointer (some ⟨b', q (t + 1) * 12, none⟩)) wr) ∧
      (Mo (t + 1) ≤ q (t + 1) → ((ao = none ∧ Mo (t + 1) = 0) ∨ ∃ b', ao = some ⟨b', 0, none⟩ ∧ VRow wr b' (Mo (t + 1)) (F (t + 1)) (fun _ => nilS)) ∧
        ∀ w1 cap' m, Mo (t + 1) + m = q (t + 1) + 1 → Mo (t + 1) + m ≤ cap' → Grew wr w1 (Mo (t + 1)) m (F (t + 1)) →
          VInv w S q Mo F R N (t + 1) (.pointer (some ⟨wr.heap.size, q (t + 1) * 12, none⟩)) (w1.setCell ⟨b, q t * 12 + 10, none⟩ (.slice (some ⟨wr.heap.size, 0, none⟩) (Mo (t + 1) + m) cap'))) := by
  obtain ⟨D, M, E, bs, hch, htD, hDN, hR, hv, hqt, hM1, hM2, hM3, hq, hE, hS, hk⟩ := h
  have hMt : M (t + 1) = Mo (t + 1) := hM2 _ (by omega)
  have hrow := hch.lvl t htD
  have hcell := hrow.elems hqt
  simp only [if_true] at hcell
  have hput : Mo (t + 1) ≤ q (t + 1) → ∀ w1 cap' m, Mo (t + 1) + m = q (t + 1) + 1 → Mo (t + 1) + m ≤ cap' → Grew wr w1 (Mo (t + 1)) m (F (t + 1)) →
          VInv w S q Mo F R N (t + 1) (.pointer (some ⟨wr.heap.size, q (t + 1) * 12, none⟩)) (w1.setCell ⟨bs t, q t * 12 + 10, none⟩ (.slice (some ⟨wr.heap.size, 0, none⟩) (Mo (t + 1) + m) cap')) := by
    intro hle w1 cap' m hm hcap hg
    have hD1 : D ≤ t + 1 := by
      by_cases e : D ≤ t + 1
      · exact e
      · have := hq (t + 1) (by omega); rw [hMt] at this; omega
    have hrow1 := hg.row
    have hrow2 : VRow w1 wr.heap.size (Mo (t + 1) + m) (F (t + 1)) (fun _ => nilS) := hrow1.congr (fun i hi => by
      by_cases e : i < Mo (t + 1)
      · simp [e]
      · simp [e, hF (t + 1) i (by omega) (by omega)]) (fun _ _ => rfl)
    have hc := hch.put (t := t) htD hD1 hqt (Nat.le_refl _) hg.old hcap hrow2
    refine ⟨t + 1, _, _, _, hc.congrF (F' := F) (fun k hk e he => ?_), Nat.le_refl _, by omega, by simpa using hR, by simp, by simp; omega, fun k hk => ?_, fun k hk => ?_, fun k hk => hM3 k (by omega), fun k hk => ?_, fun k h1 h2 => by omega, fun k hk2 => ?_, ?_⟩
    · by_cases e1 : k = t + 1 <;> simp [e1]
    · by_cases e1 : k = t + 1
      · subst e1
        simp only [if_true]
        rw [if_neg (by omega)]
        omega
      · simp only [e1, if_false]
        exact hM1 k (by omega)
    · have e1 : k ≠ t + 1 := by omega
      simp only [e1, if_false]
      exact hM2 k (by omega)
    · have e1 : k ≠ t + 1 := by omega
      simp only [e1, if_false]
      by_cases e2 : k = t
      · subst e2; exact hqt
      · exact hq k (by omega)
    · by_cases e1 : k = t + 1
      · simp only [e1, if_true]; exact .inr hk.size
      · simp only [e1, if_false]; exact hS k (by omega)
    · exact (hk.trans ⟨hg.os, hg.tape, hg.output, by have := hg.size; omega, fun k hk' _ => hg.old k hk'⟩).setCell (by
        rcases hS t htD with h | h
        · exact .inr h
        · exact .inl h) _
  by_cases hlt : t < D
  · have hEt := hE t (Nat.le_refl _) hlt
    have hrow' := hch.lvl (t + 1) (by omega)
    rw [hMt] at hrow'
    refine ⟨bs t, some ⟨bs (t + 1), 0, none⟩, hv, hrow.lt, by rw [hcell, hEt], hrow.frozen _, fun hl => ⟨bs (t + 1), rfl, D, M, E, bs, hch, by omega, hDN, hR, rfl, by rw [hMt]; exact hl, fun k hk => ?_, fun k hk => hM2 k (by omega), hM3, hq, fun k h1 h2 => hE k (by omega) h2, hS, hk⟩, fun hle => ⟨.inr ⟨bs (t + 1), rfl, hrow'.congr (fun _ _ => rfl) (fun i hi => ?_)⟩, hput hle⟩⟩
    · by_cases e1 : k = t + 1
      · subst e1
        rw [if_neg (by omega), hMt]; omega
      · exact hM1 k (by omega)
    · have : i ≠ q (t + 1) := by omega
      simp [this]
  · have hEt : E t = nilS := hch.en t (by omega)
    have h0 : Mo (t + 1) = 0 := hM3 (t + 1) (by omega)
    refine ⟨bs t, none, hv, hrow.lt, by rw [hcell, hEt, h0]; rfl, hrow.frozen _, fun hl => by omega, fun hle => ⟨.inl ⟨rfl, h0⟩, hput hle⟩⟩

#print axioms VInv.look
end Go.Proofs.Ybulkexpka.Mem
