/-
  OUR OWN. Two rows of integers that grow side by side; the building of the table.
-/
import Derived.WalkKit
import Derived.Maps.AppendAt
import Derived.Deep.QuietTactic
import Derived.Test.YbulkexpkoMaps
namespace Go.Proofs.Ybulkexpko.Mem
open Go.RowKit Plain
set_option linter.unusedVariables false
set_option linter.unusedSimpArgs false

/-- The slice v owns the ints xs, among the blocks from base on. -/
def Own (w : World) (base : Nat) (e : TypeId) (k : IntKind) (v : Value) (xs : List Int) : Prop := w.ownsRow base e 1 v xs.length (xs.map (Value.int k))

theorem Own.nil (w : World) (base : Nat) (e : TypeId) (k : IntKind) : Own w base e k (.slice none 0 0) [] := World.ownsRow_nil w base e 1

theorem Own.form {w : World} {base : Nat} {e : TypeId} {k : IntKind} {v : Value} {xs : List Int} (h : Own w base e k v xs) :
    ∃ a cap, v = .slice a xs.length cap ∧ (∀ i, i < xs.length → ∃ g, a = some ⟨g, 0, none⟩ ∧ base ≤ g ∧ g < w.heap.size ∧ v.ownBlock = some g ∧ w.cell? ⟨g, i, none⟩ = some (.int k (xs.getD i 0)) ∧ w.frozen? ⟨g, i, none⟩ = false) := by
  rcases h.2 with ⟨hv, h0⟩ | ⟨g, cap, cur, hv, hb, hg, hn, hm, hs, ht⟩
  · have : xs = [] := List.eq_nil_of_length_eq_zero h0
    subst this
    exact ⟨none, 0, hv, fun i hi => by simp at hi⟩
  · refine ⟨some ⟨g, 0, none⟩, cap, hv, fun i hi => ⟨g, rfl, hb, (Array.getElem?_eq_some_iff.1 hg).1, by rw [hv]; rfl, ?_, by simp [World.frozen?, hg]⟩⟩
    have h1 : (cur.toList.take (xs.length * 1))[i]? = some (Value.int k (xs.getD i 0)) := by
      rw [ht, List.getElem?_map, List.getElem?_eq_getElem hi]; simp [List.getD, hi]
    rw [List.getElem?_take, if_pos (by omega)] at h1
    simp only [World.cell?, hg]
    simpa using h1

theorem Own.kept {w w' : World} {base : Nat} {e : TypeId} {k : IntKind} {v : Value} {xs : List Int} {row : Option Nat} (h : Own w base e k v xs) (hg : w.grownBy w' row) (hne : v.ownBlock = none ∨ v.ownBlock ≠ row) : Own w' base e k v xs :=
  World.ownsRow.kept h hg hne

theorem Own.of_blocks {w w' : World} {base : Nat} {e : TypeId} {k : IntKind} {v : Value} {xs : List Int} (h : Own w base e k v xs) (hb : ∀ g, v.ownBlock = some g → w'.heap[g]? = w.heap[g]?) : Own w' base e k v xs := by
  refine ⟨h.1, ?_⟩
  rcases h.2 with hn | ⟨g, cap, cur, rfl, hbg, hgg, rest⟩
  · exact .inl hn
  · exact .inr ⟨g, cap, cur, rfl, hbg, by rw [hb g rfl]; exact hgg, rest⟩

theorem Own.lt {w : World} {base : Nat} {e : TypeId} {k : IntKind} {v : Value} {xs : List Int} (h : Own w base e k v xs) : ∀ g, v.ownBlock = some g → base ≤ g ∧ g < w.heap.size := World.ownsRow.lt h

theorem Own.set {w : World} {base : Nat} {e : TypeId} {k : IntKind} {v : Value} {xs : List Int} (h : Own w base e k v xs) {g j : Nat} (hg : v.ownBlock = some g) (hj : j < xs.length) (x : Int) :
    Own (w.setCell ⟨g, j, none⟩ (.int k x)) base e k v (xs.set j x) := by
  rcases h.2 with ⟨hv, h0⟩ | ⟨g', cap, cur, hv, hb, hgg, hn, hm, hs, ht⟩
  · omega
  · have e1 : g' = g := by rw [hv] at hg; simpa [Value.ownBlock] using hg
    subst e1
    have hlt := (Array.getElem?_eq_some_iff.1 hgg).1
    refine ⟨by simp, .inr ⟨g', cap, cur.setIfInBounds j (.int k x), by rw [hv]; simp, hb, ?_, by simpa using hn, hm, by simpa using hs, ?_⟩⟩
    · simp only [World.setCell, Array.getElem?_modify, hgg]
      simp
    · simp only [Array.toList_setIfInBounds, List.length_set]
      rw [List.take_set, ht, List.map_set]

/-- Two rows, apart from each other. -/
structure Two (wr : World) (base : Nat) (lk lv : List Int) (vk vv : Value) : Prop where
  k : Own wr base 24 .u64 vk lk
  v : Own wr base 3 .i64 vv lv
  ne : ∀ g, vk.ownBlock = some g → vv.ownBlock ≠ some g
  size : base ≤ wr.heap.size

theorem Two.nil (wr : World) (base : Nat) (h : base ≤ wr.heap.size) : Two wr base [] [] (.slice none 0 0) (.slice none 0 0) := ⟨Own.nil _ _ _ _, Own.nil _ _ _ _, fun g h => by simp [Value.ownBlock] at h, h⟩

theorem Two.of_below {wr w1 : World} {base : Nat} {lk lv : List Int} {vk vv : Value} (h : Two wr base lk lv vk vv) (hb : ∀ g, base ≤ g → g < wr.heap.size → w1.heap[g]? = wr.heap[g]?) (hs : wr.heap.size ≤ w1.heap.size) : Two w1 base lk lv vk vv :=
  ⟨h.k.of_blocks fun g hg => hb g (h.k.lt g hg).1 (h.k.lt g hg).2, h.v.of_blocks fun g hg => hb g (h.v.lt g hg).1 (h.v.lt g hg).2, h.ne, by have := h.size; omega⟩

theorem Two.drewN {wr : World} {base : Nat} {lk lv : List Int} {vk vv : Value} (h : Two wr base lk lv vk vv) (n : Nat) : Two (wr.drewN n) base lk lv vk vv := h.of_below (fun _ _ _ => rfl) (Nat.le_refl _)

theorem below_of_grown {wr w1 : World} {o : Obj} {base : Nat} {row : Option Nat} (hs : base ≤ wr.heap.size) (hg : (wr.alloc o).grownBy w1 row) (hr : ∀ k, row = some k → base ≤ k) : Below base wr w1 :=
  ((Below.refl base wr).alloc hs o).grown hg (by simp; omega) hr

theorem Two.appK {wr w1 : World} {o : Obj} {base : Nat} {lk lv : List Int} {vk vv vk' : Value} {x : Int} (h : Two wr base lk lv vk vv) (hg : (wr.alloc o).grownBy w1 vk.ownBlock)
    (ho : w1.ownsRow base 24 1 vk' (lk.length + 1) (lk.map (Value.int .u64) ++ [.int .u64 x])) (hl : vk'.ownBlock = vk.ownBlock ∨ vk'.ownBlock = some (wr.heap.size + 1)) :
    Two w1 base (lk ++ [x]) lv vk' vv ∧ Below base wr w1 := by
  have hsz := hg.size
  simp at hsz
  refine ⟨⟨?_, ?_, fun g hg' e => ?_, by have := h.size; omega⟩, below_of_grown h.size hg (fun k hk => (h.k.lt k hk).1)⟩
  · unfold Own; simpa using ho
  · refine h.v.of_blocks fun g hgv => ?_
    have := (h.v.lt g hgv).2
    rw [hg.block g (by simp; omega) (fun e => h.ne g e.symm hgv)]
    exact Below.heap_alloc wr o g this
  · rcases hl with hl | hl
    · exact h.ne g (hl ▸ hg') e
    · rw [hl] at hg'
      have := (h.v.lt g e).2
      simp at hg'
      omega

theorem Two.appV {wr w1 : World} {o : Obj} {base : Nat} {lk lv : List Int} {vk vv vv' : Value} {x : Int} (h : Two wr base lk lv vk vv) (hg : (wr.alloc o).grownBy w1 vv.ownBlock)
    (ho : w1.ownsRow base 3 1 vv' (lv.length + 1) (lv.map (Value.int .i64) ++ [.int .i64 x])) (hl : vv'.ownBlock = vv.ownBlock ∨ vv'.ownBlock = some (wr.heap.size + 1)) :
    Two w1 base lk (lv ++ [x]) vk vv' ∧ Below base wr w1 := by
  have hsz := hg.size
  simp at hsz
  refine ⟨⟨?_, ?_, fun g hg' e => ?_, by have := h.size; omega⟩, below_of_grown h.size hg (fun k hk => (h.v.lt k hk).1)⟩
  · refine h.k.of_blocks fun g hgv => ?_
    have := (h.k.lt g hgv).2
    rw [hg.block g (by simp; omega) (fun e => h.ne g hgv e.symm)]
    exact Below.heap_alloc wr o g this
  · unfold Own; simpa using ho
  · rcases hl with hl | hl
    · exact h.ne g hg' (hl ▸ e)
    · rw [hl] at e
      have := (h.k.lt g hg').2
      simp at e
      omega

theorem Two.setV {wr : World} {base : Nat} {lk lv : List Int} {vk vv : Value} (h : Two wr base lk lv vk vv) {g j : Nat} (hg : vv.ownBlock = some g) (hj : j < lv.length) (x : Int) :
    Two (wr.setCell ⟨g, j, none⟩ (.int .i64 x)) base lk (lv.set j x) vk vv ∧ Below base wr (wr.setCell ⟨g, j, none⟩ (.int .i64 x)) :=
  ⟨⟨h.k.of_blocks fun g' hg' => Below.heap_setCell _ _ _ _ (fun e => h.ne g' hg' (by rw [hg]; exact congrArg some e.symm)), h.v.set hg hj x, h.ne, by simpa using h.size⟩, (Below.refl _ _).setCell (h.v.lt g hg).1 _⟩

/-- The table behind i rounds. -/
def bld (ks cs : Nat → Int) : Nat → List (Int × Int)
  | 0 => []
  | i + 1 => put (bld ks cs i) (ks i) (cs i)

theorem bld_tidy (ks cs : Nat → Int) (i : Nat) : Tidy (bld ks cs i) := by
  induction i with
  | zero => simp [bld, Tidy, keys]
  | succ i ih => exact ih.put _ _
theorem bld_length (ks cs : Nat → Int) (i : Nat) : (bld ks cs i).length ≤ i := by
  induction i with
  | zero => simp [bld]
  | succ i ih => simp only [bld]; rw [length_put]; split <;> omega

/-- What the building loop keeps. B: the heap's size when the call began; the map is block B. -/
structure St (w wr : World) (l : List (Int × Int)) (vk vv : Value) : Prop where
  map : MapOf wr w.heap.size l
  two : Two wr (w.heap.size + 1) (keys l) (vals l) vk vv
  bel : Below w.heap.size w wr

theorem Turned.below {w w' : World} {r B : Nat} (h : Turned w w' r) (hB : B ≤ r) : Below B w w' := ⟨h.os, h.tape, h.output, by rw [h.size]; exact Nat.le_refl _, fun k hk => h.block k (by omega)⟩

theorem keys_append (l : List (Int × Int)) (k v : Int) : keys (l ++ [(k, v)]) = keys l ++ [k] := by simp [keys]
theorem vals_append (l : List (Int × Int)) (k v : Int) : vals (l ++ [(k, v)]) = vals l ++ [v] := by simp [vals]
theorem keys_set {l : List (Int × Int)} {j : Nat} {k u : Int} (h : l[j]? = some (k, u)) (v : Int) : keys (l.set j (k, v)) = keys l := by
  unfold keys
  rw [List.map_set]
  apply List.ext_getElem?
  intro i
  rw [List.getElem?_set]
  by_cases e : j = i
  · subst e
    simp only [if_true, List.getElem?_map, h, List.length_map]
    rw [if_pos (List.getElem?_eq_some_iff.1 h).1]
    rfl
  · simp [e]
theorem vals_set (l : List (Int × Int)) (j : Nat) (k v : Int) : vals (l.set j (k, v)) = (vals l).set j v := by simp [vals, List.map_set]

theorem St.turned {w wr w1 : World} {l : List (Int × Int)} {vk vv : Value} {n : Nat} (hS : St w wr l vk vv) (ht : Turned (wr.drewN n) w1 w.heap.size) : Two w1 (w.heap.size + 1) (keys l) (vals l) vk vv ∧ Below w.heap.size w w1 :=
  ⟨hS.two.of_below (fun g hg _ => ht.block g (by omega)) (by have := ht.size; exact Nat.le_of_eq this.symm), hS.bel.trans (⟨ht.os, ht.tape, ht.output, Nat.le_of_eq ht.size.symm, fun k hk => ht.block k (by omega)⟩ : Below w.heap.size wr w1)⟩

theorem St.add {w w1 w3 : World} {l : List (Int × Int)} {vk' vv' : Value} {k c : Int} (hm : MapOf w1 w.heap.size (put l k c)) (hbel : Below w.heap.size w w1) (hi : idx (keys l) k = none)
    (h3 : Two w3 (w.heap.size + 1) (keys l ++ [k]) (vals l ++ [c]) vk' vv') (hb : Below (w.heap.size + 1) w1 w3) : St w w3 (put l k c) vk' vv' := by
  refine ⟨hm.of_block (hb.block _ (by omega)), ?_, hbel.trans (hb.mono (by omega))⟩
  rw [(idx_none hi c).2.1, keys_append, vals_append]
  exact h3

theorem St.upd {w w1 w3 : World} {l : List (Int × Int)} {vk vv : Value} {k c : Int} {j : Nat} (hm : MapOf w1 w.heap.size (put l k c)) (hbel : Below w.heap.size w w1) (hi : idx (keys l) k = some j)
    (h3 : Two w3 (w.heap.size + 1) (keys l) ((vals l).set j c) vk vv) (hb : Below (w.heap.size + 1) w1 w3) : St w w3 (put l k c) vk vv := by
  obtain ⟨_, ⟨u, hu, _⟩, hp, _⟩ := idx_some hi c
  refine ⟨hm.of_block (hb.block _ (by omega)), ?_, hbel.trans (hb.mono (by omega))⟩
  rw [hp, keys_set hu, vals_set]
  exact h3

#print axioms Two.appV
end Go.Proofs.Ybulkexpko.Mem
