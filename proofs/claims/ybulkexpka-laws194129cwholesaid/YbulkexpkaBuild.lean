/-
  OUR OWN. Memory facts for the law's own loops: a row of ints that the call made; 'make' with the world behind it named; what the building loop keeps.
-/
import Derived.Test.YbulkexpkaVInv
import Derived.Deep.QuietTactic
namespace Go.Proofs.Ybulkexpka.Mem
open Go.RowKit
set_option linter.unusedVariables false
set_option linter.unusedSimpArgs false

/-- A block of N ints. -/
def IBlk (w : World) (b N : Nat) (f : Nat → Int) : Prop := ∃ c, w.heap[b]? = some (.cells c 3 (0, 0)) ∧ c.size = N ∧ ∀ k, k < N → c[k]? = some (.int .i64 (f k))

theorem IBlk.lt {w : World} {b N : Nat} {f : Nat → Int} (h : IBlk w b N f) : b < w.heap.size := by
  obtain ⟨c, hc, _⟩ := h
  exact (Array.getElem?_eq_some_iff.1 hc).1
theorem IBlk.cell {w : World} {b N : Nat} {f : Nat → Int} (h : IBlk w b N f) {k : Nat} (hk : k < N) : w.cell? ⟨b, k, none⟩ = some (.int .i64 (f k)) := by
  obtain ⟨c, hc, _, hh⟩ := h
  simp [World.cell?, hc, hh k hk]
theorem IBlk.frozen {w : World} {b N : Nat} {f : Nat → Int} (h : IBlk w b N f) (o : Nat) : w.frozen? ⟨b, o, none⟩ = false := by
  obtain ⟨c, hc, _⟩ := h
  simp [World.frozen?, hc]
theorem IBlk.of_block {w w' : World} {b N : Nat} {f : Nat → Int} (h : IBlk w b N f) (hb : w'.heap[b]? = w.heap[b]?) : IBlk w' b N f := by
  obtain ⟨c, hc, r⟩ := h
  exact ⟨c, by rw [hb]; exact hc, r⟩
theorem IBlk.congr {w : World} {b N : Nat} {f f' : Nat → Int} (h : IBlk w b N f) (hf : ∀ k, k < N → f' k = f k) : IBlk w b N f' := by
  obtain ⟨c, hc, hs, hh⟩ := h
  exact ⟨c, hc, hs, fun k hk => by rw [hh k hk, hf k hk]⟩
theorem IBlk.set {w : World} {b N : Nat} {f : Nat → Int} (h : IBlk w b N f) {k : Nat} (hk : k < N) (x : Int) : IBlk (w.setCell ⟨b, k, none⟩ (.int .i64 x)) b N (fun i => if i = k then x else f i) := by
  obtain ⟨c, hc, hs, hh⟩ := h
  refine ⟨_, heap_setCell_same _ hc, by simpa using hs, fun i hi => ?_⟩
  rw [Array.getElem?_setIfInBounds]
  split
  · rename_i e; subst e; rw [if_pos (by omega)]; simp
  · rename_i e
    have : i ≠ k := fun e' => e e'.symm
    simp [this, hh i hi]
theorem IBlk.setOther {w : World} {b N : Nat} {f : Nat → Int} (h : IBlk w b N f) {a : Addr} (ha : a.block ≠ b) (v : Value) : IBlk (w.setCell a v) b N f :=
  h.of_block (Below.heap_setCell _ _ _ _ (fun e => ha e.symm))
theorem IBlk.alloc {w : World} {b N : Nat} {f : Nat → Int} (h : IBlk w b N f) (o : Obj) : IBlk (w.alloc o) b N f := h.of_block (Below.heap_alloc w o b h.lt)
theorem IBlk.made (w : World) (n : Nat) : IBlk (w.alloc (.cells (madeCells #[.int .i64 0] n) 3)) w.heap.size n (fun _ => 0) := by
  refine ⟨_, heap_alloc_new w _, by rw [size_madeCells], fun k hk => ?_⟩
  unfold madeCells
  rw [Array.getElem?_map, Array.getElem?_range, if_pos (by omega)]
  simp [Nat.mod_one]

theorem VRow.setOther {w : World} {b n : Nat} {f : Nat → Int} {g : Nat → Value} (h : VRow w b n f g) {a : Addr} (ha : a.block ≠ b) (v : Value) : VRow (w.setCell a v) b n f g :=
  h.of_block (Below.heap_setCell _ _ _ _ (fun e => ha e.symm))
theorem Chain.setOther {w : World} {D : Nat} {q M : Nat → Nat} {F : Nat → Nat → Int} {E : Nat → Value} {bs : Nat → Nat} (h : Chain w D q M F E bs) {a : Addr} (ha : ∀ k, k ≤ D → bs k ≠ a.block) (v : Value) : Chain (w.setCell a v) D q M F E bs :=
  h.of_blocks fun k hk => Below.heap_setCell _ _ _ _ (ha k hk)

/-- 'make([]T, n)': the world behind it is named. -/
theorem wpList_make_w {P : Program} (w : World) {ops : Array Oper} {rest : List Oper} {o : Oper} {a : Act} {Q : Exit → Act → World → Prop}
    (hg : o.guard = none) (l c : Operand) (t : TypeId) (hop : o.op = Op.makeSlice t l c)
    (e : TypeId) (i : TypeInfo) (z : Value) (size : Nat) (h1 : P.underlying t = some (.slice e)) (h2 : P.info? e = some i) (h3 : i.zero = some z) (h4 : i.size = size)
    (kl kc : IntKind) (L C : Int) (n : Nat) (hl : a.eval l = .int kl L) (hc : a.eval c = .int kc C) (hL : L = (n : Int)) (hC : C = (n : Int)) (b2 : i.bytes * n ≤ 281474976710656) (b3 : n ≤ 1000000000)
    (hK : ∀ w', Hid (w' = w.alloc (.cells (madeCells z.cells (n * size)) e)) → wpList P ops Q rest (a.put o.dst (.slice (some ⟨w.heap.size, 0, none⟩) n n)) w') :
    wpList P ops Q (o :: rest) a w := by
  refine wpList_plain hg fun K hK' => ?_
  subst hL
  subst hC
  have hb : (i.bytes : Int) * (n : Int) ≤ 281474976710656 := by
    have h : ((i.bytes * n : Nat) : Int) ≤ 281474976710656 := by omega
    rwa [Int.natCast_mul] at h
  have hrun := run_make (P := P) w t e i z h1 h2 h3 kl kc n n (by omega) (Int.le_refl _) hb (by omega)
  simp only [Int.toNat_natCast, h4] at hrun
  unfold Oper.wp
  simp [execOp, hop, hl, hc, hrun, Result.andThen]
  exact hK' _ _ (hK _ rfl)

/-- The Ints of the building: the row's own, then each level's tags. -/
def tagI (k e : Nat) : Int := 1000 * ((k : Int) + 1) + e + 1
def FB : Nat → Nat → Int := fun k e => match k with | 0 => (e : Int) + 1 | k + 1 => tagI k e
def MB (rl : Nat) (L : Nat → Nat) : Nat → Nat := fun k => match k with | 0 => rl | k + 1 => L k
def qB (idx : Nat) (p : Nat → Nat) : Nat → Nat := fun k => match k with | 0 => idx | k + 1 => p k

/-- t levels are built below the row (B: the heap's size when the call began; the row is block B, the path B + 1, the lengths B + 2). -/
def BInv (w : World) (rl idx N : Nat) (p L : Nat → Nat) (t : Nat) (bt : Nat) (wr : World) : Prop :=
  ∃ (E : Nat → Value) (bs : Nat → Nat), Chain wr t (qB idx p) (MB rl L) FB E bs ∧ bs 0 = w.heap.size ∧ bs t = bt ∧ (∀ k, k < t → qB idx p k < MB rl L k) ∧
    (∀ k, k < t → E k = .slice (some ⟨bs (k + 1), 0, none⟩) (MB rl L (k + 1)) (MB rl L (k + 1))) ∧ (∀ k, k ≤ t → bs k = w.heap.size ∨ w.heap.size + 3 ≤ bs k) ∧
    IBlk wr (w.heap.size + 1) N (fun k => (p k : Int)) ∧ IBlk wr (w.heap.size + 2) N (fun k => if k < t then (L k : Int) else 0) ∧ Below w.heap.size w wr

/-- .. and e tags of the next level are laid; its row is block b. -/
def TInv (w : World) (rl idx N : Nat) (p L : Nat → Nat) (t : Nat) (bt b : Nat) (e : Nat) (wr : World) : Prop :=
  ∃ (E : Nat → Value) (bs : Nat → Nat), Chain wr (t + 1) (qB idx p) (MB rl L) (fun k j => if k = t + 1 then (if j < e then tagI t j else 0) else FB k j) E bs ∧ bs 0 = w.heap.size ∧ bs t = bt ∧ bs (t + 1) = b ∧ (∀ k, k < t + 1 → qB idx p k < MB rl L k) ∧
    (∀ k, k < t + 1 → E k = .slice (some ⟨bs (k + 1), 0, none⟩) (MB rl L (k + 1)) (MB rl L (k + 1))) ∧ (∀ k, k ≤ t + 1 → bs k = w.heap.size ∨ w.heap.size + 3 ≤ bs k) ∧
    IBlk wr (w.heap.size + 1) N (fun k => (p k : Int)) ∧ IBlk wr (w.heap.size + 2) N (fun k => if k < t then (L k : Int) else 0) ∧ Below w.heap.size w wr

/-- The row is made and filled, the path and the lengths are laid: nothing is built yet. -/
theorem BInv.start {w wr : World} {rl idx N : Nat} {p L : Nat → Nat} (hrow : VRow wr w.heap.size rl (fun i => (i : Int) + 1) (fun _ => nilS))
    (hP : IBlk wr (w.heap.size + 1) N (fun k => (p k : Int))) (hO : IBlk wr (w.heap.size + 2) N (fun _ => 0)) (hb : Below w.heap.size w wr) : BInv w rl idx N p L 0 w.heap.size wr :=
  ⟨fun _ => nilS, fun _ => w.heap.size, ⟨fun k hk => by
      obtain rfl : k = 0 := by omega
      exact hrow.congr (fun _ _ => rfl) (fun _ _ => by simp), fun k hk => by omega, fun _ _ => rfl, fun i j hi hj _ => by omega⟩, rfl, rfl, fun k hk => by omega, fun k hk => by omega, fun k hk => .inl rfl, hP, hO.congr (fun k _ => by simp), hb⟩

theorem BInv.elems {w wr : World} {rl idx N : Nat} {p L : Nat → Nat} {t bt : Nat} (h : BInv w rl idx N p L t bt wr) (hq : qB idx p t < MB rl L t) :
    wr.cell? ⟨bt, qB idx p t * 12 + 10, none⟩ = some (.slice none 0 0) ∧ wr.frozen? ⟨bt, qB idx p t * 12 + 10, none⟩ = false ∧ bt < wr.heap.size := by
  obtain ⟨E, bs, hch, h0, hbt, r⟩ := h
  subst hbt
  have hl := hch.lvl t (Nat.le_refl _)
  refine ⟨?_, hl.frozen _, hl.lt⟩
  rw [hl.elems hq]
  simp [hch.en t (Nat.le_refl _), nilS]

/-- A new level: made, and its header stored. -/
theorem BInv.make {w wr : World} {rl idx N : Nat} {p L : Nat → Nat} {t bt : Nat} (h : BInv w rl idx N p L t bt wr) (hq : qB idx p t < MB rl L t) {w1 : World} (hw1 : w1 = wr.alloc (.cells (madeCells zc.toArray (L t * 12)) 37)) :
    TInv w rl idx N p L t bt wr.heap.size 0 (w1.setCell ⟨bt, qB idx p t * 12 + 10, none⟩ (.slice (some ⟨wr.heap.size, 0, none⟩) (L t) (L t))) := by
  obtain ⟨E, bs, hch, h0, hbt, hqs, hE, hbs, hP, hO, hbel⟩ := h
  subst hbt
  have hsz : w.heap.size + 3 ≤ wr.heap.size := by have := hO.lt; omega
  have hold : ∀ k, k < wr.heap.size → w1.heap[k]? = wr.heap[k]? := fun k hk => by rw [hw1]; exact Below.heap_alloc wr _ k hk
  have hrow : VRow w1 wr.heap.size (L t) (fun _ => 0) (fun _ => nilS) := by rw [hw1]; exact VRow.made wr (L t)
  have hc := hch.put (t := t) (Nat.le_refl _) (by omega) hq (Nat.le_refl _) hold (Nat.le_refl (L t)) hrow
  have hne : ∀ b, b = w.heap.size + 1 ∨ b = w.heap.size + 2 → bs t ≠ b := fun b hb e => by
    rcases hbs t (Nat.le_refl _) with h | h <;> omega
  have hM : (fun k => if k = t + 1 then L t else MB rl L k) = MB rl L := by
    funext k
    by_cases e : k = t + 1
    · subst e; simp [MB]
    · simp [e]
  rw [hM] at hc
  refine ⟨_, _, hc.congrF (fun k hk e he => ?_), by simpa using h0, by simp, by simp, fun k hk => ?_, fun k hk => ?_, fun k hk => ?_, ?_, ?_, ?_⟩
  · by_cases e1 : k = t + 1 <;> simp [e1]
  · by_cases e1 : k = t
    · subst e1; exact hq
    · exact hqs k (by omega)
  · by_cases e1 : k = t
    · subst e1; simp [MB]
    · have e2 : k ≠ t + 1 := by omega
      have e3 : k + 1 ≠ t + 1 := by omega
      simp [e1, e2, hE k (by omega)]
  · by_cases e1 : k = t + 1
    · simp only [e1, if_true]; exact .inr hsz
    · simp only [e1, if_false]; exact hbs k (by omega)
  · exact (hP.of_block (hold _ hP.lt)).setOther (hne _ (.inl rfl)) _
  · exact (hO.of_block (hold _ hO.lt)).setOther (hne _ (.inr rfl)) _
  · exact (hw1 ▸ hbel.alloc (by omega) _ : Below w.heap.size w w1).setCell (by
      rcases hbs t (Nat.le_refl _) with h | h
      · exact Nat.le_of_eq h.symm
      · show w.heap.size ≤ bs t; omega) _

theorem TInv.look {w wr : World} {rl idx N : Nat} {p L : Nat → Nat} {t bt b e : Nat} (h : TInv w rl idx N p L t bt b e wr) :
    wr.cell? ⟨bt, qB idx p t * 12 + 10, none⟩ = some (.slice (some ⟨b, 0, none⟩) (L t) (L t)) ∧ (e < L t → wr.cell? ⟨b, e * 12 + 2, none⟩ = some (.int .i64 0)) ∧ (∀ o, wr.frozen? ⟨b, o, none⟩ = false) ∧ b < wr.heap.size ∧
      (∀ k, k < N → wr.cell? ⟨w.heap.size + 1, k, none⟩ = some (.int .i64 (p k))) ∧ (∀ k, k < N → wr.cell? ⟨w.heap.size + 2, k, none⟩ = some (.int .i64 (if k < t then (L k : Int) else 0))) ∧ (∀ o, wr.frozen? ⟨w.heap.size + 2, o, none⟩ = false) := by
  obtain ⟨E, bs, hch, h0, hbt, hb, hqs, hE, hbs, hP, hO, hbel⟩ := h
  subst hbt hb
  have hl := hch.lvl t (by omega)
  have hl1 := hch.lvl (t + 1) (by omega)
  refine ⟨?_, fun he => ?_, hl1.frozen, hl1.lt, fun k hk => hP.cell hk, fun k hk => hO.cell hk, hO.frozen⟩
  · rw [hl.elems (hqs t (by omega))]
    simp [hE t (by omega), MB]
  · rw [hl1.int (i := e) he]
    simp

theorem TInv.apart {w wr : World} {rl idx N : Nat} {p L : Nat → Nat} {t bt b e : Nat} (h : TInv w rl idx N p L t bt b e wr) : bt ≠ w.heap.size + 2 ∧ b ≠ w.heap.size + 2 ∧ bt ≠ b := by
  obtain ⟨E, bs, hch, h0, hbt, hb, hqs, hE, hbs, hP, hO, hbel⟩ := h
  subst hbt hb
  refine ⟨fun e => ?_, fun e => ?_, fun e => ?_⟩
  · rcases hbs t (by omega) with h | h <;> omega
  · rcases hbs (t + 1) (by omega) with h | h <;> omega
  · have := hch.inj t (t + 1) (by omega) (by omega) e; omega

theorem TInv.set {w wr : World} {rl idx N : Nat} {p L : Nat → Nat} {t bt b e : Nat} (h : TInv w rl idx N p L t bt b e wr) (he : e < L t) :
    TInv w rl idx N p L t bt b (e + 1) (wr.setCell ⟨b, e * 12 + 2, none⟩ (.int .i64 (tagI t e))) := by
  obtain ⟨E, bs, hch, h0, hbt, hb, hqs, hE, hbs, hP, hO, hbel⟩ := h
  subst hb
  have hne : ∀ b, b = w.heap.size + 1 ∨ b = w.heap.size + 2 → bs (t + 1) ≠ b := fun b hb e => by
    rcases hbs (t + 1) (Nat.le_refl _) with h | h <;> omega
  refine ⟨E, bs, (hch.setInt (t := t + 1) (i := e) (Nat.le_refl _) he (tagI t e)).congrF (fun k hk j hj => ?_), h0, hbt, rfl, hqs, hE, hbs, hP.setOther (hne _ (.inl rfl)) _, hO.setOther (hne _ (.inr rfl)) _, hbel.setCell ?_ _⟩
  · by_cases e1 : k = t + 1
    · subst e1
      by_cases e2 : j = e
      · subst e2; simp
      · by_cases e3 : j < e
        · simp [e2, e3, show j < e + 1 by omega]
        · simp [e2, e3, show ¬ j < e + 1 by omega]
    · simp [e1]
  · rcases hbs (t + 1) (Nat.le_refl _) with h | h
    · exact Nat.le_of_eq h.symm
    · show w.heap.size ≤ bs (t + 1); omega

/-- The level's tags are laid, its length is noted: one level more. -/
theorem TInv.done {w wr : World} {rl idx N : Nat} {p L : Nat → Nat} {t bt b : Nat} (h : TInv w rl idx N p L t bt b (L t) wr) (ht : t < N) :
    BInv w rl idx N p L (t + 1) b (wr.setCell ⟨w.heap.size + 2, t, none⟩ (.int .i64 (L t))) := by
  obtain ⟨E, bs, hch, h0, hbt, hb, hqs, hE, hbs, hP, hO, hbel⟩ := h
  refine ⟨E, bs, (hch.congrF (fun k hk j hj => ?_)).setOther (fun k hk => ?_) _, h0, hb, hqs, hE, hbs, hP.setOther (by simp) _, (hO.set ht _).congr (fun k hk => ?_), hbel.setCell (by simp) _⟩
  · by_cases e1 : k = t + 1
    · subst e1
      have : j < L t := hj
      simp [this, FB]
    · simp [e1]
  · rcases hbs k hk with h | h
    · simp; omega
    · simp; omega
  · by_cases e1 : k = t
    · subst e1; simp
    · by_cases e2 : k < t
      · simp [e1, e2, show k < t + 1 by omega]
      · simp [e1, e2, show ¬ k < t + 1 by omega]

theorem IBlk.drewN {w : World} {b N : Nat} {f : Nat → Int} (h : IBlk w b N f) (n : Nat) : IBlk (w.drewN n) b N f := h
theorem Chain.drewN {w : World} {D : Nat} {q M : Nat → Nat} {F : Nat → Nat → Int} {E : Nat → Value} {bs : Nat → Nat} (h : Chain w D q M F E bs) (n : Nat) : Chain (w.drewN n) D q M F E bs :=
  ⟨fun k hk => (h.lvl k hk), h.el, h.en, h.inj⟩
theorem below_dr {B : Nat} {w wr : World} (h : Below B w wr) (n : Nat) : Below B w (wr.drewN n) := ⟨h.os, h.tape, h.output, h.size, h.block⟩
theorem TInv.drewN {w wr : World} {rl idx N : Nat} {p L : Nat → Nat} {t bt b e : Nat} (h : TInv w rl idx N p L t bt b e wr) (n : Nat) : TInv w rl idx N p L t bt b e (wr.drewN n) := by
  obtain ⟨E, bs, hch, h0, hbt, hb, hqs, hE, hbs, hP, hO, hbel⟩ := h
  exact ⟨E, bs, hch.drewN n, h0, hbt, hb, hqs, hE, hbs, hP.drewN n, hO.drewN n, below_dr hbel n⟩
theorem TInv.drew {w wr : World} {rl idx N : Nat} {p L : Nat → Nat} {t bt b e : Nat} (h : TInv w rl idx N p L t bt b e wr) : TInv w rl idx N p L t bt b e wr.drew := h.drewN 1
theorem BInv.drewN {w wr : World} {rl idx N : Nat} {p L : Nat → Nat} {t bt : Nat} (h : BInv w rl idx N p L t bt wr) (n : Nat) : BInv w rl idx N p L t bt (wr.drewN n) := by
  obtain ⟨E, bs, hch, h0, hbt, hqs, hE, hbs, hP, hO, hbel⟩ := h
  exact ⟨E, bs, hch.drewN n, h0, hbt, hqs, hE, hbs, hP.drewN n, hO.drewN n, below_dr hbel n⟩

/-- What the round reads behind the tags. -/
theorem BInv.prev {w wr : World} {rl idx N : Nat} {p L : Nat → Nat} {t b : Nat} (h : BInv w rl idx N p L (t + 1) b wr) :
    ∃ bt, wr.cell? ⟨bt, qB idx p t * 12 + 10, none⟩ = some (.slice (some ⟨b, 0, none⟩) (L t) (L t)) := by
  obtain ⟨E, bs, hch, h0, hb, hqs, hE, hbs, hP, hO, hbel⟩ := h
  subst hb
  refine ⟨bs t, ?_⟩
  rw [(hch.lvl t (by omega)).elems (hqs t (by omega))]
  simp [hE t (by omega), MB]
theorem BInv.path {w wr : World} {rl idx N : Nat} {p L : Nat → Nat} {t b : Nat} (h : BInv w rl idx N p L t b wr) {k : Nat} (hk : k < N) : wr.cell? ⟨w.heap.size + 1, k, none⟩ = some (.int .i64 (p k)) := by
  obtain ⟨E, bs, hch, h0, hb, hqs, hE, hbs, hP, hO, hbel⟩ := h
  exact hP.cell hk
theorem BInv.below {w wr : World} {rl idx N : Nat} {p L : Nat → Nat} {t b : Nat} (h : BInv w rl idx N p L t b wr) : Below w.heap.size w wr := by
  obtain ⟨E, bs, hch, h0, hb, hqs, hE, hbs, hP, hO, hbel⟩ := h
  exact hbel

theorem BInv.size {w wr : World} {rl idx N : Nat} {p L : Nat → Nat} {t b : Nat} (h : BInv w rl idx N p L t b wr) : w.heap.size + 3 ≤ wr.heap.size := by
  obtain ⟨E, bs, hch, h0, hb, hqs, hE, hbs, hP, hO, hbel⟩ := h
  have := hO.lt
  omega
theorem BInv.lens {w wr : World} {rl idx N : Nat} {p L : Nat → Nat} {t b : Nat} (h : BInv w rl idx N p L t b wr) : IBlk wr (w.heap.size + 2) N (fun k => if k < t then (L k : Int) else 0) := by
  obtain ⟨E, bs, hch, h0, hb, hqs, hE, hbs, hP, hO, hbel⟩ := h
  exact hO

/-- Behind the loop: what the call of 'value' wants. K levels are built. -/
def Mo (rl K : Nat) (L : Nat → Nat) : Nat → Nat := fun k => if k ≤ K then MB rl L k else 0
def Fo (rl K : Nat) (L : Nat → Nat) : Nat → Nat → Int := fun k e => if k = 0 then (e : Int) + 1 else if e < Mo rl K L k then tagI (k - 1) e else 0

theorem Fo_zero (rl K : Nat) (L : Nat → Nat) : ∀ k e, 1 ≤ k → Mo rl K L k ≤ e → Fo rl K L k e = 0 := by
  intro k e hk he
  have h1 : k ≠ 0 := by omega
  have h2 : ¬ e < Mo rl K L k := by omega
  simp [Fo, h1, h2]

/-- The building's end. -/
def XInv (w : World) (rl idx N : Nat) (p L : Nat → Nat) (K : Nat) (wr : World) : Prop := ∃ bt, K ≤ N ∧ BInv w rl idx N p L K bt wr

#print axioms TInv.done
end Go.Proofs.Ybulkexpka.Mem
