/-
  OUR OWN. Rows of tokens (five cells each): what a store of one token, a copy and a comparison do.
-/
import Derived.WalkKit
import Derived.Deep.QuietTactic
namespace Go.Proofs.Ybulkexppk.Mem
open Go.RowKit
set_option linter.unusedVariables false
set_option linter.unusedSimpArgs false

structure Tok where
  t : ByteArray
  n : ByteArray
  p : Int
  k : Int
  q : Bool
def Tok.cs (x : Tok) : List Value := [.string x.t, .string x.n, .int .i64 x.p, .int .u8 x.k, .bool x.q]
/-- Cell j of token x. -/
def Tok.c (x : Tok) (j : Nat) : Value := x.cs.getD j undef
def zeroT : Tok := ⟨⟨#[]⟩, ⟨#[]⟩, 0, 0, false⟩
def endT : Tok := ⟨⟨#[]⟩, ⟨#[]⟩, 0, 5, false⟩

/-- Block b: N tokens' cells, cell i holding g i. -/
def TC (w : World) (b N : Nat) (g : Nat → Value) : Prop := ∃ c, w.heap[b]? = some (.cells c 26 (0, 0)) ∧ c.size = 5 * N ∧ ∀ i, i < 5 * N → c[i]? = some (g i)
/-- The cells of a row of tokens. -/
def gOf (f : Nat → Tok) (i : Nat) : Value := (f (i / 5)).c (i % 5)

theorem TC.lt {w : World} {b N : Nat} {g : Nat → Value} (h : TC w b N g) : b < w.heap.size := by
  obtain ⟨c, hc, _⟩ := h
  exact (Array.getElem?_eq_some_iff.1 hc).1
theorem TC.cell {w : World} {b N : Nat} {g : Nat → Value} (h : TC w b N g) {i : Nat} (hi : i < 5 * N) : w.cell? ⟨b, i, none⟩ = some (g i) := by
  obtain ⟨c, hc, _, hh⟩ := h
  simp [World.cell?, hc, hh i hi]
theorem TC.frozen {w : World} {b N : Nat} {g : Nat → Value} (h : TC w b N g) (o : Nat) : w.frozen? ⟨b, o, none⟩ = false := by
  obtain ⟨c, hc, _⟩ := h
  simp [World.frozen?, hc]
theorem TC.of_block {w w' : World} {b N : Nat} {g : Nat → Value} (h : TC w b N g) (hb : w'.heap[b]? = w.heap[b]?) : TC w' b N g := by
  obtain ⟨c, hc, r⟩ := h
  exact ⟨c, by rw [hb]; exact hc, r⟩
theorem TC.congr {w : World} {b N : Nat} {g g' : Nat → Value} (h : TC w b N g) (hg : ∀ i, i < 5 * N → g' i = g i) : TC w b N g' := by
  obtain ⟨c, hc, hs, hh⟩ := h
  exact ⟨c, hc, hs, fun i hi => by rw [hh i hi, hg i hi]⟩
theorem TC.set {w : World} {b N : Nat} {g : Nat → Value} (h : TC w b N g) {k : Nat} (hk : k < 5 * N) (x : Value) : TC (w.setCell ⟨b, k, none⟩ x) b N (fun i => if i = k then x else g i) := by
  obtain ⟨c, hc, hs, hh⟩ := h
  refine ⟨c.setIfInBounds k x, ?_, by simpa using hs, fun i hi => ?_⟩
  · simp only [World.setCell, Array.getElem?_modify, hc]
    simp
  · rw [Array.getElem?_setIfInBounds]
    split
    · rename_i e; subst e; rw [if_pos (by omega)]; simp
    · rename_i e
      have : i ≠ k := fun e' => e e'.symm
      simp [this, hh i hi]

/-- One token is stored. -/
def put5 (w : World) (b k : Nat) (x : Tok) : World :=
  ((((w.setCell ⟨b, k * 5, none⟩ (.string x.t)).setCell ⟨b, k * 5 + 1, none⟩ (.string x.n)).setCell ⟨b, k * 5 + 2, none⟩ (.int .i64 x.p)).setCell ⟨b, k * 5 + 3, none⟩ (.int .u8 x.k)).setCell ⟨b, k * 5 + 4, none⟩ (.bool x.q)

theorem TC.put {w : World} {b N : Nat} {f : Nat → Tok} (h : TC w b N (gOf f)) {k : Nat} (hk : k < N) (x : Tok) : TC (put5 w b k x) b N (gOf fun i => if i = k then x else f i) := by
  have h5 := ((((h.set (k := k * 5) (by omega) (.string x.t)).set (k := k * 5 + 1) (by omega) (.string x.n)).set (k := k * 5 + 2) (by omega) (.int .i64 x.p)).set (k := k * 5 + 3) (by omega) (.int .u8 x.k)).set (k := k * 5 + 4) (by omega) (.bool x.q)
  refine h5.congr fun i hi => ?_
  unfold gOf
  by_cases e : i / 5 = k
  · have hm := Nat.mod_lt i (show 0 < 5 by omega)
    have hi' : i = k * 5 + i % 5 := by omega
    simp only [e, if_true]
    generalize hr : i % 5 = r at *
    match r, hm with
    | 0, _ => simp [Tok.c, Tok.cs, show i = k * 5 by omega]
    | 1, _ => simp [Tok.c, Tok.cs, show i = k * 5 + 1 by omega]
    | 2, _ => simp [Tok.c, Tok.cs, show i = k * 5 + 2 by omega]
    | 3, _ => simp [Tok.c, Tok.cs, show i = k * 5 + 3 by omega]
    | 4, _ => simp [Tok.c, Tok.cs, show i = k * 5 + 4 by omega]
  · simp only [e, if_false]
    rw [if_neg (by omega), if_neg (by omega), if_neg (by omega), if_neg (by omega), if_neg (by omega)]

theorem put5_other (w : World) (b k : Nat) (x : Tok) (j : Nat) (h : j ≠ b) : (put5 w b k x).heap[j]? = w.heap[j]? := by
  unfold put5
  rw [Below.heap_setCell _ _ _ _ h, Below.heap_setCell _ _ _ _ h, Below.heap_setCell _ _ _ _ h, Below.heap_setCell _ _ _ _ h, Below.heap_setCell _ _ _ _ h]
theorem put5_below {B : Nat} {a w : World} (h : Below B a w) {b : Nat} (hb : B ≤ b) (k : Nat) (x : Tok) : Below B a (put5 w b k x) :=
  ((((h.setCell (p := ⟨b, k * 5, none⟩) hb _).setCell (p := ⟨b, k * 5 + 1, none⟩) hb _).setCell (p := ⟨b, k * 5 + 2, none⟩) hb _).setCell (p := ⟨b, k * 5 + 3, none⟩) hb _).setCell (p := ⟨b, k * 5 + 4, none⟩) hb _
theorem put5_size (w : World) (b k : Nat) (x : Tok) : (put5 w b k x).heap.size = w.heap.size := by simp [put5]

/-- The five cells of token k. -/
theorem TC.tok {w : World} {b N : Nat} {f : Nat → Tok} (h : TC w b N (gOf f)) {k : Nat} (hk : k < N) :
    w.cell? ⟨b, k * 5, none⟩ = some (.string (f k).t) ∧ w.cell? ⟨b, k * 5 + 1, none⟩ = some (.string (f k).n) ∧ w.cell? ⟨b, k * 5 + 2, none⟩ = some (.int .i64 (f k).p) ∧ w.cell? ⟨b, k * 5 + 3, none⟩ = some (.int .u8 (f k).k) ∧ w.cell? ⟨b, k * 5 + 4, none⟩ = some (.bool (f k).q) := by
  refine ⟨?_, ?_, ?_, ?_, ?_⟩
  · rw [h.cell (by omega)]; simp [gOf, Tok.c, Tok.cs, show k * 5 / 5 = k by omega, show k * 5 % 5 = 0 by omega]
  · rw [h.cell (by omega)]; simp [gOf, Tok.c, Tok.cs, show (k * 5 + 1) / 5 = k by omega, show (k * 5 + 1) % 5 = 1 by omega]
  · rw [h.cell (by omega)]; simp [gOf, Tok.c, Tok.cs, show (k * 5 + 2) / 5 = k by omega, show (k * 5 + 2) % 5 = 2 by omega]
  · rw [h.cell (by omega)]; simp [gOf, Tok.c, Tok.cs, show (k * 5 + 3) / 5 = k by omega, show (k * 5 + 3) % 5 = 3 by omega]
  · rw [h.cell (by omega)]; simp [gOf, Tok.c, Tok.cs, show (k * 5 + 4) / 5 = k by omega, show (k * 5 + 4) % 5 = 4 by omega]

theorem TC.made (w : World) (n : Nat) : TC (w.alloc (.cells (madeCells zeroT.cs.toArray (n * 5)) 26)) w.heap.size n (gOf fun _ => zeroT) := by
  refine ⟨_, heap_alloc_new w _, by rw [size_madeCells]; omega, fun i hi => ?_⟩
  unfold madeCells
  rw [Array.getElem?_map, Array.getElem?_range, if_pos (by omega)]
  simp only [Option.map_some, List.size_toArray]
  rw [show zeroT.cs.length = 5 from rfl]
  have hm := Nat.mod_lt i (show 0 < 5 by omega)
  unfold gOf
  generalize i % 5 = r at *
  match r, hm with
  | 0, _ | 1, _ | 2, _ | 3, _ | 4, _ => rfl

/-- 'make([]T, n)': the world behind it is named. -/
theorem wpList_make_w {P : Program} (w : World) {ops : Array Oper} {rest : List Oper} {o : Oper} {a : Act} {Q : Exit → Act → World → Prop}
    (hg : o.guard = none) (l c : Operand) (t : TypeId) (hop : o.op = Op.makeSlice t l c)
    (e : TypeId) (i : TypeInfo) (z : Value) (size : Nat) (h1 : P.underlying t = some (.slice e)) (h2 : P.info? e = some i) (h3 : i.zero = some z) (h4 : i.size = size)
    (kl kc : IntKind) (L C : Int) (n : Nat) (hl : a.eval l = .int kl L) (hc : a.eval c = .int kc C) (hL : L = (n : Int)) (hC : C = (n : Int)) (b2 : i.bytes * n ≤ 281474976710656) (b3 : n ≤ 1000000000)
    (hK : ∀ w', Hid (w' = w.alloc (.cells (madeCells z.cells (n * size)) e)) → wpList P ops Q rest (a.put o.dst (.slice (some ⟨w.heap.size, 0, none⟩) n n)) w') :
    wpList P ops Q (o :: rest) a w := by
  refine wpList_plain hg fun K hK' => ?_
  subst hL
  subst hC
  have hb : (i.bytes : Int) * (n : Int) ≤ 281474976710656 := by
    have h : ((i.bytes * n : Nat) : Int) ≤ 281474976710656 := by omega
    rwa [Int.natCast_mul] at h
  have hrun := run_make (P := P) w t e i z h1 h2 h3 kl kc n n (by omega) (Int.le_refl _) hb (by omega)
  simp only [Int.toNat_natCast, h4] at hrun
  unfold Oper.wp
  simp [execOp, hop, hl, hc, hrun, Result.andThen]
  exact hK' _ _ (hK _ rfl)

theorem gOf_one (f : Nat → Tok) (i : Nat) : (gOf f i).oneCell' = true := by
  unfold gOf
  have hm := Nat.mod_lt i (show 0 < 5 by omega)
  generalize i % 5 = r at *
  match r, hm with
  | 0, _ | 1, _ | 2, _ | 3, _ | 4, _ => rfl

/-- 'copy(dst, src)', two rows of one length. -/
theorem run_copyT {P : Program} {w : World} {d s N : Nat} {f f0 : Nat → Tok} (t ty : TypeId) (i : TypeInfo) (ht : P.underlying t = some (.slice 26)) (hi : P.info? 26 = some i) (hs5 : i.size = 5)
    (hd : TC w d N (gOf f0)) (hs : TC w s N (gOf f)) :
    ∃ w', (Builtin.copy_ #[t, t] ty #[.slice (some ⟨d, 0, none⟩) N N, .slice (some ⟨s, 0, none⟩) N N]).run P w = .ok (.int .i64 N) w' ∧ TC w' d N (gOf f) ∧ w'.heap.size = w.heap.size ∧ (∀ j, j ≠ d → w'.heap[j]? = w.heap[j]?) ∧ w'.os = w.os ∧ w'.tape = w.tape ∧ w'.output = w.output := by
  obtain ⟨cd, hcd, hsd, hhd⟩ := hd
  obtain ⟨csrc, hcs, hss, hhs⟩ := hs
  have hfc : (Builtin.firstCells i.size N (.slice (some ⟨s, 0, none⟩) N N)).run P w = .ok csrc.toList.toArray w := by
    refine run_firstCells_some w i.size N ⟨s, 0, none⟩ N N csrc.toList (by simp [hss, hs5]; omega) ?_
    intro j u hu
    rw [Addr.add_lit, Nat.zero_add]
    simp only [World.cell?, hcs]
    simpa using hu
  have h1 : ∀ u ∈ csrc.toList, u.oneCell' = true := by
    intro u hu
    obtain ⟨j, hj⟩ := List.getElem?_of_mem hu
    have hlt := (List.getElem?_eq_some_iff.1 hj).1
    have := hhs j (by simpa [hss] using hlt)
    rw [← Array.getElem?_toList, hj] at this
    rw [Option.some.inj this]
    exact gOf_one f j
  have hst := run_storeCells_at P d 0 26 csrc.toList 0 cd w hcd (by simp [hss, hsd]) h1
  have hall : (List.take 0 cd.toList ++ csrc.toList ++ List.drop csrc.toList.length cd.toList).toArray = csrc := by
    rw [List.drop_of_length_le (by simp [hss, hsd])]
    simp
  simp only [Nat.add_zero, Nat.zero_add] at hst
  rw [hall] at hst
  refine ⟨_, ?_, ⟨csrc, setRow_heap w d cd csrc 26 (0, 0) hcd, hss, hhs⟩, by simp [World.setRow], fun j hj => setRow_other w d j _ hj, rfl, rfl, rfl⟩
  have hmin : Nat.min N N = N := Nat.min_self N
  simp [Builtin.copy_, run_underlying ht, Builtin.lenOf, sizeOf, typeInfo, hi, hmin, hfc, hst, goInt]

theorem TC.box (w : World) (x : Tok) : TC (w.alloc (.cells #[.string x.t, .string x.n, .int .i64 x.p, .int .u8 x.k, .bool x.q] 26)) w.heap.size 1 (gOf fun _ => x) := by
  refine ⟨_, heap_alloc_new w _, rfl, fun i hi => ?_⟩
  match i, hi with
  | 0, _ | 1, _ | 2, _ | 3, _ | 4, _ => rfl

theorem TC.alloc {w : World} {b N : Nat} {g : Nat → Value} (h : TC w b N g) (o : Obj) : TC (w.alloc o) b N g := h.of_block (Below.heap_alloc w o b h.lt)
theorem TC.below {w w' : World} {B b N : Nat} {g : Nat → Value} (h : TC w b N g) (hb : Below B w w') (hlt : b < B) : TC w' b N g := h.of_block (hb.block b hlt)
theorem TC.step {w : World} {b N : Nat} {f : Nat → Tok} {t : Nat} (h : TC w b N (gOf fun j => if j < t then f j else zeroT)) (ht : t < N) : TC (put5 w b t (f t)) b N (gOf fun j => if j < t + 1 then f j else zeroT) := by
  refine (h.put ht (f t)).congr fun i hi => ?_
  unfold gOf
  by_cases e : i / 5 = t
  · simp [e]
  · by_cases e2 : i / 5 < t
    · simp [e, e2, show i / 5 < t + 1 by omega]
    · simp [e, e2, show ¬ i / 5 < t + 1 by omega]

#print axioms run_copyT
end Go.Proofs.Ybulkexppk.Mem
