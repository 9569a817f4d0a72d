/-
  OUR OWN. The contracts of the token's maker and of '(*parser).peek'.
-/
import Derived.Test.YbulkexppkRows
import Derived.WalkKit
import Derived.BigQuiet
import Derived.Test.YbulkexppkMem
namespace Go.Proofs.Ybulkexppk.C
open Go.RowKit Mem
set_option linter.unusedVariables false

def Tk (x : Tok) : Value := .agg #[.string x.t, .string x.n, .int .i64 x.p, .int .u8 x.k, .bool x.q]

set_option maxRecDepth 100000 in
set_option maxHeartbeats 1000000 in
theorem tok_any (x : Tok) (w : World) :
    Calls Yba.prog 4 #[.agg #[.string x.t, .string x.n, .int .i64 x.p, .int .u8 x.k, .bool x.q]] w fun e w' => e = .returned (.agg #[.string x.t, .string x.n, .int .i64 x.p, .int .u8 x.k, .bool x.q]) ∧ Below w.heap.size w w' := by
  go_enter Yba.func4, Yba.ntmps4
  go_wp2
  exact bodyPost_ret (v := .agg #[.string x.t, .string x.n, .int .i64 x.p, .int .u8 x.k, .bool x.q]) (by simp [results, Yba.results4, go_sem]) rfl ⟨rfl, ((Below.refl _ _).alloc (Nat.le_refl _) _).alloc (by simp) _⟩

theorem TC.new (w : World) (n : Nat) : TC ((w.alloc (.cells #[.string ⟨#[]⟩, .string ⟨#[]⟩, .int .i64 0, .int .u8 0, .bool false] 26)).drewN n) w.heap.size 1 (gOf fun _ => zeroT) := by
  refine ⟨_, heap_alloc_new w _, rfl, fun i hi => ?_⟩
  match i, hi with
  | 0, _ | 1, _ | 2, _ | 3, _ | 4, _ => rfl
theorem below_new (w : World) (o : Obj) (n : Nat) : Below w.heap.size w ((w.alloc o).drewN n) := ⟨rfl, rfl, rfl, by show w.heap.size ≤ (w.alloc o).heap.size; simp, fun j hj => Below.heap_alloc w o j hj⟩
theorem one_congr {w : World} {b : Nat} {f g : Nat → Tok} (h : TC w b 1 (gOf f)) (e : f 0 = g 0) : TC w b 1 (gOf g) := h.congr fun i hi => by
  have : i / 5 = 0 := by omega
  simp [gOf, this, e]

set_option maxRecDepth 100000 in
theorem ret5 {fn : Func} (hf : fn.results = #[.cell 2 26]) {tmps : Array Value} {X : World} {B : Nat} {x : Tok} (ht : tmps[2]?.getD undef = .pointer (some ⟨B, 0, none⟩)) (h : TC X B 1 (gOf fun _ => x)) :
    (results fn tmps).run Yba.prog X = .ok (.agg #[.string x.t, .string x.n, .int .i64 x.p, .int .u8 x.k, .bool x.q]) X := by
  obtain ⟨h0, h1, h2, h3, h4⟩ := h.tok (k := 0) (by omega)
  simp only [Nat.zero_mul, Nat.zero_add] at h0 h1 h2 h3 h4
  simp only [results, hf]
  simp [ht, go_sem, h0, h1, h2, h3, h4]

set_option maxRecDepth 100000 in
set_option maxHeartbeats 1000000 in
theorem peek_in (w : World) (C S N i : Nat) (f : Nat → Tok) (hC0 : w.cell? ⟨C, 0, none⟩ = some (.slice (some ⟨S, 0, none⟩) N N)) (hC1 : w.cell? ⟨C, 1, none⟩ = some (.int .i64 (i : Int))) (hC : C < w.heap.size)
    (hS : TC w S N (gOf f)) (hi : i < N) :
    Calls Yba.prog 5 #[.pointer (some ⟨C, 0, none⟩)] w fun e w' => e = .returned (.agg #[.string (f i).t, .string (f i).n, .int .i64 (f i).p, .int .u8 (f i).k, .bool (f i).q]) ∧ Below w.heap.size w w' := by
  obtain ⟨h0, h1, h2, h3, h4⟩ := hS.tok hi
  have hSl := hS.lt
  have hi' : (i : Int) < (N : Int) := by omega
  go_enter Yba.func5, Yba.ntmps5
  go_wp2_with fail
  go_quiet (fail)
  go_wp2_with fail
  go_region
  all_goals
    go_wp2
    refine bodyPost_ret (v := .agg #[.string (f i).t, .string (f i).n, .int .i64 (f i).p, .int .u8 (f i).k, .bool (f i).q]) (ret5 Yba.results5 rfl (one_congr ((TC.new w (nq + 1)).put (k := 0) (by omega) (f i)) (by simp))) rfl ⟨rfl, put5_below (below_new w _ (nq + 1)) (Nat.le_refl _) 0 (f i)⟩

set_option maxRecDepth 100000 in
set_option maxHeartbeats 1000000 in
theorem peek_end (w : World) (C S N i : Nat) (hC0 : w.cell? ⟨C, 0, none⟩ = some (.slice (some ⟨S, 0, none⟩) N N)) (hC1 : w.cell? ⟨C, 1, none⟩ = some (.int .i64 (i : Int))) (hC : C < w.heap.size) (hi : N ≤ i) :
    Calls Yba.prog 5 #[.pointer (some ⟨C, 0, none⟩)] w fun e w' => e = .returned (.agg #[.string ⟨#[]⟩, .string ⟨#[]⟩, .int .i64 0, .int .u8 5, .bool false]) ∧ Below w.heap.size w w' := by
  have hi' : ¬ (i : Int) < (N : Int) := by omega
  go_enter Yba.func5, Yba.ntmps5
  go_wp2_with fail
  go_quiet (fail)
  go_wp2
  refine bodyPost_ret (v := .agg #[.string ⟨#[]⟩, .string ⟨#[]⟩, .int .i64 0, .int .u8 5, .bool false]) (ret5 (x := endT) Yba.results5 rfl (one_congr ((TC.new w nq).put (k := 0) (by omega) endT) (by simp))) rfl ⟨rfl, put5_below (below_new w _ nq) (Nat.le_refl _) 0 endT⟩
end Go.Proofs.Ybulkexppk.C
