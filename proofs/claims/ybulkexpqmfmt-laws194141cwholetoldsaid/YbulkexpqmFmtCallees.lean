/-
  OUR OWN. Comparisons of interface values and pointers; the contract of NewDictionary on entries that have a key and a value.
-/
import Derived.Test.YbulkexpqmFmtRows
import Derived.WalkKit
import Derived.WalkSpells
import Derived.BigQuiet
import Derived.Test.YbulkexpqmFmtMem
namespace Go.Proofs.YbulkexpqmFmt.C
open Go.RowKit Mem
set_option linter.unusedVariables false
set_option linter.unusedSimpArgs false

theorem info24c : (Ybaf.prog.info? 24).map (fun i => i.comparable) = some true := by kernel_rfl
theorem info31c : (Ybaf.prog.info? 31).map (fun i => i.comparable) = some true := by kernel_rfl
theorem info33s : (Ybaf.prog.info? 33).map (fun i => i.size) = some 1 := by kernel_rfl
theorem info37s : (Ybaf.prog.info? 37).map (fun i => i.size) = some 2 := by kernel_rfl

theorem some_of_map {α β : Type} {o : Option α} {f : α → β} {y : β} (h : o.map f = some y) : ∃ x, o = some x ∧ f x = y := Option.map_eq_some_iff.1 h

theorem eq_nil {t : TypeId} {ms : Array (String × TypeId)} (h : Ybaf.prog.underlying t = some (.interface ms)) (w : World) (u : TypeId) (v : Value) : (binOp .eql t (.iface u v) .nilIface).run Ybaf.prog w = .ok (.bool false) w := by
  have h1 : ∀ d, (Op.equalIn (d + 1) t (.iface u v) .nilIface).run Ybaf.prog w = .ok false w := fun d => by simp [Op.equalIn, run_underlying h]
  simp only [binOp]
  simp [Op.equal, Op.maxDepth, h1 9999]

theorem eqIn_iface {t : TypeId} {ms : Array (String × TypeId)} (h : Ybaf.prog.underlying t = some (.interface ms)) (w : World) (d : Nat) (u : TypeId) (i : TypeInfo) (hi : Ybaf.prog.info? u = some i) (hc : i.comparable = true) (x y : Value) :
    (Op.equalIn (d + 1) t (.iface u x) (.iface u y)).run Ybaf.prog w = (Op.equalIn d u x y).run Ybaf.prog w := by
  simp [Op.equalIn, run_underlying h, typeInfo, hi, hc]

/-- Two interface values that hold one and the same named string struct are equal. -/
theorem ne_typ (w : World) (s : ByteArray) : (binOp .neq 26 (.iface 24 (.agg #[.string s])) (.iface 24 (.agg #[.string s]))).run Ybaf.prog w = .ok (.bool false) w := by
  obtain ⟨i, hi, hc⟩ := some_of_map info24c
  have h0 : ∀ d, (Op.equalIn (d + 1 + 1) 24 (.agg #[.string s]) (.agg #[.string s])).run Ybaf.prog w = .ok true w := fun d => by
    rw [run_equalIn_struct w (d + 1) 24 _ _ (by kernel_rfl) (by kernel_rfl)]
    simp [go_sem]
  have h1 : ∀ d, (Op.equalIn (d + 1 + 1 + 1) 26 (.iface 24 (.agg #[.string s])) (.iface 24 (.agg #[.string s]))).run Ybaf.prog w = .ok true w := fun d => by
    rw [eqIn_iface Ybaf.underlying26 w _ 24 i hi hc]
    exact h0 d
  simp only [binOp]
  simp [Op.equal, Op.maxDepth, h1 9997]

theorem ne_val (w : World) (b : Nat) : (binOp .neq 35 (ifc b) (ifc b)).run Ybaf.prog w = .ok (.bool false) w := by
  obtain ⟨i, hi, hc⟩ := some_of_map info31c
  obtain ⟨j, hj, hs⟩ := some_of_map info33s
  have h0 : ∀ d, (Op.equalIn (d + 1) 31 (.pointer (some ⟨b, 0, none⟩)) (.pointer (some ⟨b, 0, none⟩))).run Ybaf.prog w = .ok true w := fun d => by
    simp [Op.equalIn, run_underlying Ybaf.underlying31, sizeOf, typeInfo, hj, hs, sameAddr]
  have h1 : ∀ d, (Op.equalIn (d + 1 + 1) 35 (.iface 31 (.pointer (some ⟨b, 0, none⟩))) (.iface 31 (.pointer (some ⟨b, 0, none⟩)))).run Ybaf.prog w = .ok true w := fun d => by
    rw [eqIn_iface Ybaf.underlying35 w _ 31 i hi hc]
    exact h0 d
  show (binOp .neq 35 (.iface 31 (.pointer (some ⟨b, 0, none⟩))) (.iface 31 (.pointer (some ⟨b, 0, none⟩)))).run Ybaf.prog w = _
  simp only [binOp]
  simp [Op.equal, Op.maxDepth, h1 9998]

theorem ne_ptr (w : World) (a : Addr) : (binOp .neq 41 (.pointer (some a)) (.pointer (some a))).run Ybaf.prog w = .ok (.bool false) w := by
  obtain ⟨j, hj, hs⟩ := some_of_map info37s
  have h0 : ∀ d, (Op.equalIn (d + 1) 41 (.pointer (some a)) (.pointer (some a))).run Ybaf.prog w = .ok true w := fun d => by
    simp [Op.equalIn, run_underlying Ybaf.underlying41, sizeOf, typeInfo, hj, hs, sameAddr]
  simp only [binOp]
  simp [Op.equal, Op.maxDepth, h0 9999]

/-- The entries as NewDictionary finds them. -/
def Ents (w : World) (eo : Option Addr) (N : Nat) (kp vp : Nat → Nat) : Prop := ∀ i, i < N → ∃ b, eo = some ⟨b, 0, none⟩ ∧ b < w.heap.size ∧ w.cell? ⟨b, i * 2, none⟩ = some (ifc (kp i)) ∧ w.cell? ⟨b, i * 2 + 1, none⟩ = some (ifc (vp i))

theorem start_k (w : World) (kn en : ByteArray) {o : Obj} : CB ((w.alloc (.cells #[.iface 24 (.agg #[.string kn]), .iface 24 (.agg #[.string en])] 28)).alloc o) w.heap.size 2 28 (fun i => if i = 0 then .iface 24 (.agg #[.string kn]) else .iface 24 (.agg #[.string en])) := by
  refine ((CB.new w _ 28).alloc _).congr fun i hi => ?_
  match i, hi with
  | 0, _ | 1, _ => rfl
theorem start_d (w : World) (o : Obj) : CB ((w.alloc o).alloc (.cells #[.nilIface, .nilIface, .slice none 0 0] 39)) (w.heap.size + 1) 3 39 (fun i => if i = 2 then .slice none 0 0 else .nilIface) := by
  have h := CB.new (w.alloc o) #[.nilIface, .nilIface, .slice none 0 0] 39
  rw [World.size_alloc] at h
  refine h.congr fun i hi => ?_
  match i, hi with
  | 0, _ | 1, _ | 2, _ => rfl
set_option maxRecDepth 100000 in
theorem ret3 {fn : Func} (hf : fn.results = #[.cell 4 39]) {tmps : Array Value} {X : World} {b : Nat} {g : Nat → Value} (ht : tmps[4]?.getD undef = .pointer (some ⟨b, 0, none⟩)) (h : CB X b 3 39 g) :
    (results fn tmps).run Ybaf.prog X = .ok (.agg #[g 0, g 1, g 2]) X := by
  have h0 := h.cell (i := 0) (by omega)
  have h1 := h.cell (i := 1) (by omega)
  have h2 := h.cell (i := 2) (by omega)
  simp only [results, hf]
  simp [ht, go_sem, h0, h1, h2]

set_option maxRecDepth 100000 in
set_option maxHeartbeats 2000000 in
theorem dict_any (w : World) (kn en : ByteArray) (eo : Option Addr) (N : Nat) (kp vp : Nat → Nat) (hN : N ≤ 1048576) (hE : Ents w eo N kp vp) :
    Calls Ybaf.prog 4 #[.agg #[.iface 24 (.agg #[.string kn]), .iface 24 (.agg #[.string en])], .slice eo N N] w fun e w' =>
      e = .returned (.agg #[.iface 24 (.agg #[.string kn]), .iface 24 (.agg #[.string en]), .slice eo N N]) ∧ Below w.heap.size w w' := by
  have q26 := @eq_nil 26 _ Ybaf.underlying26
  have q35 := @eq_nil 35 _ Ybaf.underlying35
  have HE : Hid (Ents w eo N kp vp) := hE
  clear hE
  go_enter Ybaf.func4, Ybaf.ntmps4
  go_wp2
  go_loopw [18] (fun i wr => ∃ t : Nat, t ≤ N ∧ i = .int .i64 t ∧ CB wr w.heap.size 2 28 (fun i => if i = 0 then .iface 24 (.agg #[.string kn]) else .iface 24 (.agg #[.string en])) ∧ CB wr (w.heap.size + 1) 3 39 (fun i => if i = 2 then .slice none 0 0 else .nilIface) ∧ Below w.heap.size w wr) (fun i _ => N - (intOf i).toNat)
  case atStart => exact ⟨0, Nat.zero_le _, rfl, start_k w kn en, start_d w _, ((Below.refl _ _).alloc (Nat.le_refl _) _).alloc (by simp) _⟩
  case round =>
    obtain ⟨t, ht, rfl, hk, hd, hbel⟩ := hrel
    by_cases hlt : t < N
    · obtain ⟨b, rfl, hb, he0, he1⟩ := HE.out t hlt
      have hc0 : wr.cell? ⟨b, t * 2, none⟩ = some (.iface 31 (.pointer (some ⟨kp t, 0, none⟩))) := (hbel.cell (p := ⟨b, t * 2, none⟩) hb).trans he0
      have hc1 : wr.cell? ⟨b, t * 2 + 1, none⟩ = some (.iface 31 (.pointer (some ⟨vp t, 0, none⟩))) := (hbel.cell (p := ⟨b, t * 2 + 1, none⟩) hb).trans he1
      have hlt' : (t : Int) < (N : Int) := by omega
      clear he0 he1
      go_wp2
      go_roundw
      case rel => exact ⟨t + 1, by omega, by go_num, hk.alloc _, hd.alloc _, hbel.alloc hbel.size _⟩
      case measure => simp [intOf]; omega
    · obtain rfl : N = t := by omega
      have k0 := hk.cell (i := 0) (by omega)
      have k1 := hk.cell (i := 1) (by omega)
      have d0 := hd.cell (i := 0) (by omega)
      have d1 := hd.cell (i := 1) (by omega)
      have d2 := hd.cell (i := 2) (by omega)
      have f0 := hd.frozen 0
      have f1 := hd.frozen 1
      have f2 := hd.frozen 2
      simp only [if_true, Nat.one_ne_zero, if_false] at k0 k1
      go_wp2
      exact bodyPost_ret (v := .agg #[.iface 24 (.agg #[.string kn]), .iface 24 (.agg #[.string en]), .slice eo N N]) (ret3 Ybaf.results4 rfl (((hd.set (k := 0) (by omega) _).set (k := 1) (by omega) _).set (k := 2) (by omega) _)) rfl ⟨rfl, ((hbel.setCell (p := ⟨w.heap.size + 1, 0, none⟩) (by simp) _).setCell (p := ⟨w.heap.size + 1, 1, none⟩) (by simp) _).setCell (p := ⟨w.heap.size + 1, 2, none⟩) (by simp) _⟩
end Go.Proofs.YbulkexpqmFmt.C
