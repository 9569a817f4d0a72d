/-
  OUR OWN. The contracts of the model's search and of '(*clock).forget'.
-/
import Derived.Test.YbulkexpkoRows
import Derived.WalkKit
import Derived.Maps.OwnSet
import Derived.Test.YbulkexpkoTwo
namespace Go.Proofs.Ybulkexpko.C
open Go.RowKit Plain Mem
set_option linter.unusedVariables false

theorem zero3 (w : World) : (zeroValue 3).run Yba.prog w = .ok (.int .i64 0) w := by kernel_rfl

/-- The place as the Go text hands it back. -/
def place (ks : List Int) (k : Int) : Int := match idx ks k with | some j => (j : Int) | none => -1

set_option maxRecDepth 100000 in
set_option maxHeartbeats 1000000 in
theorem find_any (w : World) (a : Option Addr) (cap : Nat) (ks : List Int) (k : Int) (hn : ks.length ≤ 4096)
    (hrow : ∀ i, i < ks.length → ∃ g, a = some ⟨g, 0, none⟩ ∧ w.cell? ⟨g, i, none⟩ = some (.int .u64 (ks.getD i 0))) :
    Calls Yba.prog 4 #[.slice a ks.length cap, .int .u64 k] w fun e w' => e = .returned (.int .i64 (place ks k)) ∧ w = w' := by
  have HR : Hid (∀ i, i < ks.length → ∃ g, a = some ⟨g, 0, none⟩ ∧ w.cell? ⟨g, i, none⟩ = some (.int .u64 (ks.getD i 0))) := hrow
  clear hrow
  obtain ⟨n, hnn⟩ : ∃ n, Hid (n = ks.length) := ⟨_, rfl⟩
  rw [← hnn.out] at hn ⊢
  go_enter Yba.func4, Yba.ntmps4
  go_wp2
  go_loop [5] (fun i => ∃ t : Nat, t ≤ n ∧ i = .int .i64 t ∧ Hid (∀ j, j < t → ks.getD j 0 ≠ k)) (fun i => n - (intOf i).toNat)
  case atStart => exact ⟨0, Nat.zero_le _, rfl, fun j hj => by omega⟩
  case round =>
    obtain ⟨t, ht, rfl, hno⟩ := hrel
    by_cases hlt : t < n
    · obtain ⟨g, rfl, hc⟩ := HR.out t (by rw [← hnn.out]; exact hlt)
      obtain ⟨x, hx⟩ : ∃ x, Hid (x = ks.getD t 0) := ⟨_, rfl⟩
      rw [← hx.out] at hc
      have hlt' : (t : Int) < (n : Int) := by omega
      by_cases he : x = k
      · subst he
        go_wp2
        go_ret
        refine ⟨?_, rfl⟩
        have := idx_step ks x t (by rw [← hnn.out]; exact hlt) hno.out hx.out.symm
        simp [place, this]
      · have he' : (x == k) = false := by simpa using he
        go_wp2
        go_round
        case rel => exact ⟨t + 1, by omega, by go_num, fun j hj => by
          by_cases e : j = t
          · subst e; rw [← hx.out]; exact he
          · exact hno.out j (by omega)⟩
        case measure => simp [intOf]; omega
    · obtain rfl : n = t := by omega
      go_wp2
      go_ret
      refine ⟨?_, rfl⟩
      have := idx_no ks k (fun j hj => hno.out j (by rw [hnn.out]; exact hj))
      simp [place, this]

/-- The new count. -/
def newCount (l : List (Int × Int)) (k : Int) : Int := wrap64 ((get l k).getD 0 - 1)

/-- 'delete(m, k)' whose run is known. -/
theorem wpList_delete_run {P : Program} (w : World) {ops : Array Oper} {rest : List Oper} {o : Oper} {a : Act} {Q : Exit → Act → World → Prop} (hgd : o.guard = none) (s x : Operand) (t tn : TypeId)
    (ho : o.op = .call { callee := .builtin .delete, args := #[s, x], argTypes := #[t, tn] }) (vs vx : Value) (hs : a.eval s = vs) (hx : a.eval x = vx)
    (v' : Value) (w' : World) (hr : (Builtin.delete_ #[t, tn] o.type #[vs, vx]).run P w = .ok v' w') (h : wpList P ops Q rest (a.put o.dst v') w') : wpList P ops Q (o :: rest) a w := by
  refine wpList_plain hgd fun K hK => ?_
  unfold Oper.wp execOp
  simp only [ho, resolve, invoke, builtin, Sem.run_bind, Sem.run_pure, Result.andThen_ok, List.map_toArray, List.map_cons, List.map_nil, hs, hx, hr]
  exact hK _ _ h

theorem Turned.trans {a b c : World} {r : Nat} (h : Turned a b r) (k : Turned b c r) : Turned a c r :=
  ⟨k.os.trans h.os, k.tape.trans h.tape, k.output.trans h.output, k.drawn.trans h.drawn, k.size.trans h.size, fun i hi => (k.block i hi).trans (h.block i hi)⟩

set_option maxRecDepth 100000 in
set_option maxHeartbeats 1000000 in
theorem forget_any (w : World) (C B : Nat) (l : List (Int × Int)) (k : Int) (hC : w.cell? ⟨C, 8, none⟩ = some (.map (some B))) (hne : C ≠ B) (hm : MapOf w B l) :
    Calls Yba.prog 5 #[.pointer (some ⟨C, 0, none⟩), .int .u64 k] w fun e w' => e = .returned (.tuple #[]) ∧ MapOf w' B (forgot l k (newCount l k)) ∧ Turned w w' B := by
  have hl1 := run_look (P := Yba.prog) hm .u64 Yba.underlying25 Yba.underlying24 (zero3 w) k false
  simp only [Bool.false_eq_true, if_false] at hl1
  obtain ⟨x, hx⟩ : ∃ x, Hid (x = (get l k).getD 0) := ⟨_, rfl⟩
  rw [← hx.out] at hl1
  obtain ⟨w1, hr1, hm1, ht1⟩ := run_put (P := Yba.prog) hm .u64 Yba.underlying25 Yba.underlying24 k (wrap64 (x - 1))
  have hC1 : w1.cell? ⟨C, 8, none⟩ = some (.map (some B)) := (World.cell?_of_block (w := w) (ht1.block C hne)).trans hC
  have hl2 := run_look (P := Yba.prog) hm1 .u64 Yba.underlying25 Yba.underlying24 (zero3 w1) k false
  simp only [Bool.false_eq_true, if_false, get_put, if_true, Option.getD_some] at hl2
  have hnv : Hid (wrap64 (x - 1) = newCount l k) := by show wrap64 (x - 1) = newCount l k; rw [hx.out]; rfl
  by_cases h0 : wrap64 (x - 1) = 0
  · obtain ⟨w2, hr2, hm2, ht2⟩ := run_del (P := Yba.prog) hm1 .u64 Yba.underlying25 Yba.underlying24 k 0
    have hfin : Hid (MapOf w2 B (forgot l k (newCount l k)) ∧ Turned w w2 B) := by
      refine ⟨?_, Turned.trans ht1 ht2⟩
      rw [← hnv.out]
      unfold forgot
      rw [if_pos h0]
      exact hm2
    have h0' : (wrap64 (x - 1) == 0) = true := by simpa using h0
    clear h0
    go_enter Yba.func5, Yba.ntmps5
    go_wp2_with (at_delete; refine wpList_delete_run _ rfl _ _ 25 24 rfl _ _ rfl rfl _ _ hr2 ?_)
    go_end0
    exact ⟨rfl, hfin.out⟩
  · have h0' : (wrap64 (x - 1) == 0) = false := by simpa using h0
    have hfin : Hid (MapOf w1 B (forgot l k (newCount l k)) ∧ Turned w w1 B) := by
      refine ⟨?_, ht1⟩
      rw [← hnv.out]
      unfold forgot
      rw [if_neg h0]
      exact hm1
    clear h0
    go_enter Yba.func5, Yba.ntmps5
    go_wp2
    go_end0
    exact ⟨rfl, hfin.out⟩
end Go.Proofs.Ybulkexpko.C
