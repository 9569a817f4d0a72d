/-
  OUR OWN. The contracts of the tag, of slices.Clone and slices.Equal at []int.
-/
import Derived.Test.YbulkexpkaRows
import Derived.WalkKit
import Derived.WalkSpells
import Derived.Deep.QuietTactic
import Derived.BigQuiet
import Derived.Test.YbulkexpkaMem
namespace Go.Proofs.Ybulkexpka.C
open Go.RowKit Mem
set_option linter.unusedVariables false

theorem info3 : (Yba.prog.info? 3).map (fun i => (i.zero, i.size, i.bytes)) = some (some (.int .i64 0), 1, 8) := by kernel_rfl

set_option maxHeartbeats 400000 in
theorem tag_any (k e : Nat) (w : World) (hk : k ≤ 4096) (he : e ≤ 100) :
    Calls Yba.prog 8 #[.int .i64 k, .int .i64 e] w fun e' w' => e' = .returned (.int .i64 (1000 * ((k : Int) + 1) + e + 1)) ∧ w' = w := by
  go_enter Yba.func8, Yba.ntmps8
  go_wp2
  go_ret
  exact ⟨rfl, rfl⟩

/-- N ints in a row. -/
def IRow (w : World) (b N : Nat) (p : Nat → Int) : Prop := ∀ k, k < N → w.cell? ⟨b, k, none⟩ = some (.int .i64 (p k))

theorem irow_cells {w : World} {P N : Nat} {p : Nat → Int} (h : IRow w P N p) (hl : P < w.heap.size) {o : Obj} : ∀ j u, ((List.range N).map fun k => Value.int .i64 (p k))[j]? = some u → (w.alloc o).cell? ((⟨P, 0, none⟩ : Addr).add j) = some u := by
  intro j u hu
  rw [List.getElem?_map, Option.map_eq_some_iff] at hu
  obtain ⟨k, hk, rfl⟩ := hu
  rw [List.getElem?_eq_some_iff] at hk
  obtain ⟨h1, h2⟩ := hk
  rw [List.getElem_range] at h2
  subst h2
  rw [Addr.add_lit, Nat.zero_add, World.cell?_of_block (w := w) (Below.heap_alloc w o P hl)]
  exact h j (by simpa using h1)
theorem irow_one (N : Nat) (p : Nat → Int) : ∀ u ∈ (List.range N).map (fun k => Value.int .i64 (p k)), u.oneCell' = true := by
  intro u hu
  obtain ⟨_, _, rfl⟩ := List.mem_map.1 hu
  rfl
theorem own_irow {w : World} {base N : Nat} {v : Value} {p : Nat → Int} (h : w.ownsRow base 3 1 v N ((List.range N).map fun k => Value.int .i64 (p k))) (hn : v ≠ .slice none 0 0) :
    ∃ g cap, v = .slice (some ⟨g, 0, none⟩) N cap ∧ base ≤ g ∧ g < w.heap.size ∧ IRow w g N p := by
  rcases h.2 with ⟨e, _⟩ | ⟨g, cap, cur, e, hb, hg, hn, hm, hs, ht⟩
  · exact absurd e hn
  · refine ⟨g, cap, e, hb, (Array.getElem?_eq_some_iff.1 hg).1, fun k hk => ?_⟩
    have h1 : (cur.toList.take (N * 1))[k]? = some (Value.int .i64 (p k)) := by rw [ht]; simp [hk]
    rw [List.getElem?_take, if_pos (by omega)] at h1
    simp only [World.cell?, hg]
    simpa using h1
theorem clone_keeps {w w1 : World} {o : Obj} {n c : Nat} (hg : (w.alloc o).grownBy w1 (Value.ownBlock (.slice (some ⟨w.heap.size, 0, none⟩) n c))) : Keeps (fun _ => False) w w1 := by
  refine ⟨hg.os, hg.tape, hg.output, by have := hg.size; simp at this; omega, fun k hk _ => ?_⟩
  rw [hg.block k (by simp; omega) (by simp [Value.ownBlock]; omega)]
  exact Below.heap_alloc w o k hk

set_option maxRecDepth 100000 in
set_option maxHeartbeats 1000000 in
theorem clone_any (w : World) (P N : Nat) (p : Nat → Int) (hN : N ≤ 4096) (hP : IRow w P N p) (hPl : P < w.heap.size) :
    Calls Yba.prog 9 #[.slice (some ⟨P, 0, none⟩) N N] w fun e' w' => ∃ b cap, e' = .returned (.slice (some ⟨b, 0, none⟩) N cap) ∧ w.heap.size ≤ b ∧ b < w'.heap.size ∧ IRow w' b N p ∧ Keeps (fun _ => False) w w' := by
  obtain ⟨i0, hi, hz0, hz1, hz2⟩ := info_parts info3
  have q50 : ∀ (w : World) (a : Option Addr) (n c : Nat), (binOp .eql 50 (.slice a n c) (.slice none 0 0)).run Yba.prog w = .ok (.bool a.isNone) w := fun w a n c => Lib.run_eql_slice_nil w _ _ _ _ _ _ _ Yba.underlying50
  have HP : Hid _ := hP
  clear hP
  go_enter Yba.func9, Yba.ntmps9
  go_wp2_with (at_builtin; refine wpList_append_own _ rfl _ _ 50 rfl w.heap.size 3 i0 (.int .i64 0) 1 8 Yba.underlying50 hi hz0 hz1 hz2 rfl (by decide) _ _ _ rfl (World.ownsRow_made w #[] 0 (Nat.le_refl _) (by unfold maxLen; omega) rfl) ⟨P, 0, none⟩ N N ((List.range N).map fun k => .int .i64 (p k)) rfl (by simp) (irow_cells HP.out hPl) (irow_one N p) (by unfold maxLen; omega) (by omega) (by simp) ?_)
  intro v' w1 hown hgrow hnil
  obtain ⟨g, cap, hv, hg, hgl, hcell⟩ := own_irow hown hnil
  subst hv
  have hk : Keeps (fun _ => False) w w1 := clone_keeps hgrow
  clear hown hgrow hnil
  go_wp2
  go_ret
  exact ⟨g, cap, rfl, hg, hgl, hcell, hk⟩

set_option maxRecDepth 100000 in
set_option maxHeartbeats 1000000 in
theorem equal_any (w : World) (P Q N cap1 cap2 : Nat) (p : Nat → Int) (hN : N ≤ 4096) (hP : IRow w P N p) (hQ : IRow w Q N p) :
    Calls Yba.prog 11 #[.slice (some ⟨P, 0, none⟩) N cap1, .slice (some ⟨Q, 0, none⟩) N cap2] w fun e' w' => e' = .returned (.bool true) ∧ ∃ n, w' = w.drewN n := by
  have HP : Hid _ := hP
  have HQ : Hid _ := hQ
  clear hP hQ
  go_enter Yba.func11, Yba.ntmps11
  go_wp2
  go_loopw [13] (fun i wr => ∃ t : Nat, t ≤ N ∧ i = .int .i64 t ∧ ∃ n, wr = w.drewN n) (fun i _ => N - (intOf i).toNat)
  case atStart => exact ⟨0, Nat.zero_le _, rfl, 0, rfl⟩
  case round =>
    obtain ⟨t, ht, rfl, n, rfl⟩ := hrel
    by_cases hlt : t < N
    · have h1 := HP.out t hlt
      have h2 := HQ.out t hlt
      have h3 : (t : Int) < (N : Int) := by omega
      go_wp2_with fail
      go_quiet (fail)
      go_wp2
      go_roundw
      case rel => exact ⟨t + 1, by omega, by go_num, _, rfl⟩
      case measure => simp [intOf]; omega
    · go_wp2
      go_ret
      exact ⟨rfl, n, rfl⟩
end Go.Proofs.Ybulkexpka.C
