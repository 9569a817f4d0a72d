/-
  OUR OWN. The contract of '(*textColumn).value'.
-/
import Derived.Test.YbulkexpkaRows
import Derived.WalkKit
import Derived.Deep.RegionHeld3
import Derived.Deep.RegionLaw
import Derived.Test.YbulkexpkaVInv
namespace Go.Proofs.Ybulkexpka.C
open Go.RowKit Mem
set_option linter.unusedVariables false

theorem info37 : (Yba.prog.info? 37).map (fun i => (i.zero, i.size, i.bytes)) = some (some (.agg zc.toArray), 12, 120) := by kernel_rfl

theorem wr_sub (a b : Nat) (h1 : a ≤ 11) (h2 : b ≤ a) : IntKind.i64.wrap (IntKind.i64.wrap ((a : Int) + 1) - (b : Int)) = ((a + 1 - b : Nat) : Int) := by
  simp only [IntKind.wrap_i64]; omega

set_option maxRecDepth 1000000 in
set_option maxHeartbeats 4000000 in
theorem value_any (w : World) (S : Nat → Prop) (C P N R rl idx : Nat) (q Mo : Nat → Nat) (F : Nat → Nat → Int) (hN : N ≤ 4096) (hidx : idx < rl) (hrl : rl ≤ 8)
    (hq : ∀ k, k < N → q (k + 1) ≤ 11) (hMo : ∀ k, k < N → Mo (k + 1) ≤ 5) (hF : ∀ k e, 1 ≤ k → Mo k ≤ e → F k e = 0) (hSP : ¬ S P)
    (hC3 : w.cell? ⟨C, 3, none⟩ = some (.int .i64 (idx : Int))) (hC4 : w.cell? ⟨C, 4, none⟩ = some (.slice (some ⟨P, 0, none⟩) N N))
    (hP : ∀ k, k < N → w.cell? ⟨P, k, none⟩ = some (.int .i64 (q (k + 1) : Int))) (hPl : P < w.heap.size)
    (hinv : VInv w S q Mo F R N 0 (.pointer (some ⟨R, idx * 12, none⟩)) w) :
    Calls Yba.prog 10 #[.pointer (some ⟨C, 0, none⟩), .slice (some ⟨R, 0, none⟩) rl rl] w fun e' w' => ∃ v, e' = .returned v ∧ VInv w S q Mo F R N N v w' := by
  obtain ⟨i0, hi0, hz0, hz1, hz2⟩ := info_parts info37
  have h1 : (0:Int) ≤ (idx:Int) := by omega
  have h2 : (idx:Int) < (rl:Int) := by omega
  have HQ : Hid (∀ k, k < N → q (k + 1) ≤ 11) := hq
  have HM : Hid (∀ k, k < N → Mo (k + 1) ≤ 5) := hMo
  have HF : Hid (∀ k e, 1 ≤ k → Mo k ≤ e → F k e = 0) := hF
  have HP : Hid (∀ k, k < N → w.cell? ⟨P, k, none⟩ = some (.int .i64 (q (k + 1) : Int))) := hP
  clear hq hMo hF hP
  go_enter Yba.func10, Yba.ntmps10
  go_wp2
  go_loopw [5, 19] (fun v i wr => ∃ t : Nat, t ≤ N ∧ i = .int .i64 t ∧ VInv w S q Mo F R N t v wr) (fun _ i _ => N - (intOf i).toNat)
  case atStart => exact ⟨0, Nat.zero_le _, rfl, by simpa using hinv⟩
  case round =>
    obtain ⟨t, ht, rfl, hV⟩ := hrel
    by_cases hlt : t < N
    · obtain ⟨b, ao, rfl, hbl, hcell, hfz, hshort, hlong⟩ := hV.look hlt HF.out
      have hpc : wr.cell? ⟨P, t, none⟩ = some (.int .i64 (q (t + 1) : Int)) := by
        rw [World.cell?_of_block (w := w) (w' := wr) (hV.keeps.block P hPl hSP)]; exact HP.out t hlt
      have hq1 := HQ.out t hlt
      have hm1 := HM.out t hlt
      clear hC3 hC4
      by_cases hl : q (t + 1) < Mo (t + 1)
      · obtain ⟨b', rfl, hV'⟩ := hshort hl
        have HV' : Hid _ := hV'
        clear hshort hlong hV' hV hinv
        have hl1 : ((q (t + 1) : Nat) : Int) < (Mo (t + 1) : Nat) := by omega
        go_wp2
        go_roundw
        case rel => exact ⟨t + 1, by omega, by go_num, HV'.out⟩
        case measure => simp [intOf]; omega
      · obtain ⟨hrow, hput⟩ := hlong (by omega)
        have HR : Hid _ := hrow
        have HPU : Hid _ := hput
        clear hshort hlong hrow hput hinv hV
        have hl1 : ((Mo (t + 1) : Nat) : Int) ≤ (q (t + 1) : Nat) := by omega
        go_wp2
        go_region_law ((refine step_append_zeros (by rfl) _ _ _ _ (by rfl) i0 _ _ .i64 Yba.underlying26 Yba.underlying3 hi0 hz0 (by rfl) hz1 hz2 ao (Mo (t + 1)) (q (t + 1) + 1 - Mo (t + 1)) (F (t + 1)) _ (by rfl) (by rfl) (wr_sub _ _ hq1 (by omega)) HR.out (by omega) (by omega) ?_; intro cap' w1 hcap hg; have hfz1 : w1.frozen? ⟨b, q t * 12 + 10, none⟩ = false := (World.frozen?_of_block (w := wr) (hg.old b hbl)).trans hfz; have hcl1 : w1.cell? ⟨b, q t * 12 + 10, none⟩ = some (.slice ao (Mo (t + 1)) (Mo (t + 1))) := (World.cell?_of_block (w := wr) (hg.old b hbl)).trans hcell))
        all_goals
          have hs : Mo (t + 1) + (q (t + 1) + 1 - Mo (t + 1)) = q (t + 1) + 1 := by omega
          have HV' := HPU.out w1 cap' (q (t + 1) + 1 - Mo (t + 1)) hs hcap ⟨hg.os, hg.tape, hg.output, hg.size, hg.old, hg.row⟩
          rw [hs] at HV' ⊢
          have HVH : Hid _ := HV'
          clear HV' hs HR HPU hg
          go_wp2
          go_roundw
          case rel => exact ⟨t + 1, by omega, by go_num, HVH.out⟩
          case measure => simp [intOf]; omega
    · have : t = N := by omega
      subst this
      go_wp2
      go_ret
      exact ⟨_, rfl, hV⟩
end Go.Proofs.Ybulkexpka.C
