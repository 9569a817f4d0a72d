/-
  OUR OWN. The walk of the law.
-/
import Derived.Test.YbulkexpkoRows
import Derived.WalkKit
import Derived.WalkSpells
import Derived.Deep.CutBlock
import Derived.Deep.DeepCutAuto
import Derived.Deep.QuietTactic
import Derived.BigQuiet
import Derived.Test.YbulkexpkoLateWalk
namespace Go.Proofs.Ybulkexpko.C
open Go.RowKit Plain Mem
set_option linter.unusedVariables false

set_option maxRecDepth 1000000 in
set_option maxHeartbeats 8000000 in
theorem walk (a0 : Option Addr) (len0 cap0 : Nat) (a1 : Option Addr) (len1 cap1 : Nat) (ts pick com : Int) (w : World) (hN : len0 ≤ 4096) (hl1 : len1 ≤ 9223372036854775807) (hp0 : 0 ≤ pick) (hp1 : pick ≤ 255)
    (n : Nat) (hn : n = min len0 len1) (ks cs : Nat → Int)
    (hk : ∀ i, i < len0 → ∃ b off, a0 = some ⟨b, off, none⟩ ∧ b < w.heap.size ∧ w.cell? ⟨b, off + i, none⟩ = some (.int .u64 (ks i)))
    (hc : ∀ i, i < len1 → ∃ b off, a1 = some ⟨b, off, none⟩ ∧ b < w.heap.size ∧ w.cell? ⟨b, off + i, none⟩ = some (.int .i64 (cs i))) :
    Calls Yba.prog 3 #[.slice a0 len0 cap0, .slice a1 len1 cap1, .int .u64 ts, .int .u8 pick, .int .u64 com] w fun e' w' => e' = .returned (.bool true) ∧ Below w.heap.size w w' := by
  obtain ⟨i3, hi3, hz3, hs3, hb3⟩ := info_parts info3
  obtain ⟨i24, hi24, hz24, hs24, hb24⟩ := info_parts info24
  have HK : Hid (∀ i, i < len0 → ∃ b off, a0 = some ⟨b, off, none⟩ ∧ b < w.heap.size ∧ w.cell? ⟨b, off + i, none⟩ = some (.int .u64 (ks i))) := hk
  have HC : Hid (∀ i, i < len1 → ∃ b off, a1 = some ⟨b, off, none⟩ ∧ b < w.heap.size ∧ w.cell? ⟨b, off + i, none⟩ = some (.int .i64 (cs i))) := hc
  have hn0 : n ≤ len0 := by omega
  have hn1 : n ≤ len1 := by omega
  have HN : Hid (n = min len0 len1) := hn
  have hmm := @run_makeMap Yba.prog
  clear hk hc hn
  go_enter Yba.func3, Yba.ntmps3
  go_upto_if 35 with fail
  go_cut [11] (fun l wc => l = .int .i64 (n : Int) ∧ w = wc)
  case first =>
    by_cases h : len1 < len0
    · have h' : (len1 : Int) < (len0 : Int) := by omega
      go_wp2
      go_meet
      case rel => exact ⟨by rw [HN.out, show min len0 len1 = len1 by omega], rfl⟩
    · have h' : ¬ (len1 : Int) < (len0 : Int) := by omega
      go_wp2
      go_meet
      case rel => exact ⟨by rw [HN.out, show min len0 len1 = len0 by omega], rfl⟩
  case rest =>
    obtain ⟨rfl, rfl⟩ := hcut
    go_wp2
    go_loopw [13, 14, 15] (fun vk vv i wr => ∃ t : Nat, t ≤ n ∧ i = .int .i64 t ∧ St w wr (bld ks cs t) vk vv) (fun _ _ i _ => n - (intOf i).toNat)
    case atStart => exact ⟨0, Nat.zero_le _, rfl, MapOf.made w, Two.nil _ _ (by simp), (Below.refl _ _).alloc (Nat.le_refl _) _⟩
    case round =>
      obtain ⟨t, ht, rfl, hS⟩ := hrel
      by_cases hlt : t < n
      · obtain ⟨b, off, rfl, hbw, hkc⟩ := HK.out t (by omega)
        obtain ⟨b', off', rfl, hbw', hcc⟩ := HC.out t (by omega)
        have hkc1 : wr.cell? ⟨b, off + t, none⟩ = some (.int .u64 (ks t)) := (hS.bel.cell (p := ⟨b, off + t, none⟩) hbw).trans hkc
        have hcc1 : wr.cell? ⟨b', off' + t, none⟩ = some (.int .i64 (cs t)) := (hS.bel.cell (p := ⟨b', off' + t, none⟩) hbw').trans hcc
        obtain ⟨l, hl⟩ : ∃ l, Hid (l = bld ks cs t) := ⟨_, rfl⟩
        rw [← hl.out] at hS
        obtain ⟨w1, hr1, hm1, ht1⟩ := run_put (P := Yba.prog) (w := wr.drew) hS.map .u64 Yba.underlying25 Yba.underlying24 (ks t) (cs t)
        obtain ⟨hT1, hb1⟩ := hS.turned (n := 1) ht1
        have h1 : (t : Int) < (len0 : Int) := by omega
        have h2 : (t : Int) < (len1 : Int) := by omega
        go_wp2_with fail
        go_cut [] (fun wc => w1 = wc)
        case first =>
          go_region
          all_goals
            go_wp2
            go_meet
            case rel => rfl
        case rest =>
          obtain rfl := hcut
          have hS2 := hS
          clear hr1 hkc1 hcc1 hS hS2 h1 h2
          have hkc2 : w1.cell? ⟨b, off + t, none⟩ = some (.int .u64 (ks t)) := (hb1.cell (p := ⟨b, off + t, none⟩) hbw).trans hkc
          have hcc2 : w1.cell? ⟨b', off' + t, none⟩ = some (.int .i64 (cs t)) := (hb1.cell (p := ⟨b', off' + t, none⟩) hbw').trans hcc
          clear hkc ht1
          have h1 : (t : Int) < (len0 : Int) := by omega
          have h2 : (t : Int) < (len1 : Int) := by omega
          have hll : l.length ≤ t := by rw [hl.out]; exact bld_length ks cs t
          have hlk : (keys l).length = l.length := by simp [keys]
          have hlv : (vals l).length = l.length := by simp [vals]
          have HLK : Hid ((keys l).length = l.length) := hlk
          have HLV : Hid ((vals l).length = l.length) := hlv
          have hk4 : (keys l).length ≤ 4096 := by omega
          have hv4 : (vals l).length ≤ 4096 := by omega
          clear hlk hlv
          obtain ⟨ak, capk, hvk, hrowk⟩ := hT1.k.form
          obtain ⟨av, capv, hvv, hrowv⟩ := hT1.v.form
          have HT1 : Hid (Two w1 (w.heap.size + 1) (keys l) (vals l) u13 u14) := hT1
          have hfind := find_any w1 ak capk (keys l) (ks t) hk4 (fun i hi => by obtain ⟨g, h1, _, _, _, h2, _⟩ := hrowk i hi; exact ⟨g, h1, h2⟩)
          cases hi : idx (keys l) (ks t) with
          | none =>
            have hpl : place (keys l) (ks t) = -1 := by simp [place, hi]
            have HI : Hid (idx (keys l) (ks t) = none) := hi
            subst hvk
            clear hi hT1 hrowk hrowv hvv
            go_wp2_with (first | (go_at_call 4; refine hfind.mono ?_; rintro e w' ⟨rfl, rfl⟩) | (at_builtin; refine wpList_append_own_at _ rfl _ _ 22 rfl (w.heap.size + 1) 24 i24 (.int .u64 0) 1 8 Yba.underlying22 hi24 hz24 hs24 hb24 rfl (by decide) _ _ _ rfl (World.ownsRow.alloc HT1.out.k _) ⟨w1.heap.size, 0, none⟩ 1 1 [.int .u64 (ks t)] rfl rfl (cell_one_new _ _ _) (ints_oneCell .u64 [ks t]) (by unfold maxLen; omega) (by omega) (by have := HT1.out.size; simp; omega) ?_))
            intro vk' w2 hown2 hgrow2 _ hloc2
            obtain ⟨hT2, hb2⟩ := HT1.out.appK hgrow2 hown2 hloc2
            have hcc3 : w2.cell? ⟨b', off' + t, none⟩ = some (.int .i64 (cs t)) := (hb2.cell (p := ⟨b', off' + t, none⟩) (by simp; omega)).trans hcc2
            clear hown2 hgrow2 hloc2 hkc2 hcc2 hfind hpl
            go_wp2_with (at_builtin; refine wpList_append_own_at _ rfl _ _ 23 rfl (w.heap.size + 1) 3 i3 (.int .i64 0) 1 8 Yba.underlying23 hi3 hz3 hs3 hb3 rfl (by decide) _ _ _ rfl (World.ownsRow.alloc hT2.v _) ⟨w2.heap.size, 0, none⟩ 1 1 [.int .i64 (cs t)] rfl rfl (cell_one_new _ _ _) (ints_oneCell .i64 [cs t]) (by unfold maxLen; omega) (by omega) (by have := hT2.size; simp; omega) ?_)
            intro vv' w3 hown3 hgrow3 _ hloc3
            obtain ⟨hT3, hb3'⟩ := hT2.appV hgrow3 hown3 hloc3
            have hS3 := St.add hm1 hb1 HI.out hT3 (hb2.trans hb3')
            clear hown3 hgrow3 hloc3 hcc3 hT2 hT3 hb2 hb3' HT1
            go_wp2
            go_roundw
            case rel => exact ⟨t + 1, by omega, by go_num, by show St w w3 (put (bld ks cs t) (ks t) (cs t)) _ _; rw [← hl.out]; exact hS3⟩
            case measure => simp [intOf]; omega
          | some j =>
            have hpl : place (keys l) (ks t) = (j : Int) := by simp [place, hi]
            have HI : Hid (idx (keys l) (ks t) = some j) := hi
            have hjk := idx_lt hi
            have hjl : j < (vals l).length := by rw [HLV.out, ← HLK.out]; exact hjk
            obtain ⟨g, rfl, hg1, hg2, hg3, hg4, hg5⟩ := hrowv j hjl
            have hst := HT1.out.setV hg3 hjl (cs t)
            have hjl' : (j : Int) < ((vals l).length : Int) := by omega
            have hS3 := St.upd hm1 hb1 HI.out hst.1 hst.2
            have HS3 : Hid (St w (w1.setCell ⟨g, j, none⟩ (.int .i64 (cs t))) (put l (ks t) (cs t)) u13 u14) := hS3
            subst hvk hvv
            clear hi hT1 hrowk hrowv hst hS3
            go_wp2_with (go_at_call 4; refine hfind.mono ?_; rintro e w' ⟨rfl, rfl⟩)
            go_roundw
            case rel => exact ⟨t + 1, by omega, by go_num, by show St w _ (put (bld ks cs t) (ks t) (cs t)) _ _; rw [← hl.out]; exact HS3.out⟩
            case measure => simp [intOf]; omega
      · obtain rfl : n = t := by omega
        obtain ⟨l, hl⟩ : ∃ l, Hid (l = bld ks cs n) := ⟨_, rfl⟩
        rw [← hl.out] at hS
        go_upto_region 18 with fail
        go_cut [88] (fun b wc => ∃ bb : Bool, b = .bool bb ∧ (bb = true → 0 < n) ∧ wr = wc)
        case first =>
          by_cases h0 : 0 < n
          · have h0' : (0 : Int) < (n : Int) := by omega
            go_wp2
            go_meet
            case rel => exact ⟨_, rfl, fun _ => h0, rfl⟩
          · have h0' : ¬ (0 : Int) < (n : Int) := by omega
            have h0'' : decide ((0 : Int) < (n : Int)) = false := by simpa using h0'
            go_wp2
            go_meet
            case rel => exact ⟨_, rfl, fun h => by simp at h, rfl⟩
        case rest =>
          obtain ⟨bb, rfl, hbb, rfl⟩ := hcut
          go_upto_if 88 with fail
          go_cut [2] (fun x wc => ∃ xx : Int, x = .int .u64 xx ∧ wr = wc)
          case first =>
            cases bb with
            | true =>
              have hn2 := hbb rfl
              clear hbb
              have hmod := Int.emod_nonneg (pick / 2) (show (n : Int) ≠ 0 by omega)
              have hmlt := Int.emod_lt_of_pos (pick / 2) (show (0 : Int) < (n : Int) by omega)
              obtain ⟨m, hm⟩ : ∃ m : Nat, pick / 2 % (n : Int) = (m : Int) := ⟨(pick / 2 % (n : Int)).toNat, by omega⟩
              have hml : m < len0 := by omega
              obtain ⟨b, off, rfl, hbw, hkc⟩ := HK.out m hml
              have hkc1 : wr.cell? ⟨b, off + m, none⟩ = some (.int .u64 (ks m)) := (hS.bel.cell (p := ⟨b, off + m, none⟩) hbw).trans hkc
              have hml' : (m : Int) < (len0 : Int) := by omega
              clear hmod hmlt hkc
              go_wp2
              go_meet
              case rel => exact ⟨_, rfl, rfl⟩
            | false =>
              go_wp2
              go_meet
              case rel => exact ⟨_, rfl, rfl⟩
          case rest =>
            obtain ⟨k, rfl, rfl⟩ := hcut
            have hTidy : Tidy l := by rw [hl.out]; exact bld_tidy ks cs n
            have hll : l.length ≤ n := by rw [hl.out]; exact bld_length ks cs n
            clear hl HK HC hmm
            go_wp2_with fail
            obtain ⟨C, hC⟩ : ∃ C, Hid (C = wr.heap.size) := ⟨_, rfl⟩
            obtain ⟨wv, hwv⟩ : ∃ wv, Hid (wv = wr.alloc (.cells #[.int .i32 0, .int .u32 0, .int .u64 com, .pointer none, .int .i32 0, .int .u32 0, .pointer none, .int .u64 com, .map (some w.heap.size)] 38)) := ⟨_, rfl⟩
            rw [← hwv.out, ← hC.out]
            have hC8 : wv.cell? ⟨C, 8, none⟩ = some (.map (some w.heap.size)) := by rw [hwv.out, hC.out, cell_box]; rfl
            have hC7 : wv.cell? ⟨C, 7, none⟩ = some (.int .u64 com) := by rw [hwv.out, hC.out, cell_box]; rfl
            have hC6 : wv.cell? ⟨C, 6, none⟩ = some (.pointer none) := by rw [hwv.out, hC.out, cell_box]; rfl
            have hC3 : wv.cell? ⟨C, 3, none⟩ = some (.pointer none) := by rw [hwv.out, hC.out, cell_box]; rfl
            have hC2 : wv.cell? ⟨C, 2, none⟩ = some (.int .u64 com) := by rw [hwv.out, hC.out, cell_box]; rfl
            have hmv : MapOf wv w.heap.size l := by rw [hwv.out]; exact hS.map.of_block (Below.heap_alloc wr _ _ hS.map.lt)
            have hne : C ≠ w.heap.size := by rw [hC.out]; have := hS.map.lt; omega
            refine (forget_any wv C w.heap.size l k hC8 hne hmv).mono ?_
            rintro e' w2 ⟨rfl, hm2, ht2⟩
            have hL : Late w w2 l k C com u13 u14 := late_of hS hC.out hwv.out hm2 ht2
            have hcc : ∀ o, w2.cell? ⟨C, o, none⟩ = wv.cell? ⟨C, o, none⟩ := fun o => World.cell?_of_block (w := wv) (ht2.block C hne)
            rw [← hcc] at hC2 hC3 hC6 hC7 hC8
            clear hcc hS hC hwv hmv hm2 ht2
            clear wv wr
            go_upto_region 22 with fail
            iterate 7 go_step
            exact late _ _ _ _ _ _ _ _ _ _ _ _ _ _ _ _ _ _ _ _ _ _ _ _ _ _ _ _ _ _ _ _ _ _ _ _ _ _ _ _ _ _ _ _ _ _ _ _ _ _ _ _ _ _ _ _ _ _ _ _ _ _ _ _ _ _ _ _ _ _ _ _ _ _ _ _ _ _ _ _ _ _ _ _ _ _ _ _ _ _ _ _ _ _ _ _ _ _ _ _ _ _ _ _ _ _ _ _ _ _ _ _ _ _ _ _ _ _ _ _ _ _ _ _ _ _ _ _ _ _ _ _ _ _ _ _ _ _ _ _ _ _ _ _ _ _ _ _ _ _ _ _ _ _ _ _ _ _ _ _ _ _ _ _ _ _ _ _ _ _ _ _ _ _ _ _ _ _ _ _ _ _ _ _ _ _ _ _ _ _ _ _ _ _ _ _ _ _ _ _ _ _ _ _ _ _ _ _ _ _ k com _ _ C l w w2 hTidy (by omega) hL hC2 hC3 hC6 hC7 hC8
end Go.Proofs.Ybulkexpko.C
