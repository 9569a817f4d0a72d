/-
  OUR OWN. The walk of the law.
-/
import Derived.Test.YbulkexpqmFmtRows
import Derived.WalkKit
import Derived.WalkSpells
import Derived.Deep.CutBlock
import Derived.Deep.DeepCutAuto
import Derived.Deep.QuietTactic
import Derived.BigQuiet
import Derived.Test.YbulkexpqmFmtCallees
namespace Go.Proofs.YbulkexpqmFmt.C
open Go.RowKit Mem
set_option linter.unusedVariables false

theorem info31 : (Ybaf.prog.info? 31).map (fun i => (i.zero, i.size, i.bytes)) = some (some (.pointer none), 1, 8) := by kernel_rfl
theorem info37 : (Ybaf.prog.info? 37).map (fun i => (i.zero, i.size, i.bytes)) = some (some (.agg #[.nilIface, .nilIface]), 2, 32) := by kernel_rfl

theorem cell_box (w1 : World) (c : Array Value) (t : TypeId) (o : Nat) : (w1.alloc (.cells c t)).cell? ⟨w1.heap.size, o, none⟩ = c[o]? := by
  have h := heap_alloc_new w1 (.cells c t)
  simp only [World.cell?, h]
  simp

/-- The three boxes at the law's head. -/
structure Head (w w3 : World) (kn en : ByteArray) (Kb : Nat) : Prop where
  k : w3.cell? ⟨w.heap.size, 0, none⟩ = some (.string kn)
  e : w3.cell? ⟨w.heap.size + 1, 0, none⟩ = some (.string en)
  t0 : w3.cell? ⟨w.heap.size + 1 + 1, 0, none⟩ = some (.iface 24 (.agg #[.string kn]))
  t1 : w3.cell? ⟨w.heap.size + 1 + 1, 1, none⟩ = some (.iface 24 (.agg #[.string en]))
  size : w3.heap.size = Kb
  kb : Kb = w.heap.size + 3
  bel : Below w.heap.size w w3

theorem head_of (w : World) (kn en : ByteArray) : Head w (((w.alloc (.cells #[.string kn] 24)).alloc (.cells #[.string en] 24)).alloc (.cells #[.iface 24 (.agg #[.string kn]), .iface 24 (.agg #[.string en])] 28)) kn en (w.heap.size + 3) := by
  have e1 : (w.alloc (.cells #[.string kn] 24)).heap.size = w.heap.size + 1 := by simp
  have e2 : ((w.alloc (.cells #[.string kn] 24)).alloc (.cells #[.string en] 24)).heap.size = w.heap.size + 1 + 1 := by simp
  refine ⟨?_, ?_, ?_, ?_, by simp, rfl, (((Below.refl _ _).alloc (Nat.le_refl _) _).alloc (by simp) _).alloc (by simp; omega) _⟩
  · rw [World.cell?_of_block (w := (w.alloc _).alloc _) (Below.heap_alloc _ _ _ (by rw [e2]; simp; omega)), World.cell?_of_block (w := w.alloc _) (Below.heap_alloc _ _ _ (by rw [e1]; simp)), cell_box]; rfl
  · rw [World.cell?_of_block (w := (w.alloc _).alloc _) (Below.heap_alloc _ _ _ (by rw [e2]; simp))]
    have h := cell_box (w.alloc (.cells #[.string kn] 24)) #[.string en] 24 0
    rw [e1] at h
    exact h
  · have h := cell_box ((w.alloc (.cells #[.string kn] 24)).alloc (.cells #[.string en] 24)) #[.iface 24 (.agg #[.string kn]), .iface 24 (.agg #[.string en])] 28 0
    rw [e2] at h
    exact h
  · have h := cell_box ((w.alloc (.cells #[.string kn] 24)).alloc (.cells #[.string en] 24)) #[.iface 24 (.agg #[.string kn]), .iface 24 (.agg #[.string en])] 28 1
    rw [e2] at h
    exact h

theorem Head.later {w w3 w' : World} {kn en : ByteArray} {Kb : Nat} (h : Head w w3 kn en Kb) (hb : Below Kb w3 w') :
    w'.cell? ⟨w.heap.size, 0, none⟩ = some (.string kn) ∧ w'.cell? ⟨w.heap.size + 1, 0, none⟩ = some (.string en) ∧ w'.cell? ⟨w.heap.size + 1 + 1, 0, none⟩ = some (.iface 24 (.agg #[.string kn])) ∧ w'.cell? ⟨w.heap.size + 1 + 1, 1, none⟩ = some (.iface 24 (.agg #[.string en])) ∧ Below w.heap.size w w' := by
  have hk := h.kb
  refine ⟨(hb.cell (p := ⟨_, 0, none⟩) (by show w.heap.size < Kb; omega)).trans h.k, (hb.cell (p := ⟨_, 0, none⟩) (by show w.heap.size + 1 < Kb; omega)).trans h.e, (hb.cell (p := ⟨_, 0, none⟩) (by show w.heap.size + 1 + 1 < Kb; omega)).trans h.t0, (hb.cell (p := ⟨_, 1, none⟩) (by show w.heap.size + 1 + 1 < Kb; omega)).trans h.t1, h.bel.trans (hb.mono (by omega))⟩

theorem st_zero {w3 wr : World} {N Kb : Nat} {ks : Nat → Int} {kp vp : Nat → Nat} (hk : CB wr Kb N 31 (fun _ => .pointer none)) (hv : CB wr (Kb + 1) N 31 (fun _ => .pointer none)) (he : CB wr (Kb + 2) (N * 2) 37 (fun _ => .nilIface)) (hb : Below Kb w3 wr) : St w3 wr N Kb 0 kp vp ks :=
  ⟨hk.congr fun i hi => by simp [gp], hv.congr fun i hi => by simp [gp], he.congr fun i hi => by simp [ge], fun i hi => by omega, fun i hi => by omega, hb⟩

theorem st_below {w3 wr wd : World} {N Kb t : Nat} {kp vp : Nat → Nat} {ks : Nat → Int} (h : St w3 wr N Kb t kp vp ks) (hb : Below wr.heap.size wr wd) (hk : Kb ≤ wr.heap.size) : St w3 wd N Kb t kp vp ks :=
  ⟨h.k.below hb h.k.lt, h.v.below hb h.v.lt, h.e.below hb h.e.lt, fun i hi => ⟨(h.kb i hi).1.below hb (h.kb i hi).1.lt, (h.kb i hi).2⟩, fun i hi => ⟨(h.vb i hi).1.below hb (h.vb i hi).1.lt, (h.vb i hi).2⟩, h.bel.trans (hb.mono hk)⟩

/-- What the second half finds. -/
structure Late (w w3 w8 : World) (kn en : ByteArray) (eo : Option Addr) (N Kb D : Nat) (kp vp : Nat → Nat) (ks : Nat → Int) : Prop where
  d : w8.cell? ⟨D, 0, none⟩ = some (.iface 24 (.agg #[.string kn])) ∧ w8.cell? ⟨D, 1, none⟩ = some (.iface 24 (.agg #[.string en])) ∧ w8.cell? ⟨D, 2, none⟩ = some (.slice eo N N)
  q : w8.cell? ⟨w.heap.size, 0, none⟩ = some (.string kn) ∧ w8.cell? ⟨w.heap.size + 1, 0, none⟩ = some (.string en)
  bel : Below w.heap.size w w8
  s : 0 < N → St w3 w8 N Kb N kp vp ks

theorem late_of {w w3 wr wd : World} {kn en : ByteArray} {eo : Option Addr} {N Kb : Nat} {kp vp : Nat → Nat} {ks : Nat → Int} (hH : Head w w3 kn en Kb) (hb : Below Kb w3 wr) (hS : 0 < N → St w3 wr N Kb N kp vp ks) (hbd : Below wr.heap.size wr wd) :
    Late w w3 (wd.alloc (.cells #[.iface 24 (.agg #[.string kn]), .iface 24 (.agg #[.string en]), .slice eo N N] 39)) kn en eo N Kb wd.heap.size kp vp ks := by
  have hz : Kb ≤ wr.heap.size := by have := hb.size; have := hH.size; omega
  have hb8 : Below wr.heap.size wr (wd.alloc (.cells #[.iface 24 (.agg #[.string kn]), .iface 24 (.agg #[.string en]), .slice eo N N] 39)) := hbd.alloc hbd.size _
  obtain ⟨q0, q1, q2, q3, q4⟩ := hH.later (hb.trans (hb8.mono hz))
  exact ⟨⟨cell_box _ _ _ 0, cell_box _ _ _ 1, cell_box _ _ _ 2⟩, ⟨q0, q1⟩, q4, fun h => st_below (hS h) hb8 hz⟩

theorem Late.at {w w3 w8 : World} {kn en : ByteArray} {eo : Option Addr} {N Kb D : Nat} {kp vp : Nat → Nat} {ks : Nat → Int} (h : Late w w3 w8 kn en eo N Kb D kp vp ks) {t : Nat} (ht : t < N) :
    w8.cell? ⟨Kb + 2, t * 2, none⟩ = some (.iface 31 (.pointer (some ⟨kp t, 0, none⟩))) ∧ w8.cell? ⟨Kb + 2, t * 2 + 1, none⟩ = some (.iface 31 (.pointer (some ⟨vp t, 0, none⟩))) ∧
    w8.cell? ⟨Kb, t, none⟩ = some (.pointer (some ⟨kp t, 0, none⟩)) ∧ w8.cell? ⟨Kb + 1, t, none⟩ = some (.pointer (some ⟨vp t, 0, none⟩)) ∧
    w8.cell? ⟨kp t, 0, none⟩ = some (.int .i64 (ks t)) ∧ w8.cell? ⟨vp t, 0, none⟩ = some (.int .i64 (wrap64 (ks t + 1))) := by
  have s := h.s (by omega)
  refine ⟨(s.e.cell (i := t * 2) (by omega)).trans ?_, (s.e.cell (i := t * 2 + 1) (by omega)).trans ?_, (s.k.cell ht).trans ?_, (s.v.cell ht).trans ?_, (s.kb t ht).1.cell (by omega), (s.vb t ht).1.cell (by omega)⟩
  · simp [ge, ifc, show t * 2 < N * 2 by omega, show (t * 2) % 2 = 0 by omega, show t * 2 / 2 = t by omega]
  · simp [ge, ifc, show t * 2 + 1 < N * 2 by omega, show (t * 2 + 1) % 2 = 1 by omega, show (t * 2 + 1) / 2 = t by omega]
  · simp [gp, ptr, ht]
  · simp [gp, ptr, ht]

theorem cell_dr (w : World) (n : Nat) (a : Addr) : (w.drewN n).cell? a = w.cell? a := rfl

set_option maxRecDepth 1000000 in
set_option maxHeartbeats 8000000 in
theorem walk (kn en : ByteArray) (a2 : Option Addr) (N cap2 : Nat) (ne : Bool) (w : World) (hN : N ≤ 1048576) (ks : Nat → Int)
    (hk : ∀ i, i < N → ∃ b off, a2 = some ⟨b, off, none⟩ ∧ b < w.heap.size ∧ w.cell? ⟨b, off + i, none⟩ = some (.int .i64 (ks i))) :
    Calls Ybaf.prog 3 #[.string kn, .string en, .slice a2 N cap2, .bool ne] w fun e' w' => e' = .returned (.bool true) ∧ Below w.heap.size w w' := by
  obtain ⟨i31, hi31, hz31, hs31, hb31⟩ := info_parts info31
  obtain ⟨i37, hi37, hz37, hs37, hb37⟩ := info_parts info37
  have HK : Hid (∀ i, i < N → ∃ b off, a2 = some ⟨b, off, none⟩ ∧ b < w.heap.size ∧ w.cell? ⟨b, off + i, none⟩ = some (.int .i64 (ks i))) := hk
  clear hk
  go_enter Ybaf.func3, Ybaf.ntmps3
  go_upto_region 7 with fail
  have hH := head_of w kn en
  obtain ⟨w3, hw3⟩ : ∃ w3, Hid (w3 = ((w.alloc (.cells #[.string kn] 24)).alloc (.cells #[.string en] 24)).alloc (.cells #[.iface 24 (.agg #[.string kn]), .iface 24 (.agg #[.string en])] 28)) := ⟨_, rfl⟩
  obtain ⟨Kb, hKb⟩ : ∃ Kb, Hid (Kb = w.heap.size + 3) := ⟨_, rfl⟩
  rw [← hw3.out, ← hKb.out] at hH
  rw [← hw3.out]
  clear hw3
  have hsz3 : w3.heap.size = Kb := hH.size
  go_wp2_with (at_make; refine wpList_make_w _ rfl (.tmp 33) (.tmp 33) 29 rfl 31 i31 _ 1 Ybaf.underlying29 hi31 hz31 hs31 .i64 .i64 _ _ N rfl rfl (by omega) (by omega) (by rw [hb31]; omega) (by omega) ?_)
  intro w4 hw4
  have hk4 : CB w4 Kb N 31 (fun _ => .pointer none) := by rw [hw4.out, ← hsz3]; exact made1 _ N w3 31
  have hb4 : Below Kb w3 w4 := by rw [hw4.out, ← hsz3]; exact (Below.refl _ _).alloc (Nat.le_refl _) _
  have hsz4 : w4.heap.size = Kb + 1 := by rw [hw4.out, ← hsz3]; simp
  clear hw4
  go_wp2_with (at_make; refine wpList_make_w _ rfl (.tmp 35) (.tmp 35) 29 rfl 31 i31 _ 1 Ybaf.underlying29 hi31 hz31 hs31 .i64 .i64 _ _ N rfl rfl (by omega) (by omega) (by rw [hb31]; omega) (by omega) ?_)
  intro w5 hw5
  have hk5 : CB w5 Kb N 31 (fun _ => .pointer none) := by rw [hw5.out]; exact hk4.alloc _
  have hv5 : CB w5 (Kb + 1) N 31 (fun _ => .pointer none) := by rw [hw5.out, ← hsz4]; exact made1 _ N w4 31
  have hb5 : Below Kb w3 w5 := by rw [hw5.out]; exact hb4.alloc (by omega) _
  have hsz5 : w5.heap.size = Kb + 2 := by rw [hw5.out]; simp; omega
  clear hw5 hk4 hb4 hsz4
  go_upto_region 10 with fail
  go_cut [42] (fun b wc => ∃ bb : Bool, b = .bool bb ∧ (0 < N → bb = true) ∧ w5 = wc)
  case first =>
    by_cases h0 : 0 < N
    · have h0' : ((N : Int) == 0) = false := by simp; omega
      go_wp2
      go_meet
      case rel => exact ⟨_, rfl, fun _ => rfl, rfl⟩
    · obtain rfl : N = 0 := by omega
      go_wp2
      go_meet
      case rel => exact ⟨_, rfl, fun h => by omega, rfl⟩
  case rest =>
    obtain ⟨bb, rfl, hbb, rfl⟩ := hcut
    go_upto_if 42 with fail
    go_cut [15] (fun v wc => ∃ eo, v = .slice eo N N ∧ Below Kb w3 wc ∧ (0 < N → eo = some ⟨Kb + 2, 0, none⟩ ∧ St w3 wc N Kb 0 (fun _ => 0) (fun _ => 0) ks))
    case first =>
      cases bb with
      | true =>
        go_wp2_with (at_make; refine wpList_make_w _ rfl (.tmp 43) (.tmp 43) 30 rfl 37 i37 _ 2 Ybaf.underlying30 hi37 hz37 hs37 .i64 .i64 _ _ N rfl rfl (by omega) (by omega) (by rw [hb37]; omega) (by omega) ?_)
        intro w6 hw6
        have hb6 : Below Kb w3 w6 := by rw [hw6.out]; exact hb5.alloc (by omega) _
        have hS6 : St w3 w6 N Kb 0 (fun _ => 0) (fun _ => 0) ks := by
          refine st_zero ?_ ?_ ?_ hb6
          · rw [hw6.out]; exact hk5.alloc _
          · rw [hw6.out]; exact hv5.alloc _
          · rw [hw6.out, ← hsz5]; exact made2 _ N w5 37
        clear hw6
        go_wp2
        go_meet
        case rel => exact ⟨_, rfl, hb6, fun _ => ⟨rfl, hS6⟩⟩
      | false =>
        have hN0 : N = 0 := by
          rcases Nat.eq_zero_or_pos N with h | h
          · exact h
          · have := hbb h; cases this
        subst hN0
        go_wp2
        go_meet
        case rel => exact ⟨none, rfl, hb5, fun h => by omega⟩
    case rest =>
      clear hk5 hv5 hb5 hsz5
      clear w5 w4
      obtain ⟨eo, rfl, hbel, hS⟩ := hcut
      have HEO : Hid (0 < N → eo = some ⟨Kb + 2, 0, none⟩) := fun h => (hS h).1
      have hS0 : 0 < N → St w3 wc N Kb 0 (fun _ => 0) (fun _ => 0) ks := fun h => (hS h).2
      clear hS
      go_wp2
      go_loopw [16] (fun i wr => ∃ (t : Nat) (kp vp : Nat → Nat), t ≤ N ∧ i = .int .i64 t ∧ Below Kb w3 wr ∧ (0 < N → St w3 wr N Kb t kp vp ks)) (fun i _ => N - (intOf i).toNat)
      case atStart => exact ⟨0, fun _ => 0, fun _ => 0, Nat.zero_le _, rfl, hbel, hS0⟩
      case round =>
        clear hS0 hbel
        clear wc
        obtain ⟨t, kp, vp, ht, rfl, hbel, hS⟩ := hrel
        by_cases hlt : t < N
        · have hS1 := hS (by omega)
          obtain rfl := HEO.out (by omega)
          obtain ⟨b, off, rfl, hbw, hkc⟩ := HK.out t hlt
          have hbw' := (hH.later hbel).2.2.2.2
          have hkc1 : wr.cell? ⟨b, off + t, none⟩ = some (.int .i64 (ks t)) := (hbw'.cell (p := ⟨b, off + t, none⟩) hbw).trans hkc
          have hck := hS1.k.cell hlt
          simp only [gp, Nat.lt_irrefl, if_false] at hck
          have hfk := hS1.k.frozen t
          have hlk := hS1.k.lt
          have hlt' : (t : Int) < (N : Int) := by omega
          clear hS
          go_upto_region 16 with fail
          obtain ⟨w1, hw1⟩ : ∃ w1, Hid (w1 = (wr.setCell ⟨Kb, t, none⟩ (.pointer (some ⟨wr.heap.size, 0, none⟩))).alloc (.cells #[.int .i64 (ks t)] 33)) := ⟨_, rfl⟩
          have h1 : w1 = (wr.alloc (.cells #[.int .i64 (ks t)] 33)).setCell ⟨Kb, t, none⟩ (ptr wr.heap.size) := by rw [hw1.out, World.setCell_alloc_past _ _ _ _ hlk]; rfl
          rw [← hw1.out]
          obtain ⟨bk, hbk⟩ : ∃ bk, Hid (bk = wr.heap.size) := ⟨_, rfl⟩
          have hg1 : ∀ j, j < wr.heap.size → j ≠ Kb → w1.heap[j]? = wr.heap[j]? := fun j hj hne => by rw [h1, Below.heap_setCell _ _ _ _ hne]; exact Below.heap_alloc wr _ j hj
          have hz1 : w1.heap.size = wr.heap.size + 1 := by rw [h1]; simp
          have hkk := hH.kb
          have hlv := hS1.v.lt
          have hle := hS1.e.lt
          have hkc2 : w1.cell? ⟨b, off + t, none⟩ = some (.int .i64 (ks t)) := (World.cell?_of_block (w := wr) (hg1 b (by omega) (by omega))).trans hkc1
          have hcv : w1.cell? ⟨Kb + 1, t, none⟩ = some (.pointer none) := by
            rw [World.cell?_of_block (w := wr) (hg1 (Kb + 1) hlv (by omega)), hS1.v.cell hlt]; simp [gp]
          have hfv : w1.frozen? ⟨Kb + 1, t, none⟩ = false := by rw [World.frozen?_of_block (w := wr) (hg1 (Kb + 1) hlv (by omega))]; exact hS1.v.frozen t
          have hlv1 : Kb + 1 < w1.heap.size := by omega
          have H1 : Hid (w1 = (wr.alloc (.cells #[.int .i64 (ks t)] 33)).setCell ⟨Kb, t, none⟩ (ptr wr.heap.size)) := h1
          have Hg1 : Hid (∀ j, j < wr.heap.size → j ≠ Kb → w1.heap[j]? = wr.heap[j]?) := hg1
          have Hz1 : Hid (w1.heap.size = wr.heap.size + 1) := hz1
          have Hkk : Hid (Kb = w.heap.size + 3) := hkk
          clear hw1 h1 hg1 hkc1 hck hfk hz1 hkk
          go_upto_region 17 with fail
          obtain ⟨w2, hw2⟩ : ∃ w2, Hid (w2 = (w1.setCell ⟨Kb + 1, t, none⟩ (.pointer (some ⟨w1.heap.size, 0, none⟩))).alloc (.cells #[.int .i64 (wrap64 (ks t + 1))] 33)) := ⟨_, rfl⟩
          have h2 : w2 = (w1.alloc (.cells #[.int .i64 (wrap64 (ks t + 1))] 33)).setCell ⟨Kb + 1, t, none⟩ (ptr w1.heap.size) := by rw [hw2.out, World.setCell_alloc_past _ _ _ _ hlv1]; rfl
          rw [← hw2.out]
          have hg2 : ∀ j, j < w1.heap.size → j ≠ Kb + 1 → w2.heap[j]? = w1.heap[j]? := fun j hj hne => by rw [h2, Below.heap_setCell _ _ _ _ hne]; exact Below.heap_alloc w1 _ j hj
          have hck2 : w2.cell? ⟨Kb, t, none⟩ = some (.pointer (some ⟨wr.heap.size, 0, none⟩)) := by
            rw [World.cell?_of_block (w := w1) (hg2 Kb (by omega) (by omega)), H1.out, ((hS1.k.alloc _).set hlt _).cell hlt]
            simp [ptr]
          have hcv2 : w2.cell? ⟨Kb + 1, t, none⟩ = some (.pointer (some ⟨w1.heap.size, 0, none⟩)) := by
            rw [h2, (((hS1.v.of_block (Hg1.out _ hlv (by omega))).alloc _).set hlt _).cell hlt]
            simp [ptr]
          have he2 : CB w2 (Kb + 2) (N * 2) 37 (ge kp vp t) := (hS1.e.of_block (Hg1.out _ hle (by omega))).of_block (hg2 _ (by have := Hz1.out; omega) (by omega))
          have hce0 := he2.cell (i := t * 2) (by omega)
          have hce1 := he2.cell (i := t * 2 + 1) (by omega)
          simp only [ge, Nat.lt_irrefl, if_false] at hce0
          rw [show ge kp vp t (t * 2 + 1) = .nilIface by simp [ge, show ¬ t * 2 + 1 < t * 2 by omega]] at hce1
          have hfe0 := he2.frozen (t * 2)
          have hfe1 := he2.frozen (t * 2 + 1)
          have hS2 := hS1.step hlt (n := 1) H1.out h2
          obtain ⟨bv, hbv⟩ : ∃ bv, Hid (bv = w1.heap.size) := ⟨_, rfl⟩
          rw [← hbk.out] at hck2 hS2 ⊢
          rw [← hbv.out] at hcv2 hS2 ⊢
          have HS2 : Hid (St w3 (((w2.drewN 1).setCell ⟨Kb + 2, t * 2, none⟩ (ifc bk)).setCell ⟨Kb + 2, t * 2 + 1, none⟩ (ifc bv)) N Kb (t + 1) (upd kp t bk) (upd vp t bv) ks) := hS2
          clear hw2 h2 hg2 he2 hS2 hkc2 hcv hfv
          go_region
          all_goals
            go_wp2
            go_roundw
            case rel => exact ⟨t + 1, _, _, by omega, by go_num, HS2.out.bel, fun _ => HS2.out⟩
            case measure => simp [intOf]; omega
        · obtain rfl : N = t := by omega
          obtain ⟨q0, q1, q2, q3, q4⟩ := hH.later hbel
          have hE : Ents wr eo N kp vp := fun i hi => by
            obtain rfl := HEO.out (by omega)
            have hS1 := hS (by omega)
            refine ⟨Kb + 2, rfl, hS1.e.lt, (hS1.e.cell (i := i * 2) (by omega)).trans ?_, (hS1.e.cell (i := i * 2 + 1) (by omega)).trans ?_⟩
            · simp [ge, show i * 2 < N * 2 by omega, show (i * 2) % 2 = 0 by omega, show i * 2 / 2 = i by omega]
            · simp [ge, show i * 2 + 1 < N * 2 by omega, show (i * 2 + 1) % 2 = 1 by omega, show (i * 2 + 1) / 2 = i by omega]
          have HS : Hid (0 < N → St w3 wr N Kb N kp vp ks) := hS
          have HE : Hid (Ents wr eo N kp vp) := hE
          clear hS hE
          go_upto_region 19 with (go_at_call 4; refine (dict_any wr kn en eo N kp vp hN HE.out).mono ?_; rintro e' wd ⟨rfl, hbd⟩)
          obtain ⟨D, hD⟩ : ∃ D, Hid (D = wd.heap.size) := ⟨_, rfl⟩
          obtain ⟨w8, hw8⟩ : ∃ w8, Hid (w8 = wd.alloc (.cells #[.iface 24 (.agg #[.string kn]), .iface 24 (.agg #[.string en]), .slice eo N N] 39)) := ⟨_, rfl⟩
          have hL := late_of (eo := eo) hH hbel HS.out hbd
          rw [← hw8.out, ← hD.out] at hL
          rw [← hw8.out, ← hD.out]
          clear hw8 hD hbd HS HE hbel q0 q1 q2 q3 q4
          clear wd wr
          obtain ⟨d0, d1, d2⟩ := hL.d
          obtain ⟨q0, q1⟩ := hL.q
          have n26 := ne_typ
          have e30 : ∀ w', (binOp .eql 30 (.slice eo N N) (.slice none 0 0)).run Ybaf.prog w' = .ok (.bool eo.isNone) w' := fun w' => Lib.run_eql_slice_nil w' _ _ _ _ _ _ _ Ybaf.underlying30
          go_upto_region 25 with fail
          go_cut [128] (fun v wc => v = .bool false ∧ ∃ n, Hid (wc = w8.drewN n))
          case first =>
            by_cases h0 : 0 < N
            · obtain rfl := HEO.out h0
              have h0' : (0 : Int) < (N : Int) := by omega
              have n41 := ne_ptr
              go_quiet (fail)
              go_wp2
              go_meet
              case rel => exact ⟨rfl, _, rfl⟩
            · obtain rfl : N = 0 := by omega
              go_quiet (fail)
              go_wp2
              go_meet
              case rel => exact ⟨rfl, _, rfl⟩
          case rest =>
            obtain ⟨rfl, n0, hwc⟩ := hcut
            clear d0 d1 d2 q0 q1 n26 e30
            go_wp2
            go_loopw [18] (fun i wr => ∃ t nn : Nat, t ≤ N ∧ i = .int .i64 t ∧ wr = w8.drewN nn) (fun i _ => N - (intOf i).toNat)
            case atStart => exact ⟨0, n0, Nat.zero_le _, rfl, hwc.out⟩
            case round =>
              clear hwc
              clear wc
              obtain ⟨t, nn, ht, rfl, hwr0⟩ := hrel
              have hwr : Hid (wr = w8.drewN nn) := hwr0
              by_cases hlt : t < N
              · obtain rfl := HEO.out (by omega)
                obtain ⟨b, off, rfl, hbw, hkc⟩ := HK.out t hlt
                have hkc1 : w8.cell? ⟨b, off + t, none⟩ = some (.int .i64 (ks t)) := (hL.bel.cell (p := ⟨b, off + t, none⟩) hbw).trans hkc
                obtain ⟨g0, g1, g2, g3, g4, g5⟩ := hL.at hlt
                rw [← cell_dr w8 nn, ← hwr0] at g0 g1 g2 g3 g4 g5 hkc1
                clear hwr0 hkc
                have hlt' : (t : Int) < (N : Int) := by omega
                have n35 : ∀ (w : World) (b : Nat), (binOp .neq 35 (.iface 31 (.pointer (some ⟨b, 0, none⟩))) (.iface 31 (.pointer (some ⟨b, 0, none⟩)))).run Ybaf.prog w = .ok (.bool false) w := ne_val
                go_wp2_with fail
                go_quiet (fail)
                go_wp2_with fail
                obtain ⟨wx, hwx⟩ : ∃ wx, Hid (wx = wr.drewN nq) := ⟨_, rfl⟩
                rw [← cell_dr wr nq, ← hwx.out] at g2 g3 g4 g5 hkc1
                rw [← hwx.out]
                go_quiet (fail)
                go_wp2
                go_roundw
                case rel => exact ⟨t + 1, _, by omega, by go_num, by rw [hwx.out, hwr.out, World.drewN_drewN, World.drewN_drewN]⟩
                case measure => simp [intOf]; omega
              · obtain rfl : N = t := by omega
                clear hwr0
                go_wp2
                go_ret
                have hb := hL.bel
                exact ⟨rfl, by rw [hwr.out]; exact ⟨hb.os, hb.tape, hb.output, hb.size, hb.block⟩⟩
end Go.Proofs.YbulkexpqmFmt.C
