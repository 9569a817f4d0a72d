/-
  OUR OWN. The walk of the law.
-/
import Derived.Test.YbulkexppkRows
import Derived.WalkKit
import Derived.WalkSpells
import Derived.Deep.CutBlock
import Derived.Deep.DeepCutAuto
import Derived.Deep.QuietTactic
import Derived.BigQuiet
import Derived.Test.YbulkexppkCallees
namespace Go.Proofs.Ybulkexppk.C
open Go.RowKit Mem
set_option linter.unusedVariables false

theorem info26 : (Yba.prog.info? 26).map (fun i => (i.zero, i.size, i.bytes)) = some (some (.agg zeroT.cs.toArray), 5, 48) := by kernel_rfl

/-- Token i of the slice that came in. -/
def ArgTok (w : World) (a : Option Addr) (i : Nat) (x : Tok) : Prop :=
  ∃ b off, a = some ⟨b, off, none⟩ ∧ b < w.heap.size ∧ w.cell? ⟨b, off + i * 5, none⟩ = some (.string x.t) ∧ w.cell? ⟨b, off + i * 5 + 1, none⟩ = some (.string x.n) ∧ w.cell? ⟨b, off + i * 5 + 2, none⟩ = some (.int .i64 x.p) ∧ w.cell? ⟨b, off + i * 5 + 3, none⟩ = some (.int .u8 x.k) ∧ w.cell? ⟨b, off + i * 5 + 4, none⟩ = some (.bool x.q)

/-- What the checks read. -/
structure Fin2 (w wc : World) (N : Nat) (f : Nat → Tok) (Kb C G W m : Nat) (std : Bool) (prm : Int) : Prop where
  s : TC wc w.heap.size N (gOf f)
  k : TC wc Kb N (gOf f)
  c0 : wc.cell? ⟨C, 0, none⟩ = some (.slice (some ⟨w.heap.size, 0, none⟩) N N)
  c1 : wc.cell? ⟨C, 1, none⟩ = some (.int .i64 (m : Int))
  c2 : wc.cell? ⟨C, 2, none⟩ = some (.bool std)
  c3 : wc.cell? ⟨C, 3, none⟩ = some (.int .i64 prm)
  same : ∃ x, TC wc G 1 (gOf fun _ => x) ∧ TC wc W 1 (gOf fun _ => x)
  bel : Below w.heap.size w wc

theorem cell_box (w1 : World) (c : Array Value) (t : TypeId) (o : Nat) : (w1.alloc (.cells c t)).cell? ⟨w1.heap.size, o, none⟩ = c[o]? := by
  have h := heap_alloc_new w1 (.cells c t)
  simp only [World.cell?, h]
  simp

/-- The two tokens' boxes, ahead of the last store. -/
structure Pre2 (w wc : World) (N : Nat) (f : Nat → Tok) (Kb C G W m : Nat) (std : Bool) (prm : Int) (x : Tok) : Prop where
  s : TC wc w.heap.size N (gOf f)
  k : TC wc Kb N (gOf f)
  c0 : wc.cell? ⟨C, 0, none⟩ = some (.slice (some ⟨w.heap.size, 0, none⟩) N N)
  c1 : wc.cell? ⟨C, 1, none⟩ = some (.int .i64 (m : Int))
  c2 : wc.cell? ⟨C, 2, none⟩ = some (.bool std)
  c3 : wc.cell? ⟨C, 3, none⟩ = some (.int .i64 prm)
  g : TC wc G 1 (gOf fun _ => x)
  z : TC wc W 1 (gOf fun _ => zeroT)
  bel : Below w.heap.size w wc
  lts : w.heap.size < W
  ltk : Kb < W
  ltc : C < W
  ltg : G < W

theorem Pre2.below {w wc w' : World} {N : Nat} {f : Nat → Tok} {Kb C G W m : Nat} {std : Bool} {prm : Int} {x : Tok} (h : Pre2 w wc N f Kb C G W m std prm x) (hb : Below wc.heap.size wc w') : Pre2 w w' N f Kb C G W m std prm x := by
  have hW := h.z.lt
  have hc : ∀ o, w'.cell? ⟨C, o, none⟩ = wc.cell? ⟨C, o, none⟩ := fun o => hb.cell (p := ⟨C, o, none⟩) (by have := h.ltc; show C < _; omega)
  exact ⟨h.s.below hb h.s.lt, h.k.below hb h.k.lt, (hc 0).trans h.c0, (hc 1).trans h.c1, (hc 2).trans h.c2, (hc 3).trans h.c3, h.g.below hb h.g.lt, h.z.below hb h.z.lt, h.bel.trans (hb.mono (by have := h.lts; omega)), h.lts, h.ltk, h.ltc, h.ltg⟩

theorem Pre2.fin {w wc : World} {N : Nat} {f : Nat → Tok} {Kb C G W m : Nat} {std : Bool} {prm : Int} {x : Tok} (h : Pre2 w wc N f Kb C G W m std prm x) : Fin2 w (put5 wc W 0 x) N f Kb C G W m std prm := by
  have h1 := h.lts
  have h2 := h.ltk
  have h3 := h.ltc
  have h4 := h.ltg
  have hc : ∀ o, (put5 wc W 0 x).cell? ⟨C, o, none⟩ = wc.cell? ⟨C, o, none⟩ := fun o => World.cell?_of_block (w := wc) (put5_other wc W 0 x C (by omega))
  exact ⟨h.s.of_block (put5_other wc W 0 x _ (by omega)), h.k.of_block (put5_other wc W 0 x _ (by omega)), (hc 0).trans h.c0, (hc 1).trans h.c1, (hc 2).trans h.c2, (hc 3).trans h.c3,
    ⟨x, h.g.of_block (put5_other wc W 0 x _ (by omega)), one_congr (h.z.put (k := 0) (by omega) x) (by simp)⟩, put5_below h.bel (by omega) 0 x⟩

theorem cell_dr (w : World) (n : Nat) (a : Addr) : (w.drewN n).cell? a = w.cell? a := rfl

theorem TC.tok0 {w : World} {b : Nat} {x : Tok} (h : TC w b 1 (gOf fun _ => x)) :
    w.cell? ⟨b, 0, none⟩ = some (.string x.t) ∧ w.cell? ⟨b, 1, none⟩ = some (.string x.n) ∧ w.cell? ⟨b, 2, none⟩ = some (.int .i64 x.p) ∧ w.cell? ⟨b, 3, none⟩ = some (.int .u8 x.k) ∧ w.cell? ⟨b, 4, none⟩ = some (.bool x.q) := by
  have := h.tok (k := 0) (by omega)
  simpa using this

set_option maxRecDepth 1000000 in
set_option maxHeartbeats 8000000 in
theorem walk (a0 : Option Addr) (N cap0 : Nat) (i0 : Int) (std : Bool) (prm : Int) (w : World) (hN : N ≤ 1048576) (hi0 : -9223372036854775808 ≤ i0) (hi1 : i0 ≤ 9223372036854775807) (f : Nat → Tok) (hk : ∀ i, i < N → ArgTok w a0 i (f i)) :
    Calls Yba.prog 3 #[.slice a0 N cap0, .int .i64 i0, .bool std, .int .i64 prm] w fun e' w' => e' = .returned (.bool true) ∧ Below w.heap.size w w' := by
  obtain ⟨i26, hi26, hz26, hs26, hb26⟩ := info_parts info26
  have HK : Hid (∀ i, i < N → ArgTok w a0 i (f i)) := hk
  clear hk
  go_enter Yba.func3, Yba.ntmps3
  go_upto_if 20 with fail
  go_cut [1] (fun x wc => ∃ m : Nat, x = .int .i64 (m : Int) ∧ m ≤ 9223372036854775807 ∧ w = wc)
  case first =>
    by_cases h : i0 < 0
    · go_wp2
      go_meet
      case rel => exact ⟨(-(i0 + 1)).toNat, by go_num, by omega, rfl⟩
    · go_wp2
      go_meet
      case rel => exact ⟨i0.toNat, by go_num, by omega, rfl⟩
  case rest =>
    obtain ⟨m, rfl, hm, rfl⟩ := hcut
    go_wp2_with (at_make; refine wpList_make_w _ rfl (.tmp 25) (.tmp 25) 23 rfl 26 i26 _ 5 Yba.underlying23 hi26 hz26 hs26 .i64 .i64 _ _ N rfl rfl (by omega) (by omega) (by rw [hb26]; omega) (by omega) ?_)
    intro w1 hw1
    have hT1 : TC w1 w.heap.size N (gOf fun _ => zeroT) := by rw [hw1.out]; exact TC.made w N
    have hbel : Below w.heap.size w w1 := by rw [hw1.out]; exact (Below.refl _ _).alloc (Nat.le_refl _) _
    clear hw1
    go_wp2
    go_loopw [10] (fun i wr => ∃ t : Nat, t ≤ N ∧ i = .int .i64 t ∧ TC wr w.heap.size N (gOf fun j => if j < t then f j else zeroT) ∧ Below w.heap.size w wr) (fun i _ => N - (intOf i).toNat)
    case atStart => exact ⟨0, Nat.zero_le _, rfl, by simpa using hT1, hbel⟩
    case round =>
      clear hT1 hbel
      clear w1
      obtain ⟨t, ht, rfl, hT, hbel⟩ := hrel
      by_cases hlt : t < N
      · obtain ⟨b, off, rfl, hbw, c0, c1, c2, c3, c4⟩ := HK.out t hlt
        rw [← hbel.cell (p := ⟨b, _, none⟩) hbw] at c0 c1 c2 c3 c4
        obtain ⟨d0, d1, d2, d3, d4⟩ := hT.tok hlt
        have hlt' : (t : Int) < (N : Int) := by omega
        go_wp2_with (go_at_call 4; refine (tok_any (f t) _).mono ?_; rintro e' w2 ⟨rfl, hb2⟩; have hT2 := hT.below hb2 hT.lt; obtain ⟨d0, d1, d2, d3, d4⟩ := hT2.tok hlt; have e0 := hT2.frozen (t * 5); have e1 := hT2.frozen (t * 5 + 1); have e2 := hT2.frozen (t * 5 + 2); have e3 := hT2.frozen (t * 5 + 3); have e4 := hT2.frozen (t * 5 + 4))
        go_roundw
        case rel => exact ⟨t + 1, by omega, by go_num, hT2.step hlt, put5_below (hbel.trans (hb2.mono hbel.size)) (Nat.le_refl _) t (f t)⟩
        case measure => simp [intOf]; omega
      · obtain rfl : N = t := by omega
        have hS : TC wr w.heap.size N (gOf f) := hT.congr fun i hi => by
          have : i / 5 < N := by omega
          simp [gOf, this]
        clear hT hlt ht
        go_wp2_with (at_make; refine wpList_make_w _ rfl (.tmp 42) (.tmp 42) 23 rfl 26 i26 _ 5 Yba.underlying23 hi26 hz26 hs26 .i64 .i64 _ _ N rfl rfl (by omega) (by omega) (by rw [hb26]; omega) (by omega) ?_)
        intro w2 hw2
        obtain ⟨Kb, hKb⟩ : ∃ Kb, Hid (Kb = wr.heap.size) := ⟨_, rfl⟩
        rw [← hKb.out]
        have hS2 : TC w2 w.heap.size N (gOf f) := by rw [hw2.out]; exact hS.alloc _
        have hK2 : TC w2 Kb N (gOf fun _ => zeroT) := by rw [hw2.out, hKb.out]; exact TC.made wr N
        have hbel2 : Below w.heap.size w w2 := by rw [hw2.out]; exact hbel.alloc hbel.size _
        have hKlt : w.heap.size < Kb := by rw [hKb.out]; exact hS.lt
        obtain ⟨w3, hrun, hK3, hz3, ho3, hos3, htp3, hou3⟩ := run_copyT (P := Yba.prog) 23 3 i26 Yba.underlying23 hi26 hs26 hK2 hS2
        have hS3 : TC w3 w.heap.size N (gOf f) := hS2.of_block (ho3 _ (by omega))
        have hbel3 : Below w.heap.size w w3 := hbel2.trans ⟨hos3, htp3, hou3, by omega, fun j hj => ho3 j (by omega)⟩
        clear hw2 hS hKb hbel hS2 hK2 hbel2 hz3 ho3 hos3 htp3 hou3
        go_wp2_with fail
        obtain ⟨C, hC⟩ : ∃ C, Hid (C = w3.heap.size) := ⟨_, rfl⟩
        obtain ⟨wv, hwv⟩ : ∃ wv, Hid (wv = w3.alloc (.cells #[.slice (some ⟨w.heap.size, 0, none⟩) N N, .int .i64 (m : Int), .bool std, .int .i64 prm] 32)) := ⟨_, rfl⟩
        rw [← hwv.out, ← hC.out]
        have hC0 : wv.cell? ⟨C, 0, none⟩ = some (.slice (some ⟨w.heap.size, 0, none⟩) N N) := by rw [hwv.out, hC.out, cell_box]; rfl
        have hC1 : wv.cell? ⟨C, 1, none⟩ = some (.int .i64 (m : Int)) := by rw [hwv.out, hC.out, cell_box]; rfl
        have hC2 : wv.cell? ⟨C, 2, none⟩ = some (.bool std) := by rw [hwv.out, hC.out, cell_box]; rfl
        have hC3 : wv.cell? ⟨C, 3, none⟩ = some (.int .i64 prm) := by rw [hwv.out, hC.out, cell_box]; rfl
        have hCl : C < wv.heap.size := by rw [hwv.out, hC.out]; simp
        have hS4 : TC wv w.heap.size N (gOf f) := by rw [hwv.out]; exact hS3.alloc _
        have hK4 : TC wv Kb N (gOf f) := by rw [hwv.out]; exact hK3.alloc _
        have hbel4 : Below w.heap.size w wv := by rw [hwv.out]; exact hbel3.alloc hbel3.size _
        clear hC hwv hS3 hK3 hbel3 hrun
        obtain ⟨x, hx⟩ : ∃ x, Hid (x = if m < N then f m else endT) := ⟨_, rfl⟩
        have hpk : Calls Yba.prog 5 #[.pointer (some ⟨C, 0, none⟩)] wv fun e w' => e = .returned (.agg #[.string x.t, .string x.n, .int .i64 x.p, .int .u8 x.k, .bool x.q]) ∧ Below wv.heap.size wv w' := by
          by_cases hmN : m < N
          · rw [hx.out, if_pos hmN]; exact peek_in wv C w.heap.size N m f hC0 hC1 hCl hS4 hmN
          · rw [hx.out, if_neg hmN]; exact peek_end wv C w.heap.size N m hC0 hC1 hCl (by omega)
        refine hpk.mono ?_
        rintro e' w5 ⟨rfl, hb5⟩
        clear hpk
        go_upto_region 15 with fail
        obtain ⟨wz, hwz⟩ : ∃ wz, Hid (wz = (w5.alloc (.cells #[.string x.t, .string x.n, .int .i64 x.p, .int .u8 x.k, .bool x.q] 26)).alloc (.cells #[.string ⟨#[]⟩, .string ⟨#[]⟩, .int .i64 0, .int .u8 0, .bool false] 26)) := ⟨_, rfl⟩
        obtain ⟨G, hG⟩ : ∃ G, Hid (G = w5.heap.size) := ⟨_, rfl⟩
        obtain ⟨W, hW⟩ : ∃ W, Hid (W = w5.heap.size + 1) := ⟨_, rfl⟩
        have hP : Pre2 w wz N f Kb C G W m std prm x := by
          have hz5 := hb5.size
          have hsl := hS4.lt
          have hkl := hK4.lt
          have hc : ∀ o, wz.cell? ⟨C, o, none⟩ = wv.cell? ⟨C, o, none⟩ := fun o => by
            rw [hwz.out, World.cell?_of_block (w := w5.alloc _) (Below.heap_alloc _ _ C (by simp; omega)), World.cell?_of_block (w := w5) (Below.heap_alloc _ _ C (by omega))]
            exact hb5.cell (p := ⟨C, o, none⟩) hCl
          refine ⟨?_, ?_, (hc 0).trans hC0, (hc 1).trans hC1, (hc 2).trans hC2, (hc 3).trans hC3, ?_, ?_, ?_, by rw [hW.out]; omega, by rw [hW.out]; omega, by rw [hW.out]; omega, by rw [hW.out, hG.out]; omega⟩
          · rw [hwz.out]; exact ((hS4.below hb5 hsl).alloc _).alloc _
          · rw [hwz.out]; exact ((hK4.below hb5 hkl).alloc _).alloc _
          · rw [hwz.out, hG.out]; exact (TC.box w5 x).alloc _
          · rw [hwz.out, hW.out, show w5.heap.size + 1 = (w5.alloc (.cells #[.string x.t, .string x.n, .int .i64 x.p, .int .u8 x.k, .bool x.q] 26)).heap.size by simp]; exact TC.box _ zeroT
          · rw [hwz.out]; exact ((hbel4.trans (hb5.mono (by omega))).alloc (by omega) _).alloc (by simp; omega) _
        rw [← hwz.out, ← hW.out, ← hG.out]
        clear hwz hW hG hC0 hC1 hC2 hC3 hCl hS4 hK4 hbel4 hb5 hKlt
        clear w5 wv w3
        go_upto_if 58 with fail
        go_cut [] (fun wc => Fin2 w wc N f Kb C G W m std prm)
        case first =>
          by_cases hmN : m < N
          · have hmN' : ¬ (N : Int) ≤ (m : Int) := by omega
            have hmN2 : (m : Int) < (N : Int) := by omega
            obtain ⟨b, off, rfl, hbw, c0, c1, c2, c3, c4⟩ := HK.out m hmN
            rw [← hP.bel.cell (p := ⟨b, _, none⟩) hbw] at c0 c1 c2 c3 c4
            have hxe : Hid (x = f m) := by show x = f m; rw [hx.out, if_pos hmN]
            go_wp2_with (go_at_call 4; refine (tok_any (f m) _).mono ?_; rintro e' w6 ⟨rfl, hb6⟩; have hP6 := hP.below hb6; obtain ⟨d0, d1, d2, d3, d4⟩ := TC.tok0 hP6.z; have e0 := hP6.z.frozen 0; have e1 := hP6.z.frozen 1; have e2 := hP6.z.frozen 2; have e3 := hP6.z.frozen 3; have e4 := hP6.z.frozen 4)
            go_meet
            case rel => have hF := hP6.fin; rw [hxe.out] at hF; exact hF
          · have hmN' : (N : Int) ≤ (m : Int) := by omega
            have hxe : Hid (x = endT) := by show x = endT; rw [hx.out, if_neg hmN]
            obtain ⟨d0, d1, d2, d3, d4⟩ := TC.tok0 hP.z
            have e0 := hP.z.frozen 0
            have e1 := hP.z.frozen 1
            have e2 := hP.z.frozen 2
            have e3 := hP.z.frozen 3
            have e4 := hP.z.frozen 4
            go_wp2
            go_meet
            case rel => have hF := hP.fin; rw [hxe.out] at hF; exact hF
        case rest =>
          clear hP
          clear wz
          obtain ⟨y, hy1, hy2⟩ := hcut.same
          obtain ⟨g0, g1, g2, g3, g4⟩ := TC.tok0 hy1
          obtain ⟨k0, k1, k2, k3, k4⟩ := TC.tok0 hy2
          have c0 := hcut.c0
          have c1 := hcut.c1
          have c2 := hcut.c2
          have c3 := hcut.c3
          go_wp2
          clear g0 g1 g2 g3 g4 k0 k1 k2 k3 k4 c0 c1 c2 c3
          go_loopw [15] (fun i wr => ∃ t nn : Nat, t ≤ N ∧ i = .int .i64 t ∧ wr = wc.drewN nn) (fun i _ => N - (intOf i).toNat)
          case atStart => exact ⟨0, 0, Nat.zero_le _, rfl, rfl⟩
          case round =>
            obtain ⟨t, nn, ht, rfl, hwr0⟩ := hrel
            have hwr : Hid (wr = wc.drewN nn) := hwr0
            by_cases hlt : t < N
            · obtain ⟨g0, g1, g2, g3, g4⟩ := hcut.s.tok hlt
              obtain ⟨k0, k1, k2, k3, k4⟩ := hcut.k.tok hlt
              have c0 := hcut.c0
              rw [← cell_dr wc nn, ← hwr0] at g0 g1 g2 g3 g4 k0 k1 k2 k3 k4 c0
              clear hwr0
              have hlt' : (t : Int) < (N : Int) := by omega
              go_wp2_with fail
              go_quiet (fail)
              go_wp2
              go_roundw
              case rel => exact ⟨t + 1, _, by omega, by go_num, by rw [hwr.out, World.drewN_drewN]⟩
              case measure => simp [intOf]; omega
            · obtain rfl : N = t := by omega
              clear hwr0
              go_wp2
              go_ret
              have hb := hcut.bel
              exact ⟨rfl, by rw [hwr.out]; exact ⟨hb.os, hb.tape, hb.output, hb.size, hb.block⟩⟩
end Go.Proofs.Ybulkexppk.C
