/-
  OUR OWN. The walk of the law.
-/
import Derived.Test.YbulkexpkaRows
import Derived.WalkKit
import Derived.WalkSpells
import Derived.Deep.CutBlock
import Derived.Deep.DeepCutAuto
import Derived.Deep.QuietTactic
import Derived.BigQuiet
import Derived.Test.YbulkexpkaCallees
import Derived.Test.YbulkexpkaValue
import Derived.Test.YbulkexpkaFinal
namespace Go.Proofs.Ybulkexpka.C
open Go.RowKit Mem
set_option linter.unusedVariables false

theorem row_step {rl : Nat} (j : Nat) : ∀ (i : Nat), i < rl → (if i < j + 1 then (i : Int) + 1 else 0) = (if i = j then (j : Int) + 1 else if i < j then (i : Int) + 1 else 0) := by
  intro i _
  by_cases e : i = j
  · subst e; simp
  · by_cases e2 : i < j
    · simp [e, e2, show i < j + 1 by omega]
    · simp [e, e2, show ¬ i < j + 1 by omega]

theorem ps_step {N : Nat} (p : Nat → Nat) (j : Nat) : ∀ (i : Nat), i < N → (if i < j + 1 then (p i : Int) else 0) = (if i = j then (p j : Int) else if i < j then (p i : Int) else 0) := by
  intro i _
  by_cases e : i = j
  · subst e; simp
  · by_cases e2 : i < j
    · simp [e, e2, show i < j + 1 by omega]
    · simp [e, e2, show ¬ i < j + 1 by omega]

theorem Mo_le {rl K : Nat} {L : Nat → Nat} (h : ∀ k, L k ≤ 5) (k : Nat) : Mo rl K L (k + 1) ≤ 5 := by
  unfold Mo MB
  split
  · exact h k
  · omega

theorem ptr_sameIn (d : Nat) (w : World) (a : Addr) : (Op.equalIn (d + 1) 29 (.pointer (some a)) (.pointer (some a))).run Yba.prog w = .ok true w := by
  obtain ⟨i37, hi37, hz37, hs37, hb37⟩ := info_parts info37
  simp [Op.equalIn, run_underlying Yba.underlying29, sizeOf, typeInfo, hi37, sameAddr]
theorem ptr_same (w : World) (a : Addr) : (binOp .eql 29 (.pointer (some a)) (.pointer (some a))).run Yba.prog w = .ok (.bool true) w := by
  simp only [binOp]
  simp [Op.equal, Op.maxDepth, ptr_sameIn 9999]
theorem cell_dr (w : World) (n : Nat) (a : Addr) : (w.drewN n).cell? a = w.cell? a := rfl

set_option maxRecDepth 1000000 in
set_option maxHeartbeats 8000000 in
theorem walk (n idx : Int) (a2 : Option Addr) (N cap2 : Nat) (a3 : Option Addr) (len3 cap3 : Nat) (w : World) (hn0 : 0 ≤ n) (hn1 : n ≤ 255) (hi0 : 0 ≤ idx) (hi1 : idx ≤ 18446744073709551615) (hN : N ≤ 4096) (hl3 : len3 ≤ 9223372036854775807)
    (rl ix : Nat) (hrl : n % 8 + 1 = (rl : Int)) (hix : idx % (rl : Int) = (ix : Int)) (pz lz : Nat → Int) (p L : Nat → Nat)
    (hp : ∀ k, k < N → ∃ b off, a2 = some ⟨b, off, none⟩ ∧ b < w.heap.size ∧ w.cell? ⟨b, off + k, none⟩ = some (.int .u8 (pz k)) ∧ 0 ≤ pz k ∧ pz k ≤ 255 ∧ pz k % 12 = (p k : Int))
    (hl : ∀ k, k < len3 → ∃ b off, a3 = some ⟨b, off, none⟩ ∧ b < w.heap.size ∧ w.cell? ⟨b, off + k, none⟩ = some (.int .u8 (lz k)) ∧ 0 ≤ lz k ∧ lz k ≤ 255 ∧ lz k % 6 = (L k : Int))
    (hL0 : ∀ k, len3 ≤ k → L k = 0) (hL5 : ∀ k, L k ≤ 5) (hp11 : ∀ k, p k ≤ 11) :
    Calls Yba.prog 4 #[.int .u8 n, .int .u64 idx, .slice a2 N cap2, .slice a3 len3 cap3] w fun e' w' => e' = .returned (.bool true) ∧ Below w.heap.size w w' := by
  have hrl1 : 1 ≤ rl := by omega
  have hrl8 : rl ≤ 8 := by omega
  have hix1 : ix < rl := by have := Int.emod_lt_of_pos idx (show (0:Int) < (rl : Int) by omega); omega
  obtain ⟨i37, hi37, hz37, hs37, hb37⟩ := info_parts info37
  obtain ⟨i3, hi3, hz3, hs3, hb3⟩ := info_parts info3
  have HP : Hid _ := hp
  have HL : Hid _ := hl
  have HL0 : Hid _ := hL0
  have HL5 : Hid (∀ k, L k ≤ 5) := hL5
  have Hp11 : Hid (∀ k, p k ≤ 11) := hp11
  clear hp hl hL0 hL5 hp11
  go_enter Yba.func4, Yba.ntmps4
  go_wp2_with (at_make; refine wpList_make_w _ rfl (.tmp 43) (.tmp 43) 26 rfl 37 i37 _ 12 Yba.underlying26 hi37 hz37 hs37 .i64 .i64 _ _ rl rfl rfl (by omega) (by omega) (by rw [hb37]; omega) (by omega) ?_)
  intro w1 hw1
  have hrow : VRow w1 w.heap.size rl (fun _ => 0) (fun _ => nilS) := by rw [hw1.out]; exact VRow.made w rl
  have hbel : Below w.heap.size w w1 := by rw [hw1.out]; exact (Below.refl _ _).alloc (Nat.le_refl _) _
  have hsz : w1.heap.size = w.heap.size + 1 := by rw [hw1.out]; simp
  clear hw1
  go_wp2
  go_loopw [12] (fun i wr => ∃ j : Nat, j ≤ rl ∧ i = .int .i64 j ∧ VRow wr w.heap.size rl (fun i => if i < j then (i : Int) + 1 else 0) (fun _ => nilS) ∧ wr.heap.size = w.heap.size + 1 ∧ Below w.heap.size w wr) (fun i _ => rl - (intOf i).toNat)
  case atStart => exact ⟨0, Nat.zero_le _, rfl, hrow.congr (fun _ _ => by simp) (fun _ _ => rfl), hsz, hbel⟩
  case round =>
    clear hrow hbel hsz w1
    obtain ⟨j, hj, rfl, hrow, hsz, hbel⟩ := hrel
    by_cases hlt : j < rl
    · have hc := hrow.int hlt
      simp only [Nat.lt_irrefl, if_false] at hc
      have hf := hrow.frozen (j * 12 + 2)
      go_wp2
      go_roundw
      case rel => exact ⟨j + 1, by omega, by go_num, (hrow.setInt hlt _).congr (row_step j) (fun _ _ => rfl), by simpa using hsz, hbel.setCell (Nat.le_refl _) _⟩
      case measure => simp [intOf]; omega
    · obtain rfl : rl = j := by omega
      have hrow2 : VRow wr w.heap.size rl (fun i => (i : Int) + 1) (fun _ => nilS) := hrow.congr (fun i hi => by simp [hi]) (fun _ _ => rfl)
      clear hrow hlt hj
      go_wp2_with (at_make; refine wpList_make_w _ rfl (.tmp 57) (.tmp 57) 50 rfl 3 i3 _ 1 Yba.underlying50 hi3 hz3 hs3 .i64 .i64 _ _ N rfl rfl (by omega) (by omega) (by rw [hb3]; omega) (by omega) ?_)
      intro w2 hw2
      have hps : IBlk w2 (w.heap.size + 1) N (fun _ => 0) := by rw [hw2.out, ← hsz]; exact IBlk.made wr N
      have hrow3 : VRow w2 w.heap.size rl (fun i => (i : Int) + 1) (fun _ => nilS) := by rw [hw2.out]; exact hrow2.of_block (Below.heap_alloc wr _ _ (by omega))
      have hbel2 : Below w.heap.size w w2 := by rw [hw2.out]; exact hbel.alloc (by omega) _
      have hsz2 : w2.heap.size = w.heap.size + 2 := by rw [hw2.out]; simp; omega
      clear hw2 hrow2 hbel
      clear hsz
      go_wp2
      go_loopw [61] (fun i wr => ∃ j : Nat, j ≤ N ∧ i = .int .i64 j ∧ VRow wr w.heap.size rl (fun i => (i : Int) + 1) (fun _ => nilS) ∧ IBlk wr (w.heap.size + 1) N (fun k => if k < j then (p k : Int) else 0) ∧ wr.heap.size = w.heap.size + 2 ∧ Below w.heap.size w wr) (fun i _ => N - (intOf i).toNat)
      case atStart => exact ⟨0, Nat.zero_le _, rfl, hrow3, hps.congr (fun _ _ => by simp), hsz2, hbel2⟩
      case round =>
        clear hps hrow3 hbel2 hsz2 w2
        obtain ⟨j, hj, rfl, hrow, hps, hsz, hbel⟩ := hrel
        by_cases hlt : j < N
        · obtain ⟨b, off, rfl, hbw, hpc, hz0, hz1, hpz⟩ := HP.out j hlt
          have hpc2 : wr.cell? ⟨b, off + j, none⟩ = some (.int .u8 (pz j)) := (hbel.cell (p := ⟨b, off + j, none⟩) hbw).trans hpc
          have hc := hps.cell hlt
          simp only [Nat.lt_irrefl, if_false] at hc
          have hf := hps.frozen j
          clear hpc
          go_wp2
          go_roundw
          case rel => exact ⟨j + 1, by omega, by go_num, hrow.setOther (by simp) _, (hps.set hlt _).congr (ps_step p j), by simpa using hsz, hbel.setCell (by simp) _⟩
          case measure => simp [intOf]; omega
        · obtain rfl : N = j := by omega
          have hps2 : IBlk wr (w.heap.size + 1) N (fun k => (p k : Int)) := hps.congr (fun i hi => by simp [hi])
          clear hps hlt hj
          go_wp2_with (at_make; refine wpList_make_w _ rfl (.tmp 74) (.tmp 74) 50 rfl 3 i3 _ 1 Yba.underlying50 hi3 hz3 hs3 .i64 .i64 _ _ N rfl rfl (by omega) (by omega) (by rw [hb3]; omega) (by omega) ?_)
          intro w3 hw3
          have hB : BInv w rl ix N p L 0 w.heap.size w3 := by
            refine BInv.start ?_ ?_ ?_ ?_
            · rw [hw3.out]; exact hrow.of_block (Below.heap_alloc wr _ _ (by omega))
            · rw [hw3.out]; exact hps2.alloc _
            · rw [hw3.out, ← hsz]; exact IBlk.made wr N
            · rw [hw3.out]; exact hbel.alloc (by omega) _
          clear hw3 hrow hps2 hbel hsz
          go_upto_block 4 with fail
          go_cut [] (fun wc => ∃ K, XInv w rl ix N p L K wc)
          case first =>
            go_wp2
            go_loopw [17, 18] (fun v i wr => ∃ t bt : Nat, t ≤ N ∧ i = .int .i64 t ∧ v = .pointer (some ⟨bt, qB ix p t * 12, none⟩) ∧ qB ix p t < MB rl L t ∧ BInv w rl ix N p L t bt wr) (fun _ i _ => N - (intOf i).toNat)
            case atStart => exact ⟨0, w.heap.size, Nat.zero_le _, rfl, rfl, hix1, hB⟩
            case round =>
              clear hB
              clear w3
              obtain ⟨t, bt, ht, rfl, rfl, hq, hB⟩ := hrel
              by_cases hlt : t < N
              · go_upto_if 88 with fail
                go_cut [19] (fun l wc => l = .int .i64 (L t : Int) ∧ wc = wr)
                case first =>
                  by_cases h3 : t < len3
                  · obtain ⟨b, off, rfl, hbw, hpc, hz0, hz1, hpz⟩ := HL.out t h3
                    have hpc2 : wr.cell? ⟨b, off + t, none⟩ = some (.int .u8 (lz t)) := (hB.below.cell (p := ⟨b, off + t, none⟩) hbw).trans hpc
                    clear hpc
                    have h3' : (t : Int) < (len3 : Int) := by omega
                    go_wp2
                    go_meet
                    case rel => exact ⟨rfl, rfl⟩
                  · have h3' : ¬ (t : Int) < (len3 : Int) := by omega
                    have hL0 : L t = 0 := HL0.out t (by omega)
                    have HL0' : Hid (L t = 0) := hL0
                    clear hL0
                    go_wp2
                    go_meet
                    case rel => exact ⟨by rw [HL0'.out]; rfl, rfl⟩
                case rest =>
                  obtain ⟨rfl, rfl⟩ := hcut
                  obtain ⟨he1, he2, he3⟩ := hB.elems hq
                  have hLt : L t ≤ 5 := HL5.out t
                  go_wp2_with (at_make; refine wpList_make_w _ rfl (.tmp 96) (.tmp 96) 26 rfl 37 i37 _ 12 Yba.underlying26 hi37 hz37 hs37 .i64 .i64 _ _ (L t) rfl rfl (by omega) (by omega) (by rw [hb37]; omega) (by omega) ?_)
                  intro w2 hw2
                  have hT := hB.make hq hw2.out
                  have hc2 : w2.cell? ⟨bt, qB ix p t * 12 + 10, none⟩ = some (.slice none 0 0) := by rw [hw2.out, World.cell?_of_block (w := wc) (Below.heap_alloc wc _ bt he3)]; exact he1
                  have hf2 : w2.frozen? ⟨bt, qB ix p t * 12 + 10, none⟩ = false := by rw [hw2.out, World.frozen?_of_block (w := wc) (Below.heap_alloc wc _ bt he3)]; exact he2
                  obtain ⟨b', hb'⟩ : ∃ b', Hid (b' = wc.heap.size) := ⟨_, rfl⟩
                  rw [← hb'.out] at hT ⊢
                  clear hw2 he1 he2 he3
                  go_wp2
                  go_loopw [20] (fun i wi => ∃ e : Nat, e ≤ L t ∧ i = .int .i64 e ∧ TInv w rl ix N p L t bt b' e wi) (fun i _ => L t - (intOf i).toNat)
                  case atStart => exact ⟨0, Nat.zero_le _, rfl, hT⟩
                  case round =>
                    clear hT hc2 hf2 hB hb'
                    clear wc w2
                    obtain ⟨e, he, rfl, hT⟩ := hrel
                    obtain ⟨hc1, hc2, hf2, hbl, hcP, hcO, hfO⟩ := hT.look
                    by_cases helt : e < L t
                    · have hc3 := hc2 helt
                      have hf3 := hf2 (e * 12 + 2)
                      have HcP : Hid _ := hcP
                      have HcO : Hid _ := hcO
                      clear hc2 hcP hcO hf2 hfO
                      have h1 : (e : Int) < (L t : Int) := by omega
                      go_wp2_with fail
                      go_region_with (go_at_call 8; refine (tag_any _ _ _ (by omega) (by omega)).mono ?_; rintro e' w' ⟨rfl, rfl⟩)
                      all_goals
                        go_wp2
                        go_roundw
                        case rel => exact ⟨e + 1, by omega, by go_num, (hT.set helt).drew⟩
                        case measure => simp [intOf]; omega
                    · obtain rfl : L t = e := by omega
                      have hcO1 := hcO t hlt
                      simp only [Nat.lt_irrefl, if_false] at hcO1
                      have hfO1 := hfO t
                      clear hc1 hc2 hcP hcO hfO hf2 hbl
                      go_upto_region 30 with fail
                      have hB' := hT.done hlt
                      obtain ⟨w5, hw5⟩ : ∃ w5, Hid (w5 = wr.setCell ⟨w.heap.size + 2, t, none⟩ (.int .i64 (L t : Int))) := ⟨_, rfl⟩
                      rw [← hw5.out] at hB' ⊢
                      have hc5 : w5.cell? ⟨bt, qB ix p t * 12 + 10, none⟩ = some (.slice (some ⟨b', 0, none⟩) (L t) (L t)) := by
                        rw [hw5.out, World.cell?_of_block (w := wr) (Below.heap_setCell _ _ _ _ hT.apart.1)]; exact hT.look.1
                      have hp5 := hB'.path hlt
                      clear hw5 hT hcO1 hfO1
                      by_cases hbr : L t ≤ p t
                      · have hbr' : (L t : Int) ≤ (p t : Int) := by omega
                        go_wp2
                        go_meet
                        case rel => exact ⟨t + 1, b', by omega, hB'⟩
                      · have hbr' : (p t : Int) < (L t : Int) := by omega
                        go_wp2_with fail
                        go_quiet (fail)
                        go_wp2
                        go_roundw
                        case rel => exact ⟨t + 1, b', by omega, by go_num, rfl, by show p t < L t; omega, hB'.drewN _⟩
                        case measure => simp [intOf]; omega
              · obtain rfl : N = t := by omega
                go_wp2
                go_meet
                case rel => exact ⟨N, bt, by omega, hB⟩
          case rest =>
            clear hB
            clear w3
            obtain ⟨K, bt, hKN, hB⟩ := hcut
            have q26 : ∀ (w : World) (a : Option Addr) (n c : Nat), (binOp .neq 26 (.slice a n c) (.slice none 0 0)).run Yba.prog w = .ok (.bool (!a.isNone)) w := fun w a n c => run_neq_slice_nil_any w _ _ _ _ _ _ _ Yba.underlying26
            have HI : Hid (IRow wc (w.heap.size + 1) N (fun k => (p k : Int))) := fun k hk => hB.path hk
            have hsz1 : w.heap.size + 3 ≤ wc.heap.size := hB.size
            go_wp2_with (go_at_call 9; refine (clone_any wc (w.heap.size + 1) N (fun k => (p k : Int)) hN HI.out (by omega)).mono ?_; rintro e' w1 ⟨bc, capc, rfl, hbc1, hbc2, hrowc, hk1⟩)
            obtain ⟨C, hC⟩ : ∃ C, Hid (C = w1.heap.size) := ⟨_, rfl⟩
            obtain ⟨wv, hwv⟩ : ∃ wv, Hid (wv = w1.alloc (.cells #[.string ⟨#[]⟩, .nilIface, .pointer none, .int .i64 (ix : Int), .slice (some ⟨w.heap.size + 1, 0, none⟩) N N, .bool false, .bool false] 55)) := ⟨_, rfl⟩
            rw [← hwv.out, ← hC.out]
            have h3 : wv.cell? ⟨C, 3, none⟩ = some (.int .i64 (ix : Int)) := by rw [hwv.out, hC.out, cell_box]; rfl
            have h4 : wv.cell? ⟨C, 4, none⟩ = some (.slice (some ⟨w.heap.size + 1, 0, none⟩) N N) := by rw [hwv.out, hC.out, cell_box]; rfl
            have hold : ∀ k, k < wc.heap.size → wv.heap[k]? = wc.heap[k]? := fun k hk => by rw [hwv.out, Below.heap_alloc w1 _ k (by have := hk1.size; omega)]; exact hk1.block k hk (fun h => h)
            obtain ⟨S, hV0, hS1, hS2, hS⟩ := hB.toV hKN hix1 hold
            refine (value_any wv S C (w.heap.size + 1) N w.heap.size rl ix (qB ix p) (Mo rl K L) (Fo rl K L) hN hix1 hrl8 (fun k hk => Hp11.out k) (fun k hk => Mo_le HL5.out k) (Fo_zero rl K L) hS1 h3 h4 (fun k hk => by rw [World.cell?_of_block (w := wc) (hold (w.heap.size + 1) (by omega))]; exact hB.path hk) (by rw [hwv.out]; simp; have := hk1.size; omega) hV0).mono ?_
            rintro e' wf ⟨v, rfl, hV⟩
            obtain ⟨E, bs, hch, hb0, rfl, hk2⟩ := hV.final
            have hF := fin_of hB hk1 hC.out hwv.out h3 h4 hbc1 hbc2 hrowc hS1 hS2 hS hch hb0 hk2
            clear hB hk1 hC hwv h3 h4 hbc1 hbc2 hrowc hS1 hS2 hS hch hk2 hV hV0 hold HI hsz1
            clear wv w1 wc
            have hc3 := hF.c3
            have hc4 := hF.c4
            go_wp2_with (go_at_call 11; refine (equal_any wf _ _ N _ _ (fun k => (p k : Int)) hN hF.ps hF.pc).mono ?_; rintro e' w' ⟨rfl, nd, rfl⟩)
            clear hc3 hc4
            go_loop [24] (fun i => ∃ j : Nat, j ≤ rl ∧ i = .int .i64 j) (fun i => rl - (intOf i).toNat)
            case atStart => exact ⟨0, Nat.zero_le _, rfl⟩
            case round =>
              obtain ⟨j, hj, rfl⟩ := hrel
              by_cases hjl : j < rl
              · obtain ⟨h1, h2, h3⟩ := hF.row hjl
                by_cases hji : j = ix
                · subst hji
                  go_wp2
                  go_round
                  case rel => exact ⟨j + 1, by omega, by go_num⟩
                  case measure => simp [intOf]; omega
                · have h3' := h3 hji
                  clear h3
                  have hji' : ((j : Int) == (ix : Int)) = false := by simp; omega
                  go_wp2
                  go_round
                  case rel => exact ⟨j + 1, by omega, by go_num⟩
                  case measure => simp [intOf]; omega
              · obtain rfl : rl = j := by omega
                go_wp2
                go_loopw [25, 26] (fun v i wr => ∃ t nn : Nat, t ≤ N ∧ i = .int .i64 t ∧ v = .pointer (some ⟨bs t, qB ix p t * 12, none⟩) ∧ wr = wf.drewN nn) (fun _ i _ => N - (intOf i).toNat)
                case atStart => exact ⟨0, nd, Nat.zero_le _, rfl, by rw [hF.b0]; rfl, rfl⟩
                case round =>
                  obtain ⟨t, nn, ht, rfl, rfl, rfl⟩ := hrel
                  by_cases hlt : t < N
                  · obtain ⟨cap, hcE, hcL⟩ := hF.level hlt (q_lt hix1 t)
                    have hpc := hF.pc t hlt
                    have hln := hF.lens t hlt
                    have HcL : Hid _ := hcL
                    have hm5 : Mo rl K L (t + 1) ≤ 5 := Mo_le HL5.out t
                    have hp5 : p t ≤ 11 := Hp11.out t
                    clear hcL
                    go_upto_if 213 with fail
                    go_cut [28] (fun l wc => l = .int .i64 ((max (Mo rl K L (t + 1)) (p t + 1) : Nat) : Int) ∧ wc = wf.drewN nn)
                    case first =>
                      by_cases hgt : Mo rl K L (t + 1) < p t + 1
                      · have hgt' : (Mo rl K L (t + 1) : Int) < (p t : Int) + 1 := by omega
                        go_wp2
                        go_meet
                        case rel => exact ⟨by rw [show max (Mo rl K L (t + 1)) (p t + 1) = p t + 1 by omega]; go_num, rfl⟩
                      · have hgt' : ¬ (Mo rl K L (t + 1) : Int) < (p t : Int) + 1 := by omega
                        go_wp2
                        go_meet
                        case rel => exact ⟨by rw [show max (Mo rl K L (t + 1)) (p t + 1) = Mo rl K L (t + 1) by omega], rfl⟩
                    case rest =>
                      obtain ⟨rfl, rfl⟩ := hcut
                      obtain ⟨m, hm⟩ : ∃ m, Hid (m = max (Mo rl K L (t + 1)) (p t + 1)) := ⟨_, rfl⟩
                      have hm1 : p t < m := by rw [hm.out]; omega
                      have hm2 : m ≤ 12 := by rw [hm.out]; omega
                      have HcL' : Hid (∀ e, e < m → wf.cell? ⟨bs (t + 1), e * 12, none⟩ = some (.bool false) ∧ wf.cell? ⟨bs (t + 1), e * 12 + 2, none⟩ = some (.int .i64 (if e < Mo rl K L (t + 1) then tagI t e else 0)) ∧ (e ≠ p t → wf.cell? ⟨bs (t + 1), e * 12 + 10, none⟩ = some (.slice none 0 0))) := by rw [hm.out]; exact HcL.out
                      rw [← hm.out] at hcE ⊢
                      clear hm HcL
                      go_wp2
                      go_loopw [29] (fun i wr => ∃ e nn : Nat, e ≤ m ∧ i = .int .i64 e ∧ wr = wf.drewN nn) (fun i _ => m - (intOf i).toNat)
                      case atStart => exact ⟨0, nn, Nat.zero_le _, rfl, rfl⟩
                      case round =>
                        obtain ⟨e, nn', he, rfl, hwr0⟩ := hrel
                        have hwr : Hid (wr = wf.drewN nn') := hwr0
                        have hcE' : wr.cell? ⟨bs t, qB ix p t * 12 + 10, none⟩ = some (.slice (some ⟨bs (t + 1), 0, none⟩) m cap) := by rw [hwr0, cell_dr]; exact hcE
                        have hln' : wr.cell? ⟨w.heap.size + 2, t, none⟩ = some (.int .i64 (Mo rl K L (t + 1) : Int)) := by rw [hwr0, cell_dr]; exact hln
                        by_cases helt : e < m
                        · obtain ⟨g1, g2, g3⟩ := HcL'.out e helt
                          rw [← cell_dr wf nn', ← hwr0] at g1 g2 g3
                          clear hwr0 hcE hln hpc
                          have helt' : (e : Int) < (m : Int) := by omega
                          have hT : tagI t e = 1000 * ((t : Int) + 1) + e + 1 := rfl
                          have htN : t ≤ 4096 := by omega
                          by_cases hei : e = p t
                          · subst hei
                            clear g3
                            by_cases heo : p t < Mo rl K L (t + 1)
                            · have heo' : (p t : Int) < (Mo rl K L (t + 1) : Int) := by omega
                              rw [if_pos heo, hT] at g2
                              clear hT
                              go_wp2_with fail
                              go_quiet ((go_at_call 8; exact Calls.quiet_of_same (tag_any _ _ _ htN (by omega))))
                              go_wp2
                              go_roundw
                              case rel => exact ⟨p t + 1, _, by omega, by go_num, by rw [hwr.out, World.drewN_drewN]⟩
                              case measure => simp [intOf]; omega
                            · have heo' : ¬ (p t : Int) < (Mo rl K L (t + 1) : Int) := by omega
                              rw [if_neg heo] at g2
                              clear hT
                              go_wp2
                              go_roundw
                              case rel => exact ⟨p t + 1, _, by omega, by go_num, hwr.out⟩
                              case measure => simp [intOf]; omega
                          · have g3' := g3 hei
                            clear g3
                            have hei' : ((e : Int) == (p t : Int)) = false := by simp; omega
                            by_cases heo : e < Mo rl K L (t + 1)
                            · have heo' : (e : Int) < (Mo rl K L (t + 1) : Int) := by omega
                              rw [if_pos heo, hT] at g2
                              clear hT
                              go_wp2_with fail
                              go_quiet ((go_at_call 8; exact Calls.quiet_of_same (tag_any _ _ _ htN (by omega))))
                              go_wp2
                              go_roundw
                              case rel => exact ⟨e + 1, _, by omega, by go_num, by rw [hwr.out, World.drewN_drewN]⟩
                              case measure => simp [intOf]; omega
                            · have heo' : ¬ (e : Int) < (Mo rl K L (t + 1) : Int) := by omega
                              rw [if_neg heo] at g2
                              clear hT
                              go_wp2
                              go_roundw
                              case rel => exact ⟨e + 1, _, by omega, by go_num, hwr.out⟩
                              case measure => simp [intOf]; omega
                        · obtain rfl : m = e := by omega
                          have hm1' : (p t : Int) < (m : Int) := by omega
                          clear hwr0
                          go_wp2
                          go_roundw
                          case rel => exact ⟨t + 1, nn', by omega, by go_num, rfl, hwr.out⟩
                          case measure => simp [intOf]; omega
                  · obtain rfl : N = t := by omega
                    have hlast := hF.last (q_lt hix1 N)
                    have hpe := ptr_same
                    go_wp2
                    go_ret
                    exact ⟨by simp, below_dr hF.bel _⟩
end Go.Proofs.Ybulkexpka.C
