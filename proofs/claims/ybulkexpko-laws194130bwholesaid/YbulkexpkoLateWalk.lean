/-
  OUR OWN. The walk of the law.
-/
import Derived.Test.YbulkexpkoRows
import Derived.WalkKit
import Derived.WalkSpells
import Derived.Deep.CutBlock
import Derived.Deep.DeepCutAuto
import Derived.Deep.QuietTactic
import Derived.BigQuiet
import Derived.Test.YbulkexpkoLate
namespace Go.Proofs.Ybulkexpko.C
open Go.RowKit Plain Mem
set_option linter.unusedVariables false

theorem info3 : (Yba.prog.info? 3).map (fun i => (i.zero, i.size, i.bytes)) = some (some (.int .i64 0), 1, 8) := by kernel_rfl
theorem info24 : (Yba.prog.info? 24).map (fun i => (i.zero, i.size, i.bytes)) = some (some (.int .u64 0), 1, 8) := by kernel_rfl

/-- What is left of a body behind its first n statements. -/
def tl : Nat → Code → Code
  | 0, c => c
  | n + 1, .seq _ b => tl n b
  | _ + 1, c => c

set_option maxRecDepth 1000000 in
set_option maxHeartbeats 8000000 in
theorem late (c0 c1 c3 c5 c6 c7 c8 c9 c10 c11 c12 c15 c16 c19 c20 c21 c22 c23 c24 c25 c26 c27 c28 c29 c30 c31 c32 c33 c34 c35 c36 c37 c38 c39 c40 c41 c42 c43 c44 c45 c46 c47 c48 c49 c50 c51 c52 c53 c54 c55 c56 c57 c58 c59 c60 c61 c62 c63 c64 c65 c66 c67 c68 c69 c70 c71 c72 c73 c74 c75 c76 c77 c78 c79 c80 c81 c82 c83 c84 c85 c86 c87 c88 c89 c90 c91 c92 c93 c94 c95 c96 c97 c98 c99 c100 c101 c102 c103 c104 c105 c106 c107 c108 c109 c110 c111 c112 c113 c114 c115 c116 c117 c118 c119 c120 c121 c122 c123 c124 c125 c126 c127 c128 c129 c130 c131 c132 c133 c134 c135 c136 c137 c138 c139 c140 c141 c142 c143 c144 c145 c146 c147 c148 c149 c150 c151 c152 c153 c154 c155 c156 c157 c158 c159 c160 c161 c162 c163 c164 c165 c166 c167 c168 c169 c170 c171 c172 c173 c174 c175 c176 c177 c178 c179 c180 c181 c182 c183 c184 c185 c186 c187 c188 c189 c190 c191 c192 c193 c194 c195 c196 c197 c198 c199 c200 c201 c202 c203 c204 c205 c206 c207 c208 c209 c210 c211 c212 c213 c214 c215 : Value) (k com : Int) (vk vv : Value) (C : Nat) (l : List (Int × Int)) (w w2 : World) (hTidy : Tidy l) (hll : l.length ≤ 4096) (hL : Late w w2 l k C com vk vv)
    (hC2 : w2.cell? ⟨C, 2, none⟩ = some (.int .u64 com)) (hC3 : w2.cell? ⟨C, 3, none⟩ = some (.pointer none)) (hC6 : w2.cell? ⟨C, 6, none⟩ = some (.pointer none)) (hC7 : w2.cell? ⟨C, 7, none⟩ = some (.int .u64 com)) (hC8 : w2.cell? ⟨C, 8, none⟩ = some (.map (some w.heap.size))) :
    Code.wp Yba.prog (tl 12 (Yba.f3.body.getD .skip)) (bodyPost Yba.prog Yba.f3 fun e' w' => e' = .returned (.bool true) ∧ Below w.heap.size w w') ⟨#[c0, c1, .int .u64 k, c3, .int .u64 com, c5, c6, c7, c8, c9, c10, c11, c12, vk, vv, c15, c16, .pointer (some ⟨C, 0, none⟩), .int .i64 0, c19, c20, c21, c22, c23, c24, c25, c26, c27, c28, c29, c30, c31, c32, c33, c34, c35, c36, c37, c38, c39, c40, c41, c42, c43, c44, c45, c46, c47, c48, c49, c50, c51, c52, c53, c54, c55, c56, c57, c58, c59, c60, c61, c62, c63, c64, c65, c66, c67, c68, c69, c70, c71, c72, c73, c74, c75, c76, c77, c78, c79, c80, c81, c82, c83, c84, c85, c86, c87, c88, c89, c90, c91, c92, c93, c94, c95, c96, c97, c98, c99, c100, c101, c102, c103, c104, c105, c106, c107, c108, c109, c110, c111, c112, c113, c114, c115, c116, c117, c118, c119, c120, c121, c122, c123, c124, c125, c126, c127, c128, c129, c130, c131, c132, c133, c134, c135, c136, c137, c138, c139, c140, c141, c142, c143, c144, c145, c146, c147, c148, c149, c150, c151, c152, c153, c154, c155, c156, c157, c158, c159, c160, c161, c162, c163, c164, c165, c166, c167, c168, c169, c170, c171, c172, c173, c174, c175, c176, c177, c178, c179, c180, c181, c182, c183, c184, c185, c186, c187, c188, c189, c190, c191, c192, c193, c194, c195, c196, c197, c198, c199, c200, c201, c202, c203, c204, c205, c206, c207, c208, c209, c210, c211, c212, c213, c214, c215], []⟩ w2 := by
  conv => arg 2; whnf
  obtain ⟨i3, hi3, hz3, hs3, hb3⟩ := info_parts info3
  obtain ⟨i24, hi24, hz24, hs24, hb24⟩ := info_parts info24
  dsimp only
  have hlk : (keys l).length = l.length := keys_length l
  have hlv : (vals l).length = l.length := vals_length l
  have HLK : Hid ((keys l).length = l.length) := hlk
  have HLV : Hid ((vals l).length = l.length) := hlv
  have hk4 : (keys l).length ≤ 4096 := by omega
  have hv4 : (vals l).length ≤ 4096 := by omega
  clear hlk hlv
  obtain ⟨ak, capk, rfl, hrowk⟩ := hL.two.k.form
  obtain ⟨av, capv, rfl, hrowv⟩ := hL.two.v.form
  have HRK : Hid (∀ i, i < (keys l).length → ∃ g, ak = some ⟨g, 0, none⟩ ∧ g < w2.heap.size ∧ w2.cell? ⟨g, i, none⟩ = some (.int .u64 ((keys l).getD i 0))) := fun i hi => by obtain ⟨g, h1, _, h3, _, h2, _⟩ := hrowk i hi; exact ⟨g, h1, h3, h2⟩
  have HRV : Hid (∀ i, i < (vals l).length → ∃ g, av = some ⟨g, 0, none⟩ ∧ g < w2.heap.size ∧ w2.cell? ⟨g, i, none⟩ = some (.int .i64 ((vals l).getD i 0))) := fun i hi => by obtain ⟨g, h1, _, h3, _, h2, _⟩ := hrowv i hi; exact ⟨g, h1, h3, h2⟩
  clear hrowk hrowv
  have hfind := find_any w2 ak capk (keys l) k hk4 (fun i hi => by obtain ⟨g, h1, _, h2⟩ := HRK.out i hi; exact ⟨g, h1, h2⟩)
  obtain ⟨x, hx⟩ : ∃ x, Hid (x = (get l k).getD 0) := ⟨_, rfl⟩
  go_upto_if 109 with (go_at_call 4; refine hfind.mono ?_; rintro e w' ⟨rfl, rfl⟩)
  go_cut [18] (fun o wc => o = .int .i64 x ∧ w2 = wc)
  case first =>
    cases hi : idx (keys l) k with
    | none =>
      have hpl : place (keys l) k = -1 := by simp [place, hi]
      have h0 : Hid (x = 0) := by show x = 0; rw [hx.out]; exact old_none hi
      clear hi hfind
      go_wp2
      go_meet
      case rel => exact ⟨by rw [h0.out], rfl⟩
    | some j =>
      have hpl : place (keys l) k = (j : Int) := by simp [place, hi]
      have hjl : j < (vals l).length := by rw [HLV.out, ← HLK.out]; exact idx_lt hi
      obtain ⟨g, rfl, hg1, hg2⟩ := HRV.out j hjl
      rw [old_some hi, ← hx.out] at hg2
      have hjl' : (j : Int) < ((vals l).length : Int) := by omega
      clear hi hfind
      go_wp2
      go_meet
      case rel => exact ⟨rfl, rfl⟩
  case rest =>
    obtain ⟨rfl, rfl⟩ := hcut
    clear hfind
    have HX : Hid (wrap64 (x - 1) = newCount l k) := by show wrap64 (x - 1) = newCount l k; rw [hx.out]; rfl
    go_wp2
    go_loopw [21, 22, 23] (fun ve vw i wr => ∃ t : Nat, t ≤ (keys l).length ∧ i = .int .i64 t ∧ Two wr w2.heap.size (keys (oth (l.take t) k)) (vals (oth (l.take t) k)) ve vw ∧ Below w2.heap.size w2 wr) (fun _ _ i _ => (keys l).length - (intOf i).toNat)
    case atStart => exact ⟨0, Nat.zero_le _, rfl, Two.nil _ _ (Nat.le_refl _), Below.refl _ _⟩
    case round =>
      obtain ⟨t, ht, rfl, hT, hbb⟩ := hrel
      by_cases hlt : t < (keys l).length
      · have hlt' : (t : Int) < ((keys l).length : Int) := by omega
        obtain ⟨gk, rfl, hgk1, hgk2⟩ := HRK.out t hlt
        obtain ⟨gv, rfl, hgv1, hgv2⟩ := HRV.out t (by rw [HLV.out, ← HLK.out]; exact hlt)
        obtain ⟨kt, hkt⟩ : ∃ kt, Hid (kt = (keys l).getD t 0) := ⟨_, rfl⟩
        obtain ⟨vt, hvt⟩ : ∃ vt, Hid (vt = (vals l).getD t 0) := ⟨_, rfl⟩
        rw [← hkt.out] at hgk2
        rw [← hvt.out] at hgv2
        have hk3 : wr.cell? ⟨gk, t, none⟩ = some (.int .u64 kt) := (hbb.cell (p := ⟨gk, t, none⟩) hgk1).trans hgk2
        have hv3 : wr.cell? ⟨gv, t, none⟩ = some (.int .i64 vt) := (hbb.cell (p := ⟨gv, t, none⟩) hgv1).trans hgv2
        have hto := take_oth (l := l) (t := t) (by rw [← HLK.out]; exact hlt) k
        rw [← hkt.out, ← hvt.out] at hto
        have hlt2 : (t : Int) < ((vals l).length : Int) := by rw [HLV.out, ← HLK.out]; exact hlt'
        obtain ⟨lo, hlo⟩ : ∃ lo, Hid (lo = oth (l.take t) k) := ⟨_, rfl⟩
        rw [← hlo.out] at hT hto
        have hlen : lo.length ≤ t := by rw [hlo.out]; have := oth_length (l.take t) k; have := List.length_take_le t l; omega
        have hlk : (keys lo).length ≤ 4096 := by rw [keys_length]; omega
        have hlv : (vals lo).length ≤ 4096 := by rw [vals_length]; omega
        clear hgk2 hgv2
        by_cases hkk : kt = k
        · have hkk' : (kt == k) = true := by simpa using hkk
          rw [if_pos hkk, List.append_nil] at hto
          have HTO : Hid (oth (l.take (t + 1)) k = lo) := hto
          clear hto hkk
          go_wp2
          go_roundw
          case rel => exact ⟨t + 1, by omega, by go_num, by rw [HTO.out]; exact hT, hbb⟩
          case measure => simp [intOf]; omega
        · have hkk' : (kt == k) = false := by simpa using hkk
          rw [if_neg hkk] at hto
          have HTO : Hid (oth (l.take (t + 1)) k = lo ++ [(kt, vt)]) := hto
          clear hto hkk
          go_wp2_with (at_builtin; refine wpList_append_own_at _ rfl _ _ 22 rfl w2.heap.size 24 i24 (.int .u64 0) 1 8 Yba.underlying22 hi24 hz24 hs24 hb24 rfl (by decide) _ _ _ rfl (World.ownsRow.alloc hT.k _) ⟨wr.heap.size, 0, none⟩ 1 1 [.int .u64 kt] rfl rfl (cell_one_new _ _ _) (ints_oneCell .u64 [kt]) (by unfold maxLen; omega) (by omega) (by have := hT.size; simp; omega) ?_)
          intro vk' w3 hown3 hgrow3 _ hloc3
          obtain ⟨hT3, hb3'⟩ := hT.appK hgrow3 hown3 hloc3
          have hv4' : w3.cell? ⟨gv, t, none⟩ = some (.int .i64 vt) := (hb3'.cell (p := ⟨gv, t, none⟩) hgv1).trans hv3
          clear hown3 hgrow3 hloc3 hk3 hv3
          go_wp2_with (at_builtin; refine wpList_append_own_at _ rfl _ _ 23 rfl w2.heap.size 3 i3 (.int .i64 0) 1 8 Yba.underlying23 hi3 hz3 hs3 hb3 rfl (by decide) _ _ _ rfl (World.ownsRow.alloc hT3.v _) ⟨w3.heap.size, 0, none⟩ 1 1 [.int .i64 vt] rfl rfl (cell_one_new _ _ _) (ints_oneCell .i64 [vt]) (by unfold maxLen; omega) (by omega) (by have := hT3.size; simp; omega) ?_)
          intro vv' w4 hown4 hgrow4 _ hloc4
          obtain ⟨hT4, hb4'⟩ := hT3.appV hgrow4 hown4 hloc4
          have hbel4 := hbb.trans (hb3'.trans hb4')
          clear hown4 hgrow4 hloc4 hv4' hT3 hT
          go_wp2
          go_roundw
          case rel => exact ⟨t + 1, by omega, by go_num, by rw [HTO.out, keys_append, vals_append]; exact hT4, hbel4⟩
          case measure => simp [intOf]; omega
      · obtain rfl : (keys l).length = t := by omega
        rw [HLK.out, List.take_length] at hT
        have hol := oth_length l k
        have hok : (keys (oth l k)).length ≤ 4096 := by rw [keys_length]; omega
        have hov : (vals (oth l k)).length ≤ 4096 := by rw [vals_length]; omega
        go_upto_if 143 with fail
        go_cut [21, 22] (fun ve vw wc => Two wc w2.heap.size (keys (want l k (newCount l k))) (vals (want l k (newCount l k))) ve vw ∧ Below w2.heap.size w2 wc)
        case first =>
          by_cases h0 : wrap64 (x - 1) = 0
          · have h0' : (wrap64 (x - 1) == 0) = true := by simpa using h0
            have hw : want l k (newCount l k) = oth l k := by rw [← HX.out]; unfold want; rw [if_pos h0, List.append_nil]
            have HW : Hid (want l k (newCount l k) = oth l k) := hw
            clear h0 hw
            go_wp2
            go_meet
            case rel => exact ⟨by rw [HW.out]; exact hT, hbb⟩
          · have h0' : (wrap64 (x - 1) == 0) = false := by simpa using h0
            have hw : want l k (newCount l k) = oth l k ++ [(k, wrap64 (x - 1))] := by rw [← HX.out]; unfold want; rw [if_neg h0]
            have HW : Hid (want l k (newCount l k) = oth l k ++ [(k, wrap64 (x - 1))]) := hw
            clear h0 hw
            go_wp2_with (at_builtin; refine wpList_append_own_at _ rfl _ _ 22 rfl w2.heap.size 24 i24 (.int .u64 0) 1 8 Yba.underlying22 hi24 hz24 hs24 hb24 rfl (by decide) _ _ _ rfl (World.ownsRow.alloc hT.k _) ⟨wr.heap.size, 0, none⟩ 1 1 [.int .u64 k] rfl rfl (cell_one_new _ _ _) (ints_oneCell .u64 [k]) (by unfold maxLen; omega) (by omega) (by have := hT.size; simp; omega) ?_)
            intro vk' w3 hown3 hgrow3 _ hloc3
            obtain ⟨hT3, hb3'⟩ := hT.appK hgrow3 hown3 hloc3
            clear hown3 hgrow3 hloc3
            go_wp2_with (at_builtin; refine wpList_append_own_at _ rfl _ _ 23 rfl w2.heap.size 3 i3 (.int .i64 0) 1 8 Yba.underlying23 hi3 hz3 hs3 hb3 rfl (by decide) _ _ _ rfl (World.ownsRow.alloc hT3.v _) ⟨w3.heap.size, 0, none⟩ 1 1 [.int .i64 (wrap64 (x - 1))] rfl rfl (cell_one_new _ _ _) (ints_oneCell .i64 [wrap64 (x - 1)]) (by unfold maxLen; omega) (by omega) (by have := hT3.size; simp; omega) ?_)
            intro vv' w4 hown4 hgrow4 _ hloc4
            obtain ⟨hT4, hb4'⟩ := hT3.appV hgrow4 hown4 hloc4
            have hbel4 := hbb.trans (hb3'.trans hb4')
            clear hown4 hgrow4 hloc4 hT3
            go_wp2
            go_meet
            case rel => exact ⟨by rw [HW.out, keys_append, vals_append]; exact hT4, hbel4⟩
        case rest =>
          clear hT hbb hok hov hol
          clear wr
          obtain ⟨hT, hbb⟩ := hcut
          obtain ⟨W, hW⟩ : ∃ W, Hid (W = want l k (newCount l k)) := ⟨_, rfl⟩
          rw [← hW.out] at hT
          have hm3 : MapOf wc w.heap.size (forgot l k (newCount l k)) := hL.map.of_block (hbb.block _ hL.mlt)
          have hlen : (forgot l k (newCount l k)).length = (keys W).length := by rw [keys_length, hW.out]; exact forgot_length hTidy k _
          have hrl : (Builtin.len_ #[25] 3 #[.map (some w.heap.size)]).run Yba.prog wc = .ok (.int .i64 ((keys W).length : Int)) wc := by rw [← hlen]; exact run_len hm3 Yba.underlying25 3
          have hget : ∀ i, i < (keys W).length → get (forgot l k (newCount l k)) ((keys W).getD i 0) = some ((vals W).getD i 0) := fun i hi => forgot_get hTidy (by rw [← hW.out]; exact want_mem (by rw [← keys_length]; exact hi))
          have HG : Hid (∀ i, i < (keys W).length → get (forgot l k (newCount l k)) ((keys W).getD i 0) = some ((vals W).getD i 0)) := hget
          have hbelF : Below w.heap.size w wc := hL.bel.trans (hbb.mono (by have := hL.mlt; omega))
          have hWl : W.length ≤ 4097 := by
            rw [hW.out]; unfold want; rw [List.length_append]; have := oth_length l k; split <;> simp <;> omega
          have hd2 : wc.cell? ⟨C, 2, none⟩ = some (.int .u64 com) := (hbb.cell (p := ⟨C, 2, none⟩) hL.lt).trans hC2
          have hd3 : wc.cell? ⟨C, 3, none⟩ = some (.pointer none) := (hbb.cell (p := ⟨C, 3, none⟩) hL.lt).trans hC3
          have hd6 : wc.cell? ⟨C, 6, none⟩ = some (.pointer none) := (hbb.cell (p := ⟨C, 6, none⟩) hL.lt).trans hC6
          have hd7 : wc.cell? ⟨C, 7, none⟩ = some (.int .u64 com) := (hbb.cell (p := ⟨C, 7, none⟩) hL.lt).trans hC7
          have hd8 : wc.cell? ⟨C, 8, none⟩ = some (.map (some w.heap.size)) := (hbb.cell (p := ⟨C, 8, none⟩) hL.lt).trans hC8
          obtain ⟨ae, cape, rfl, hrowe⟩ := hT.k.form
          obtain ⟨aw, capw, rfl, hroww⟩ := hT.v.form
          have HRE : Hid (∀ i, i < (keys W).length → ∃ g, ae = some ⟨g, 0, none⟩ ∧ wc.cell? ⟨g, i, none⟩ = some (.int .u64 ((keys W).getD i 0))) := fun i hi => by obtain ⟨g, h1, _, h3, _, h2, _⟩ := hrowe i hi; exact ⟨g, h1, h2⟩
          have HRW : Hid (∀ i, i < (vals W).length → ∃ g, aw = some ⟨g, 0, none⟩ ∧ wc.cell? ⟨g, i, none⟩ = some (.int .i64 ((vals W).getD i 0))) := fun i hi => by obtain ⟨g, h1, _, h3, _, h2, _⟩ := hroww i hi; exact ⟨g, h1, h2⟩
          have HVK : Hid ((vals W).length = (keys W).length) := by show (vals W).length = (keys W).length; rw [vals_length, keys_length]
          have hkW : (keys W).length ≤ 4097 := by rw [keys_length]; exact hWl
          clear hrowe hroww hlen hget hT hC2 hC3 hC6 hC7 hC8 hW hL hbb
          go_wp2_with (at_len; refine wpList_len_run _ rfl _ 25 rfl _ rfl _ hrl ?_)
          clear hrl hd2 hd3 hd6 hd7
          go_loopw [24] (fun i wr => ∃ t nn : Nat, t ≤ (keys W).length ∧ i = .int .i64 t ∧ wr = wc.drewN nn) (fun i _ => (keys W).length - (intOf i).toNat)
          case atStart => exact ⟨0, 0, Nat.zero_le _, rfl, rfl⟩
          case round =>
            obtain ⟨t, nn, ht, rfl, hwr0⟩ := hrel
            by_cases hlt : t < (keys W).length
            · have hlt' : (t : Int) < ((keys W).length : Int) := by omega
              have hlt2 : (t : Int) < ((vals W).length : Int) := by rw [HVK.out]; exact hlt'
              obtain ⟨ge, rfl, hge⟩ := HRE.out t hlt
              obtain ⟨gw, rfl, hgw⟩ := HRW.out t (by rw [HVK.out]; exact hlt)
              have hg := HG.out t hlt
              obtain ⟨kt, hkt⟩ : ∃ kt, Hid (kt = (keys W).getD t 0) := ⟨_, rfl⟩
              obtain ⟨vt, hvt⟩ : ∃ vt, Hid (vt = (vals W).getD t 0) := ⟨_, rfl⟩
              rw [← hkt.out] at hge hg
              rw [← hvt.out] at hgw hg
              have hlook : ∀ m, (Instr.lookup 25 (.map (some w.heap.size)) (.int .u64 kt) true).run Yba.prog (wr.drewN m) = .ok (.tuple #[.int .i64 vt, .bool true]) (wr.drewN m) := fun m => by
                have := run_look (P := Yba.prog) (w := wr.drewN m) (r := w.heap.size) (l := forgot l k (newCount l k)) (by rw [hwr0]; exact hm3) .u64 Yba.underlying25 Yba.underlying24 (zero3 _) kt true
                rw [hg] at this
                simpa using this
              have he8 : wr.cell? ⟨C, 8, none⟩ = some (.map (some w.heap.size)) := by rw [hwr0]; exact hd8
              have hge' : wr.cell? ⟨ge, t, none⟩ = some (.int .u64 kt) := by rw [hwr0]; exact hge
              have hgw' : wr.cell? ⟨gw, t, none⟩ = some (.int .i64 vt) := by rw [hwr0]; exact hgw
              have hwr : Hid (wr = wc.drewN nn) := hwr0
              clear hwr0 hd8 hge hgw hg hm3
              go_wp2_with fail
              go_quiet (fail)
              go_wp2
              go_roundw
              case rel => exact ⟨t + 1, _, by omega, by go_num, by rw [hwr.out, World.drewN_drewN]⟩
              case measure => simp [intOf]; omega
            · obtain rfl : (keys W).length = t := by omega
              have hwr : Hid (wr = wc.drewN nn) := hwr0
              clear hwr0
              go_wp2
              go_ret
              exact ⟨rfl, by rw [hwr.out]; exact ⟨hbelF.os, hbelF.tape, hbelF.output, hbelF.size, hbelF.block⟩⟩
end Go.Proofs.Ybulkexpko.C
