/-
  OUR OWN, after the shell of seat b194129a: the row of 'Rows.LawS194139AWholeSaid'.
-/
import Derived.Test.YbulkexppkRows
import Derived.WalkKit
import Derived.ProofKit
import Derived.OpenShut
import Derived.ShutString
import Derived.ChangeOld
import Derived.Below
import Derived.Deep.Slices
import Derived.Test.YbulkexppkWalk
namespace Go.Proofs.Ybulkexppk.lawS194139AWhole
open Go.ChangeShapes Go.WideShapes Go.ChangeAt Go.RowKit
open Go.ChangeMaps (open_string shut_string)
open Mem C
set_option linter.unusedVariables false

theorem own : ownKnob Yba.prog.godebug = none := by kernel_rfl
theorem laidOut : laidOutB Yba.prog = true := by kernel_rfl
theorem cells29 : Yba.prog.cellsOf 29 = 5 := by kernel_rfl
theorem cells9 : Yba.prog.cellsOf 9 = 1 := by kernel_rfl
theorem cells3 : Yba.prog.cellsOf 3 = 1 := by kernel_rfl
theorem cells5 : Yba.prog.cellsOf 5 = 1 := by kernel_rfl
theorem cells4 : Yba.prog.cellsOf 4 = 1 := by kernel_rfl

/-- A token that can be read is a token's five cells. -/
theorem arg_tok {H : Type} {enc : TypeId × Value → H} {W : World} {base : Nat} {spare : Nat → Bool} {held : Bool} {n : Nat} {cs : List Value} {x : DataW H × List MemPlace}
    (h : DataW.trod enc Yba.prog W base spare held n 29 cs = some x) : ∃ t : Tok, cs = t.cs := by
  obtain ⟨xs, n', _, _, hl, hlen, hf⟩ := DataW.trod_struct Yba.underlying29 h
  rw [cells29] at hl
  have hlen5 : xs.length = 5 := hlen
  match cs, hl, xs, hlen5 with
  | [c0, c1, c2, c3, c4], _, [y0, y1, y2, y3, y4], _ =>
    have h0 := hf 0 _ rfl
    have h1 := hf 1 _ rfl
    have h2 := hf 2 _ rfl
    have h3 := hf 3 _ rfl
    have h4 := hf 4 _ rfl
    simp [cells9, cells3, cells5, cells4] at h0 h1 h2 h3 h4
    obtain ⟨s0, e0, _⟩ := DataW.trod_string Yba.underlying9 h0
    obtain ⟨s1, e1, _⟩ := DataW.trod_string Yba.underlying9 h1
    obtain ⟨s2, e2, _⟩ := DataW.trod_int Yba.underlying3 h2
    obtain ⟨s3, e3, _⟩ := DataW.trod_int Yba.underlying5 h3
    obtain ⟨s4, e4, _⟩ := DataW.trod_bool Yba.underlying4 h4
    simp at e0 e1 e2 e3 e4
    exact ⟨⟨s0, s1, s2, s3, s4⟩, by simp [Tok.cs, e0, e1, e2, e3, e4]⟩

theorem arg_at {W : World} {base : Nat} {a : Addr} {i : Nat} {t : Tok} (h : W.cells? base (a.add (i * 5)) 5 = some t.cs) (ha : a.spot = none) : ArgTok W (some a) i t := by
  obtain ⟨b, off, spot⟩ := a
  simp only at ha
  subst ha
  obtain ⟨_, _, hc⟩ := World.cells?_some h
  have hc' : ∀ j, j < 5 → W.cell? ⟨b, off + i * 5 + j, none⟩ = t.cs[j]? := fun j hj => by
    have := hc j hj
    rw [Addr.add_lit, Addr.add_lit] at this
    exact this
  have h0 := hc' 0 (by omega)
  exact ⟨b, off, rfl, World.block_lt_of_cell? W ⟨b, off + i * 5 + 0, none⟩ h0, h0, hc' 1 (by omega), hc' 2 (by omega), hc' 3 (by omega), hc' 4 (by omega)⟩

/-- What the walk is told of the slice. -/
def IsToks (W : World) (a : Option Addr) (len : Nat) : Prop := len ≤ maxLen ∧ ∃ f : Nat → Tok, ∀ i, i < len → ArgTok W a i (f i)

theorem toks_of {H : Type} {enc : TypeId × Value → H} {W : World} {spare : Nat → Bool} {held : Bool} {fuel : Nat} {a0 : Option Addr} {len0 cap0 : Nat} {x : DataW H × List MemPlace}
    (hf : DataW.trod enc Yba.prog W 0 spare held fuel 22 [.slice a0 len0 cap0] = some x) : IsToks W a0 len0 := by
  rcases Deep.open_slice Yba.underlying22 hf with ⟨hcs, _⟩ | ⟨a, len, cap, m, n, D, Pl, hcs, _, hl, hm, hmm, _, hx⟩
  · simp at hcs
    obtain ⟨_, rfl, _⟩ := hcs
    exact ⟨Nat.zero_le _, fun _ => zeroT, fun i hi => by omega⟩
  · simp at hcs
    obtain ⟨rfl, rfl, rfl⟩ := hcs
    rw [cells29] at hx
    have hlm : len0 ≤ m := by rw [hmm]; split <;> omega
    refine ⟨by omega, ?_⟩
    by_cases h0 : len0 = 0
    · exact ⟨fun _ => zeroT, fun i hi => by omega⟩
    · have hsp : a.spot = none := by
        obtain ⟨cs', h1, h2⟩ := hx 0 (by omega)
        obtain ⟨t, rfl⟩ := arg_tok h2
        have := (World.cells?_some h1).2.2 0 (by omega)
        rw [show (a.add (0 * 5)).add 0 = a by simp [Addr.add]] at this
        exact World.cell?_spot (v := .string t.t) this
      have hall : ∀ i, i < len0 → ∃ t : Tok, ArgTok W (some a) i t := fun i hi => by
        obtain ⟨cs', h1, h2⟩ := hx i (by omega)
        obtain ⟨t, rfl⟩ := arg_tok h2
        exact ⟨t, arg_at h1 hsp⟩
      refine ⟨fun i => if hi : i < len0 then (hall i hi).choose else zeroT, fun i hi => ?_⟩
      simp only [dif_pos hi]
      exact (hall i hi).choose_spec

set_option maxRecDepth 1000000 in
set_option maxHeartbeats 2000000 in
theorem walk (a0 : Option Addr) (len0 cap0 : Nat) (a1 : Int) (a2 : Bool) (a3 : Int) (w : World) (w0 : IsToks w a0 len0) (w1 : (Lit.int .i64 a1).wf = true) :
    Calls Yba.prog 3 #[.slice a0 len0 cap0, .int .i64 a1, .bool a2, .int .i64 a3] w fun e w' => e = .returned (.bool true) ∧ Below w.heap.size w w' := by
  obtain ⟨hm, f, hf⟩ := w0
  unfold maxLen at hm
  have hb : -9223372036854775808 ≤ a1 ∧ a1 ≤ 9223372036854775807 := by
    simp [Lit.wf, IntKind.min, IntKind.max, IntKind.signed, IntKind.bits] at w1
    exact ⟨by omega, by omega⟩
  by_cases hN : len0 ≤ 1048576
  · exact C.walk a0 len0 cap0 a1 a2 a3 w hN hb.1 hb.2 f hf
  · have h1 : (1048576 : Int) < (len0 : Int) := by omega
    clear hf
    go_enter Yba.func3, Yba.ntmps3
    go_wp2
    go_ret
    exact ⟨rfl, Below.refl _ _⟩

set_option maxRecDepth 100000 in
theorem lifted (os : Os) (started : os.Started) (H : Type) (enc : TypeId × Value → H) :
    ReturnsInHanded {} Yba.checked os 3 .any (Rows.lawS194139AWholeSpec.pre6 enc Yba.prog Yba.f3 Rows.lawS194139AWholeRow.domain false) (Rows.lawS194139AWholeSpec.post enc Yba.prog Yba.f3 false true false false) := by
  refine returnsInHanded_of_change (C := Yba.checked) own started (by kernel_rfl) Yba.func3
    (ChangeSpec.witness6 (enc := enc) (C := Yba.checked) false ⟨#[], #[.slice none 0 0, .int .i64 0, .bool false, .int .i64 0], []⟩ 8 (by kernel_rfl) (by kernel_rfl) (by kernel_rfl) (by kernel_rfl)) ?_
  intro W base args ds gs before hval0 hW hcnd _
  have hval : ∀ (j : Nat) t v, Yba.f3.params[j]? = some t → args[j]? = some v → Value.okWide Yba.prog W .any base t v := hval0
  have hW' := hW
  obtain ⟨p, q, hA0, hV, rfl, hfz, hnd⟩ := hW
  have hA : DataW.TrodAll enc Yba.prog W 0 (fun _ => true) true Yba.f3.params.toList args.toList ds p := hA0
  rw [Yba.params3] at hA hval
  obtain ⟨v0, vs0, d0, ds0, p0, q0, hargs, rfl, rfl, h0, r0⟩ := trodAll_cons hA
  obtain ⟨v1, vs1, d1, ds1, p1, q1, rfl, rfl, rfl, h1, r1⟩ := trodAll_cons r0
  obtain ⟨v2, vs2, d2, ds2, p2, q2, rfl, rfl, rfl, h2, r2⟩ := trodAll_cons r1
  obtain ⟨v3, vs3, d3, ds3, p3, q3, rfl, rfl, rfl, h3, r3⟩ := trodAll_cons r2
  obtain ⟨rfl, rfl, rfl⟩ := trodAll_nil r3
  obtain rfl : args = #[v0, v1, v2, v3] := by cases args; simp_all
  obtain ⟨rfl, rfl⟩ := trodVars_none hV
  obtain ⟨a0, len0, cap0, rfl⟩ := okWide_slice Yba.underlying22 (hval 0 22 v0 rfl rfl)
  have k0 := h0
  have lt0 : ∀ x ∈ p0, x.block < W.heap.size := by obtain ⟨m, hm⟩ := k0; exact DataW.trod_lt m _ _ _ hm
  have w0 : IsToks W a0 len0 := by
    obtain ⟨fuel, hf⟩ := h0
    simp only [Value.cells] at hf
    exact toks_of hf
  obtain ⟨a1, rfl, rfl, rfl, w1⟩ := open_int Yba.underlying3 (hval 1 3 v1 rfl rfl) h1
  obtain ⟨a2, rfl, rfl, rfl⟩ := open_bool Yba.underlying4 (hval 2 4 v2 rfl rfl) h2
  obtain ⟨a3, rfl, rfl, rfl, w3⟩ := open_int Yba.underlying3 (hval 3 3 v3 rfl rfl) h3
  clear hA0 hval0
  refine (walk a0 len0 cap0 a1 a2 a3 W w0 w1).mono fun e W' ⟨he, bel⟩ => ?_
  subst he
  exact ⟨_, rfl, _, _, _, [], _, [], hW', trodAll_mk1 (shut_bool Yba.underlying4 _), (trodAll_cons_mk (Below.trod laidOut (by kernel_rfl) (of_decide_eq_true (by kernel_rfl)) k0 bel lt0) (trodAll_cons_mk (shut_int Yba.underlying3 w1) (trodAll_cons_mk (shut_bool Yba.underlying4 _) (trodAll_cons_mk (shut_int Yba.underlying3 w3) trodAll_mk0)))), rfl, bel.frame _, fun h => by cases h⟩

theorem over : Rows.lawS194139AWholeRow.holds Yba.pinned (OpenSpec.ofChange Rows.lawS194139AWholeSpec) :=
  OpenClaim.holds_of_wide 3 Yba.f3 rfl rfl rfl rfl rfl rfl rfl ⟨rfl, rfl, rfl, rfl, rfl⟩ rfl rfl rfl rfl rfl (by kernel_rfl) Yba.func3 (by kernel_rfl)
    (of_decide_eq_true (by kernel_rfl)) (by unfold Func.isWrapper; first | (rw [if_pos (by decide +kernel)]; kernel_rfl) | (rw [if_neg (by decide +kernel)]; exact ⟨rfl, rfl⟩))
    (fun os started H enc _ => lifted os started H enc)

/-- ████ THE STATEMENT ████ -/
theorem proved : Rows.LawS194139AWholeSaid := over
#print axioms proved
end Go.Proofs.Ybulkexppk.lawS194139AWhole
