/-
  THE STATEMENT, out of the walk.
-/
import Derived.Test.YbulkdczqRows
import Derived.Test.YbulkdczqLaw
import Derived.Test.YbulkdczqArgs
import Derived.ProofKit
namespace Go.Proofs.Ybulkdczq
open Go.ChangeShapes Go.WideShapes Go.ChangeAt Go.RowKit

theorem Yba.own : ownKnob Yba.prog.godebug = none := by kernel_rfl
theorem Yba.laidOut : laidOutB Yba.prog = true := by kernel_rfl

def wit7 : Value := .agg #[.int .u8 0, .int .i16 0, .int .i16 0, .int .i16 0, .int .i16 0, .int .i16 0, .int .i16 0]
def wit15 : Value := .agg #[.int .i16 0, .int .i16 0, .int .u8 0, .int .u8 0, .bool false, .int .i16 0, .int .i16 0, .int .u8 0, .int .u8 0, .bool false, .int .i16 0, .int .i16 0, .int .u8 0, .int .u8 0, .bool false]

set_option maxRecDepth 100000 in
theorem model_lifted (os : Os) (started : os.Started) (H : Type) (enc : TypeId × Value → H) :
    ReturnsInHanded {} Yba.checked os 3 .any (Rows.lawS5216BModelSpec.pre6 enc Yba.prog Yba.f3 Rows.lawS5216BModelRow.domain false) (Rows.lawS5216BModelSpec.post enc Yba.prog Yba.f3 false true false false) := by
  refine returnsInHanded_of_change (C := Yba.checked) Yba.own started (by kernel_rfl) Yba.func3
    (ChangeSpec.witness6 (enc := enc) (C := Yba.checked) false ⟨#[], #[wit7, wit15, .int .u8 0, .int .i16 0, .int .i16 0], []⟩ 8 (by kernel_rfl) (by kernel_rfl) (by kernel_rfl) (by kernel_rfl)) ?_
  intro W base args ds gs before hval0 hW hcnd _
  have hval : ∀ (j : Nat) t v, Yba.f3.params[j]? = some t → args[j]? = some v → Value.okWide Yba.prog W .any base t v := hval0
  have hW' := hW
  obtain ⟨p, q, hA0, hV, rfl, hfz, hnd⟩ := hW
  have hA : DataW.TrodAll enc Yba.prog W 0 (fun _ => true) true Yba.f3.params.toList args.toList ds p := hA0
  rw [Yba.params3] at hA hval
  obtain ⟨v0, vs0, d0, ds0, p0, q0, hargs, rfl, rfl, h0, r0⟩ := trodAll_cons hA
  obtain ⟨v1, vs1, d1, ds1, p1, q1, rfl, rfl, rfl, h1, r1⟩ := trodAll_cons r0
  obtain ⟨v2, vs2, d2, ds2, p2, q2, rfl, rfl, rfl, h2, r2⟩ := trodAll_cons r1
  obtain ⟨v3, vs3, d3, ds3, p3, q3, rfl, rfl, rfl, h3, r3⟩ := trodAll_cons r2
  obtain ⟨v4, vs4, d4, ds4, p4, q4, rfl, rfl, rfl, h4, r4⟩ := trodAll_cons r3
  obtain ⟨rfl, rfl, rfl⟩ := trodAll_nil r4
  obtain rfl : args = #[v0, v1, v2, v3, v4] := by cases args; simp_all
  obtain ⟨rfl, rfl⟩ := trodVars_none hV
  obtain ⟨cs0, rfl, _⟩ := okWide_struct Yba.underlying25 (hval 0 25 v0 rfl rfl)
  obtain ⟨cs1, rfl⟩ := okWide_array Yba.underlying28 (hval 1 28 v1 rfl rfl)
  have k0 := h0
  have k1 := h1
  have lt0 : ∀ x ∈ p0, x.block < W.heap.size := by obtain ⟨m, hm⟩ := k0; exact DataW.trod_lt m _ _ _ hm
  have lt1 : ∀ x ∈ p1, x.block < W.heap.size := by obtain ⟨m, hm⟩ := k1; exact DataW.trod_lt m _ _ _ hm
  obtain ⟨a2, rfl, rfl, rfl, w2⟩ := open_int Yba.underlying5 (hval 2 5 v2 rfl rfl) h2
  obtain ⟨a3, rfl, rfl, rfl, w3⟩ := open_int Yba.underlying22 (hval 3 22 v3 rfl rfl) h3
  obtain ⟨a4, rfl, rfl, rfl, w4⟩ := open_int Yba.underlying22 (hval 4 22 v4 rfl rfl) h4
  obtain ⟨t, ht, tok⟩ : ∃ t : Ty, cs0 = tsrc t ∧ t.ok := by
    obtain ⟨fuel, hf⟩ := h0
    obtain ⟨t, e, k⟩ := open_tally (cs := cs0.toList) (by simpa [Value.cells] using hf)
    exact ⟨t, by simpa using e, k⟩
  obtain ⟨q, hq, qok⟩ : ∃ q : Nat → Rp, cs1 = srcOf q ∧ ∀ i, i < 3 → (q i).ok := by
    obtain ⟨fuel, hf⟩ := h1
    obtain ⟨t, e, k⟩ := open_picks (cs := cs1.toList) (by simpa [Value.cells] using hf)
    exact ⟨t, by simpa using e, k⟩
  clear hA0 hval0
  have walk : Calls Yba.prog 3 #[.agg cs0, .agg cs1, .int .u8 a2, .int .i16 a3, .int .i16 a4] W fun e w' => e = .returned (.bool true) ∧ Below W.heap.size W w' := by
    have e2 := w2; have e3 := w3; have e4 := w4
    simp [Lit.wf, IntKind.min, IntKind.max, IntKind.signed, IntKind.bits] at e2 e3 e4
    subst ht hq
    exact law_any t q a2 a3 a4 W tok qok ⟨by omega, by omega⟩ ⟨by omega, by omega⟩ ⟨by omega, by omega⟩
  refine walk.mono fun e W' ⟨he, bel⟩ => ?_
  subst he
  exact ⟨_, rfl, _, _, _, [], _, [], hW', trodAll_mk1 (shut_bool Yba.underlying4 _), (trodAll_cons_mk (Below.trod Yba.laidOut (by kernel_rfl) (of_decide_eq_true (by kernel_rfl)) k0 bel lt0) (trodAll_cons_mk (Below.trod Yba.laidOut (by kernel_rfl) (of_decide_eq_true (by kernel_rfl)) k1 bel lt1) (trodAll_cons_mk (shut_int Yba.underlying5 w2) (trodAll_cons_mk (shut_int Yba.underlying22 w3) (trodAll_cons_mk (shut_int Yba.underlying22 w4) trodAll_mk0))))), rfl, bel.frame _, fun h => by cases h⟩

/-- THE STATEMENT. -/
theorem model_proved : Rows.LawS5216BModelSaid :=
  OpenClaim.holds_of_wide 3 Yba.f3 rfl rfl rfl rfl rfl rfl rfl ⟨rfl, rfl, rfl, rfl, rfl⟩ rfl rfl rfl rfl rfl (by kernel_rfl) Yba.func3 (by kernel_rfl)
    (of_decide_eq_true (by kernel_rfl)) (by unfold Func.isWrapper; first | (rw [if_pos (by decide +kernel)]; kernel_rfl) | (rw [if_neg (by decide +kernel)]; exact ⟨rfl, rfl⟩))
    (fun os started H enc _ => model_lifted os started H enc)

end Go.Proofs.Ybulkdczq
