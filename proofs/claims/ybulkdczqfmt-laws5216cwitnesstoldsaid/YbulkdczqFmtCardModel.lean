/-
  THE TOLD CARD of LawS5216CModel.
-/
import Derived.Test.YbulkdczqFmtCards
import Derived.Test.YbulkdczqFmtModel
import Derived.ProofKit
import Derived.OpenShut
import Derived.ChangeOld
import Derived.Below
import Derived.SevenToldRow
import Derived.Stop.JoinedTold
namespace Go.Proofs.YbulkdczqFmt
open Go.ChangeShapes Go.WideShapes Go.ChangeAt Go.RowKit

theorem Ybaf.own : ownKnob Ybaf.prog.godebug = none := by kernel_rfl
theorem Ybaf.laidOut : laidOutB Ybaf.prog = true := by kernel_rfl
theorem Ybaf.stops : Ybaf.pinned.checked.prog.stops = ["fmt.Sprintf"] := by kernel_rfl
theorem Ybaf.stopKnobs : Ybaf.pinned.checked.prog.stopKnobs = [] := by kernel_rfl
theorem Ybaf.quiet (os : Os) : Stop.quiet Ybaf.pinned.checked.prog os := by
  intro k hk
  rw [Ybaf.stopKnobs] at hk
  cases hk
theorem Ybaf.cells5 : Ybaf.prog.cellsOf 5 = 1 := by kernel_rfl

theorem open_bytes {H : Type} {enc : TypeId × Value → H} {w : World} {fuel : Nat} {a : Option Addr} {len cap : Nat} {x : DataW H × List MemPlace}
    (h : DataW.trod enc Ybaf.prog w 0 (fun _ => true) true fuel 22 [.slice a len cap] = some x) : ∃ zs : List Nat, zs.length = len ∧ Bytes w a zs ∧ ∀ v ∈ zs, v < 256 := by
  rcases open_ints Ybaf.underlying22 Ybaf.underlying5 Ybaf.cells5 h with ⟨hcs, _⟩ | ⟨x', l, c, zs, hcs, _, hl, hm, hz, _, hcell, hwz⟩
  · simp at hcs
    obtain ⟨rfl, rfl, rfl⟩ := hcs
    exact ⟨[], rfl, Or.inl rfl, fun v hv => by cases hv⟩
  · simp at hcs
    obtain ⟨rfl, rfl, rfl⟩ := hcs
    simp only [if_true] at hz
    have hb : ∀ v ∈ zs, 0 ≤ v ∧ v ≤ 255 := fun v hv => by
      have := hwz v hv
      simp [Lit.wf, IntKind.min, IntKind.max, IntKind.signed, IntKind.bits] at this
      omega
    refine ⟨(zs.take len).map Int.toNat, by rw [List.length_map, List.length_take]; omega, ?_, fun v hv => ?_⟩
    · by_cases h0 : len = 0
      · left; rw [h0]; rfl
      right
      obtain ⟨b, o, sp⟩ := x'
      have hsp : sp = none := by simpa [Addr.add] using World.cell?_spot (hcell 0 (by omega))
      subst hsp
      have hc' : ∀ j, j < zs.length → w.cell? ⟨b, o + j, none⟩ = some (.int .u8 (zs.getD j 0)) := fun j hj => by
        have := hcell j hj; rwa [Addr.add_lit] at this
      refine ⟨b, o, rfl, World.block_lt_of_cell? (h := hc' 0 (by omega)), fun i hi => ?_⟩
      have hi2 : i < len ∧ i < zs.length := by rw [List.length_map, List.length_take] at hi; omega
      rw [hc' i hi2.2]
      have hv := hb zs[i] (List.getElem_mem _)
      simp [List.getD_eq_getElem?_getD, List.getElem?_eq_getElem hi2.2, Int.toNat_of_nonneg hv.1]
    · obtain ⟨y, hy, rfl⟩ := List.mem_map.1 hv
      have := hb y (List.mem_of_mem_take hy)
      omega

set_option maxRecDepth 100000 in
theorem model_lifted (os : Os) (started : os.Started) (H : Type) (enc : TypeId × Value → H) :
    ReturnsInTold none {} Ybaf.checked os 3 .any Input.okWide ((OpenSpec.ofChange Rows.lawS5216CModelSpec).preRow enc Ybaf.prog Ybaf.f3 [] false []) (fun F => ((OpenSpec.ofChange Rows.lawS5216CModelSpec).at F).post enc Ybaf.prog Ybaf.f3 false true false false) (aloneAtReturn Ybaf.prog) nothingAlways := by
  refine returnsInTold_of_row (C := Ybaf.checked) (s := OpenSpec.ofChange Rows.lawS5216CModelSpec) (by kernel_rfl) Ybaf.own started (by kernel_rfl) Ybaf.func3
    (OpenSpec.witness_stopped (enc := enc) (C := Ybaf.checked) false ⟨#[], #[.int .u8 0, .slice none 0 0, .slice none 0 0, .bool false], []⟩ 8 (by kernel_rfl) (by kernel_rfl) (by kernel_rfl) (by kernel_rfl)) ?_
  intro F W base args ds gs before _ hF hval0 hW _ _ _ _ _
  have hval : ∀ (j : Nat) t v, Ybaf.f3.params[j]? = some t → args[j]? = some v → Value.okWide Ybaf.prog W .any base t v := hval0
  have hW' := hW
  obtain ⟨p, q, hA0, hV, rfl, hfz, hnd⟩ := hW
  have hA : DataW.TrodAll enc Ybaf.prog W 0 (fun _ => true) true Ybaf.f3.params.toList args.toList ds p := hA0
  rw [Ybaf.params3] at hA hval
  obtain ⟨v0, vs0, d0, ds0, p0, q0, hargs, rfl, rfl, h0, r0⟩ := trodAll_cons hA
  obtain ⟨v1, vs1, d1, ds1, p1, q1, rfl, rfl, rfl, h1, r1⟩ := trodAll_cons r0
  obtain ⟨v2, vs2, d2, ds2, p2, q2, rfl, rfl, rfl, h2, r2⟩ := trodAll_cons r1
  obtain ⟨v3, vs3, d3, ds3, p3, q3, rfl, rfl, rfl, h3, r3⟩ := trodAll_cons r2
  obtain ⟨rfl, rfl, rfl⟩ := trodAll_nil r3
  obtain rfl : args = #[v0, v1, v2, v3] := by cases args; simp_all
  obtain ⟨rfl, rfl⟩ := trodVars_none hV
  obtain ⟨a1, len1, cap1, rfl⟩ := okWide_slice Ybaf.underlying22 (hval 1 22 v1 rfl rfl)
  obtain ⟨a2, len2, cap2, rfl⟩ := okWide_slice Ybaf.underlying22 (hval 2 22 v2 rfl rfl)
  have k1 := h1
  have k2 := h2
  have lt1 : ∀ x ∈ p1, x.block < W.heap.size := by obtain ⟨m, hm⟩ := k1; exact DataW.trod_lt m _ _ _ hm
  have lt2 : ∀ x ∈ p2, x.block < W.heap.size := by obtain ⟨m, hm⟩ := k2; exact DataW.trod_lt m _ _ _ hm
  obtain ⟨n0, rfl, rfl, rfl, w0⟩ := open_int Ybaf.underlying5 (hval 0 5 v0 rfl rfl) h0
  obtain ⟨s3, rfl, rfl, rfl⟩ := open_bool Ybaf.underlying4 (hval 3 4 v3 rfl rfl) h3
  obtain ⟨A, hAl, hAb, hA8⟩ : ∃ zs : List Nat, zs.length = len1 ∧ Bytes W a1 zs ∧ ∀ v ∈ zs, v < 256 := by
    obtain ⟨fuel, hf⟩ := h1
    exact open_bytes (by simpa [Value.cells] using hf)
  obtain ⟨B, hBl, hBb, hB8⟩ : ∃ zs : List Nat, zs.length = len2 ∧ Bytes W a2 zs ∧ ∀ v ∈ zs, v < 256 := by
    obtain ⟨fuel, hf⟩ := h2
    exact open_bytes (by simpa [Value.cells] using hf)
  clear hA0 hval0
  have walk : Calls Ybaf.prog 3 #[.int .u8 n0, .slice a1 len1 cap1, .slice a2 len2 cap2, .bool s3] W fun e w' => e = .returned (.bool true) ∧ Below W.heap.size W w' := by
    by_cases hl : 300 < len1 ∨ 300 < len2
    · exact model_long n0 a1 a2 len1 cap1 len2 cap2 s3 W hl
    have wb := w0
    simp [Lit.wf, IntKind.min, IntKind.max, IntKind.signed, IntKind.bits] at wb
    obtain ⟨N, rfl⟩ := Int.eq_ofNat_of_zero_le (show 0 ≤ n0 by omega)
    subst hAl hBl
    cases s3
    · exact model_false N (by omega) a1 a2 cap1 cap2 A B (by omega) (by omega) hA8 hB8 W hAb hBb
    · exact model_true N (by omega) a1 a2 cap1 cap2 A B (by omega) (by omega) hA8 hB8 W hAb hBb
  refine walk.mono fun e W' ⟨he, bel⟩ => ?_
  subst he
  exact ⟨_, rfl, _, _, _, [], _, [], hW', trodAll_mk1 (shut_bool Ybaf.underlying4 _), (trodAll_cons_mk (shut_int Ybaf.underlying5 w0) (trodAll_cons_mk (Below.trod Ybaf.laidOut (by kernel_rfl) (of_decide_eq_true (by kernel_rfl)) k1 bel lt1) (trodAll_cons_mk (Below.trod Ybaf.laidOut (by kernel_rfl) (of_decide_eq_true (by kernel_rfl)) k2 bel lt2) (trodAll_cons_mk (shut_bool Ybaf.underlying4 _) trodAll_mk0)))), rfl, bel.frame _, fun h => by cases h⟩

/-- THE STATEMENT. -/
theorem model_proved : Rows.LawS5216CModelToldSaid :=
  Claim7.holds_of_told_any 3 Ybaf.f3 "fmt.Sprintf" [] [] _ _ _ (by kernel_rfl) rfl rfl rfl Ybaf.laidOut (by kernel_rfl) rfl ⟨rfl, rfl, rfl, rfl, rfl, rfl, rfl⟩ rfl rfl (by kernel_rfl) (by kernel_rfl) Ybaf.func3 (by kernel_rfl)
    (of_decide_eq_true (by kernel_rfl)) (by unfold Func.isWrapper; first | (rw [if_pos (by decide +kernel)]; kernel_rfl) | (rw [if_neg (by decide +kernel)]; exact ⟨rfl, rfl⟩)) Ybaf.stops.symm rfl Ybaf.stopKnobs.symm (by kernel_rfl)
    (by kernel_rfl) (by kernel_rfl) (by kernel_rfl) (by kernel_rfl) (by kernel_rfl) (by kernel_rfl) (by kernel_rfl) (by kernel_rfl) (by kernel_rfl) rfl (by kernel_rfl) rfl rfl
    rfl rfl
    rfl (by kernel_rfl) (by kernel_rfl) (by kernel_rfl) (by decide) (by kernel_rfl)
    (OpenClaim.moreEntering_of (by kernel_rfl) (by kernel_rfl) (by kernel_rfl) (by kernel_rfl) (by kernel_rfl) (by kernel_rfl) (by kernel_rfl) (by kernel_rfl) (by kernel_rfl) (by kernel_rfl))
    ⟨_, WideRow.started_initial, Ybaf.quiet _⟩
    (fun os started _ H enc _ => model_lifted os started H enc)

end Go.Proofs.YbulkdczqFmt
