/-
  THE STATEMENT, out of the walk.
-/
import Derived.Test.YbulkddgcRows
import Derived.Test.YbulkddgcLaw
import Derived.ProofKit
import Derived.OpenShut
import Derived.ChangeOld
import Derived.Below
import Derived.Deep.SlicePairs
namespace Go.Proofs.Ybulkddgc
open Go.ChangeShapes Go.WideShapes Go.ChangeAt Go.RowKit Go.Deep

theorem Yba.own : ownKnob Yba.prog.godebug = none := by kernel_rfl
theorem Yba.laidOut : laidOutB Yba.prog = true := by kernel_rfl
theorem Yba.cells5 : Yba.prog.cellsOf 5 = 1 := by kernel_rfl
theorem Yba.cells30 : Yba.prog.cellsOf 30 = 2 := by kernel_rfl

theorem open_bytes {H : Type} {enc : TypeId × Value → H} {w : World} {fuel : Nat} {a : Option Addr} {len cap : Nat} {x : DataW H × List MemPlace}
    (h : DataW.trod enc Yba.prog w 0 (fun _ => true) true fuel 22 [.slice a len cap] = some x) : ∃ zs : List Int, zs.length = len ∧ Bytes w a zs := by
  rcases open_ints Yba.underlying22 Yba.underlying5 Yba.cells5 h with ⟨hcs, _⟩ | ⟨x', l, c, zs, hcs, _, hl, hm, hz, _, hcell, hwz⟩
  · simp at hcs
    obtain ⟨rfl, rfl, rfl⟩ := hcs
    exact ⟨[], rfl, Or.inl rfl⟩
  · simp at hcs
    obtain ⟨rfl, rfl, rfl⟩ := hcs
    simp only [if_true] at hz
    refine ⟨zs.take len, by rw [List.length_take]; omega, ?_⟩
    by_cases h0 : len = 0
    · left; rw [h0]; rfl
    right
    obtain ⟨b, o, sp⟩ := x'
    have hsp : sp = none := by simpa [Addr.add] using World.cell?_spot (hcell 0 (by omega))
    subst hsp
    have hc' : ∀ j, j < zs.length → w.cell? ⟨b, o + j, none⟩ = some (.int .u8 (zs.getD j 0)) := fun j hj => by
      have := hcell j hj; rwa [Addr.add_lit] at this
    refine ⟨b, o, rfl, fun i hi => ?_⟩
    have hi2 : i < len ∧ i < zs.length := by rw [List.length_take] at hi; omega
    rw [hc' i hi2.2]
    simp [List.getD_eq_getElem?_getD, hi2.1]

theorem u8_of_trod {H : Type} {enc : TypeId × Value → H} {w : World} {base n : Nat} {spare : Nat → Bool} {held : Bool} {c : Value} {x : DataW H × List MemPlace} (h : DataW.trod enc Yba.prog w base spare held n 5 [c] = some x) : ∃ k, c = .int .u8 k ∧ 0 ≤ k ∧ k ≤ 255 := by
  obtain ⟨k, h1, _, h2⟩ := DataW.trod_int Yba.underlying5 h
  simp [Lit.wf, IntKind.min, IntKind.max, IntKind.signed, IntKind.bits] at h2
  exact ⟨k, by simpa using h1, by omega⟩

theorem open_steps {H : Type} {enc : TypeId × Value → H} {w : World} {fuel : Nat} {a : Option Addr} {len cap : Nat} {x : DataW H × List MemPlace}
    (h : DataW.trod enc Yba.prog w 0 (fun _ => true) true fuel 23 [.slice a len cap] = some x) :
    ∃ ss : List (Int × Int), ss.length = len ∧ Steps w a ss ∧ ∀ s ∈ ss, (0 ≤ s.1 ∧ s.1 ≤ 255) ∧ (0 ≤ s.2 ∧ s.2 ≤ 255) := by
  rcases open_slice_pairs Yba.underlying23 Yba.underlying30 Yba.cells30 rfl rfl Yba.cells5 Yba.cells5 h with ⟨hcs, _⟩ | ⟨a', l, c, m, n, V0, V1, D0, D1, P0, P1, hcs, _, hl, _, hm, _, hel⟩
  · simp at hcs
    obtain ⟨rfl, rfl, rfl⟩ := hcs
    exact ⟨[], rfl, Or.inl rfl, fun v hv => by cases hv⟩
  · simp at hcs
    obtain ⟨rfl, rfl, rfl⟩ := hcs
    simp only [if_true] at hm
    subst hm
    obtain ⟨f, hf⟩ := choose_lt (α := Int × Int) (n := len) (p := fun i s => w.cell? (a'.add (i * 2)) = some (.int .u8 s.1) ∧ w.cell? (a'.add (i * 2 + 1)) = some (.int .u8 s.2) ∧ (0 ≤ s.1 ∧ s.1 ≤ 255) ∧ (0 ≤ s.2 ∧ s.2 ≤ 255)) (fun i hi => by
      obtain ⟨h1, h2, h3, h4⟩ := hel i (by omega)
      obtain ⟨k1, e1, b1⟩ := u8_of_trod h3
      obtain ⟨k2, e2, b2⟩ := u8_of_trod h4
      exact ⟨(k1, k2), by rw [h1, e1], by rw [h2, e2], b1, b2⟩)
    refine ⟨(List.range len).map f, by simp, ?_, fun s hs => ?_⟩
    · by_cases h0 : len = 0
      · left; rw [h0]; rfl
      right
      obtain ⟨b, o, sp⟩ := a'
      have hsp : sp = none := by simpa [Addr.add] using World.cell?_spot (hf 0 (by omega)).1
      subst hsp
      have hc : ∀ j, j < len → w.cell? ⟨b, o + j * 2, none⟩ = some (.int .u8 (f j).1) ∧ w.cell? ⟨b, o + j * 2 + 1, none⟩ = some (.int .u8 (f j).2) := fun j hj => by
        have h1 := (hf j hj).1
        have h2 := (hf j hj).2.1
        rw [Addr.add_lit] at h1 h2
        exact ⟨h1, by rw [← h2]; congr 2⟩
      refine ⟨b, o, rfl, World.block_lt_of_cell? (h := (hc 0 (by omega)).1), fun j hj => ?_⟩
      have hj' : j < len := by simpa using hj
      have e : ((List.range len).map f).getD j (0, 0) = f j := by simp [List.getD_eq_getElem?_getD, hj']
      rw [e]
      exact hc j hj'
    · obtain ⟨i, hi, rfl⟩ := List.mem_map.1 hs
      exact (hf i (by simpa using hi)).2.2

set_option maxRecDepth 100000 in
theorem add_lifted (os : Os) (started : os.Started) (H : Type) (enc : TypeId × Value → H) :
    ReturnsInHanded {} Yba.checked os 3 .any (Rows.lawS5228AAddSpec.pre6 enc Yba.prog Yba.f3 Rows.lawS5228AAddRow.domain false) (Rows.lawS5228AAddSpec.post enc Yba.prog Yba.f3 false true false false) := by
  refine returnsInHanded_of_change (C := Yba.checked) Yba.own started (by kernel_rfl) Yba.func3
    (ChangeSpec.witness6 (enc := enc) (C := Yba.checked) false ⟨#[], #[.slice none 0 0, .int .u8 0, .slice none 0 0], []⟩ 8 (by kernel_rfl) (by kernel_rfl) (by kernel_rfl) (by kernel_rfl)) ?_
  intro W base args ds gs before hval0 hW hcnd _
  have hval : ∀ (j : Nat) t v, Yba.f3.params[j]? = some t → args[j]? = some v → Value.okWide Yba.prog W .any base t v := hval0
  have hW' := hW
  obtain ⟨p, q, hA0, hV, rfl, hfz, hnd⟩ := hW
  have hA : DataW.TrodAll enc Yba.prog W 0 (fun _ => true) true Yba.f3.params.toList args.toList ds p := hA0
  rw [Yba.params3] at hA hval
  obtain ⟨v0, vs0, d0, ds0, p0, q0, hargs, rfl, rfl, h0, r0⟩ := trodAll_cons hA
  obtain ⟨v1, vs1, d1, ds1, p1, q1, rfl, rfl, rfl, h1, r1⟩ := trodAll_cons r0
  obtain ⟨v2, vs2, d2, ds2, p2, q2, rfl, rfl, rfl, h2, r2⟩ := trodAll_cons r1
  obtain ⟨rfl, rfl, rfl⟩ := trodAll_nil r2
  obtain rfl : args = #[v0, v1, v2] := by cases args; simp_all
  obtain ⟨rfl, rfl⟩ := trodVars_none hV
  obtain ⟨a0, len0, cap0, rfl⟩ := okWide_slice Yba.underlying22 (hval 0 22 v0 rfl rfl)
  obtain ⟨a2, len2, cap2, rfl⟩ := okWide_slice Yba.underlying23 (hval 2 23 v2 rfl rfl)
  have k0 := h0
  have k2 := h2
  have lt0 : ∀ x ∈ p0, x.block < W.heap.size := by obtain ⟨m, hm⟩ := k0; exact DataW.trod_lt m _ _ _ hm
  have lt2 : ∀ x ∈ p2, x.block < W.heap.size := by obtain ⟨m, hm⟩ := k2; exact DataW.trod_lt m _ _ _ hm
  obtain ⟨a1, rfl, rfl, rfl, w1⟩ := open_int Yba.underlying5 (hval 1 5 v1 rfl rfl) h1
  obtain ⟨xs, hxl, hxs⟩ : ∃ xs : List Int, xs.length = len0 ∧ Bytes W a0 xs := by
    obtain ⟨fuel, hf⟩ := h0
    exact open_bytes (by simpa [Value.cells] using hf)
  obtain ⟨ss, hsl, hss, hsu⟩ : ∃ ss : List (Int × Int), ss.length = len2 ∧ Steps W a2 ss ∧ ∀ s ∈ ss, (0 ≤ s.1 ∧ s.1 ≤ 255) ∧ (0 ≤ s.2 ∧ s.2 ≤ 255) := by
    obtain ⟨fuel, hf⟩ := h2
    exact open_steps (by simpa [Value.cells] using hf)
  clear hA0 hval0
  have walk : Calls Yba.prog 3 #[.slice a0 len0 cap0, .int .u8 a1, .slice a2 len2 cap2] W fun e w' => e = .returned (.bool true) ∧ Below W.heap.size W w' := by
    by_cases hl : 4096 < len0 ∨ 1024 < len2
    · exact law_long a0 a2 len0 cap0 len2 cap2 a1 W hl
    have e1 := w1
    simp [Lit.wf, IntKind.min, IntKind.max, IntKind.signed, IntKind.bits] at e1
    subst hxl hsl
    exact law_any a0 a2 cap0 cap2 a1 xs ss W (by omega) (by omega) ⟨by omega, by omega⟩ hxs hss hsu
  refine walk.mono fun e W' ⟨he, bel⟩ => ?_
  subst he
  exact ⟨_, rfl, _, _, _, [], _, [], hW', trodAll_mk1 (shut_bool Yba.underlying4 _), (trodAll_cons_mk (Below.trod Yba.laidOut (by kernel_rfl) (of_decide_eq_true (by kernel_rfl)) k0 bel lt0) (trodAll_cons_mk (shut_int Yba.underlying5 w1) (trodAll_cons_mk (Below.trod Yba.laidOut (by kernel_rfl) (of_decide_eq_true (by kernel_rfl)) k2 bel lt2) trodAll_mk0))), rfl, bel.frame _, fun h => by cases h⟩

/-- THE STATEMENT. -/
theorem add_proved : Rows.LawS5228AAddSaid :=
  OpenClaim.holds_of_wide 3 Yba.f3 rfl rfl rfl rfl rfl rfl rfl ⟨rfl, rfl, rfl, rfl, rfl⟩ rfl rfl rfl rfl rfl (by kernel_rfl) Yba.func3 (by kernel_rfl)
    (of_decide_eq_true (by kernel_rfl)) (by unfold Func.isWrapper; first | (rw [if_pos (by decide +kernel)]; kernel_rfl) | (rw [if_neg (by decide +kernel)]; exact ⟨rfl, rfl⟩))
    (fun os started H enc _ => add_lifted os started H enc)

end Go.Proofs.Ybulkddgc
