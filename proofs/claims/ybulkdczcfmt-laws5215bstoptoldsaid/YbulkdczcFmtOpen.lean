/-
  A slice of int64 that came in, opened.
-/
import Derived.Test.YbulkdczcFmtLawAll
import Derived.ProofKit
namespace Go.Proofs.YbulkdczcFmt
open Go.RowKit Go.ChangeShapes Go.WideShapes

theorem Ybaf.cells2 : Ybaf.prog.cellsOf 2 = 1 := by kernel_rfl

theorem in64_of_wf {n : Int} (h : (Lit.int .i64 n).wf = true) : in64 n := by
  simp [Lit.wf, IntKind.min, IntKind.max, IntKind.signed, IntKind.bits] at h
  exact ⟨by omega, by omega⟩

theorem open_in {H : Type} {enc : TypeId × Value → H} {w : World} {fuel : Nat} {a : Option Addr} {len cap : Nat} {x : DataW H × List MemPlace}
    (h : DataW.trod enc Ybaf.prog w 0 (fun _ => true) true fuel 22 [.slice a len cap] = some x) :
    ∃ zs : List Int, zs.length = len ∧ IsIn w a zs ∧ ∀ v ∈ zs, in64 v := by
  rcases open_ints Ybaf.underlying22 Ybaf.underlying2 Ybaf.cells2 h with ⟨hcs, _⟩ | ⟨x', l, c, zs, hcs, _, hl, hm, hz, _, hcell, hwz⟩
  · simp at hcs
    obtain ⟨rfl, rfl, rfl⟩ := hcs
    exact ⟨[], rfl, Or.inl rfl, fun v hv => by cases hv⟩
  · simp at hcs
    obtain ⟨rfl, rfl, rfl⟩ := hcs
    simp only [if_true] at hz
    refine ⟨zs.take len, by rw [List.length_take]; omega, ?_, fun v hv => in64_of_wf (hwz v (List.mem_of_mem_take hv))⟩
    by_cases h0 : len = 0
    · left; rw [h0]; rfl
    right
    obtain ⟨b, o, sp⟩ := x'
    have hsp : sp = none := by simpa [Addr.add] using World.cell?_spot (hcell 0 (by omega))
    subst hsp
    have hc' : ∀ j, j < zs.length → w.cell? ⟨b, o + j, none⟩ = some (.int .i64 (zs.getD j 0)) := fun j hj => by
      have := hcell j hj; rwa [Addr.add_lit] at this
    refine ⟨b, o, rfl, World.block_lt_of_cell? (h := hc' 0 (by omega)), fun i hi => ?_⟩
    have hi' : i < zs.length := by rw [List.length_take] at hi; omega
    rw [hc' i hi']
    simp [List.getD, List.getElem?_eq_getElem hi']

end Go.Proofs.YbulkdczcFmt
