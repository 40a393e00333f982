/-
  A slice of letters that came in, opened.
-/
import Derived.Test.YbulkdczcCounts
import Derived.ProofKit
import Derived.Deep.Slices
import Derived.Deep.Strs
namespace Go.Proofs.Ybulkdczc
open Go.RowKit Go.Sort Go.Deep Go.ChangeShapes Go.WideShapes

theorem Yba.cells40 : Yba.prog.cellsOf 40 = 3 := by kernel_rfl
theorem Yba.cells26 : Yba.prog.cellsOf 26 = 1 := by kernel_rfl

theorem u32_of_wf {n : Int} (h : (Lit.int .u32 n).wf = true) : ∃ u : UInt32, n = (u.toNat : Nat) := by
  simp [Lit.wf, IntKind.min, IntKind.max, IntKind.signed, IntKind.bits] at h
  refine ⟨UInt32.ofNat n.toNat, ?_⟩
  rw [UInt32.toNat_ofNat']
  omega

theorem open_one {H : Type} {enc : TypeId × Value → H} {w : World} {spare : Nat → Bool} {fuel : Nat} {cs : List Value} {x : DataW H × List MemPlace} (h : DataW.trod enc Yba.prog w 0 spare true fuel 40 cs = some x) :
    ∃ l : Let, cs = encL l := by
  obtain ⟨y0, y1, y2, n, _, hlen, h0, h1, h2⟩ := trod_struct3 Yba.underlying40 h
  obtain ⟨n0, e0, _, w0⟩ := DataW.trod_int Yba.underlying26 h0
  obtain ⟨n1, e1, _, w1⟩ := DataW.trod_int Yba.underlying26 h1
  obtain ⟨n2, e2, _, w2⟩ := DataW.trod_int Yba.underlying26 h2
  rw [Yba.cells40] at hlen
  obtain ⟨a, b, c, rfl⟩ : ∃ a b c, cs = [a, b, c] := by
    match cs, hlen with
    | [a, b, c], _ => exact ⟨a, b, c, rfl⟩
  simp [Yba.cells26] at e0 e1 e2
  subst e0 e1 e2
  obtain ⟨u0, rfl⟩ := u32_of_wf w0
  obtain ⟨u1, rfl⟩ := u32_of_wf w1
  obtain ⟨u2, rfl⟩ := u32_of_wf w2
  exact ⟨(u0, u1, u2), rfl⟩

theorem open_letters {H : Type} {enc : TypeId × Value → H} {w : World} {fuel : Nat} {a : Option Addr} {len cap : Nat} {x : DataW H × List MemPlace}
    (h : DataW.trod enc Yba.prog w 0 (fun _ => true) true fuel 22 [.slice a len cap] = some x) :
    ∃ d : Array Let, d.size = len ∧ (len = 0 ∨ ∃ b o, a = some ⟨b, o, none⟩ ∧ b < w.heap.size ∧ Reads w b o d) := by
  rcases open_slice Yba.underlying22 h with ⟨h0, _⟩ | ⟨a', len', cap', m, n, D, Pl, hcs, _, hl, _, hm, _, hel⟩
  · simp at h0
    exact ⟨#[], by simp [h0.2.1], Or.inl h0.2.1⟩
  simp at hcs
  obtain ⟨rfl, rfl, rfl⟩ := hcs
  simp only [if_true] at hm
  subst hm
  rw [Yba.cells40] at hel
  obtain ⟨f, hf⟩ := choose_lt (α := Let) (n := len) (p := fun i l => w.cells? 0 (a'.add (i * 3)) 3 = some (encL l)) (fun i hi => by
    obtain ⟨cs', h1, h2⟩ := hel i (by omega)
    obtain ⟨l, rfl⟩ := open_one h2
    exact ⟨l, h1⟩)
  refine ⟨(Array.range len).map f, by simp, ?_⟩
  by_cases h0 : len = 0
  · exact Or.inl h0
  right
  have hc : ∀ i, i < len → ∀ j, j < 3 → w.cell? ((a'.add (i * 3)).add j) = (encL (f i))[j]? := fun i hi j hj => (World.cells?_some (hf i hi)).2.2 j hj
  have hsp : a'.spot = none := by
    have := hc 0 (by omega) 0 (by omega)
    have e : (encL (f 0))[0]? = some (.int .u32 (f 0).1.toNat) := rfl
    rw [e] at this
    simpa [Addr.add] using World.cell?_spot this
  obtain ⟨b, o, sp⟩ := a'
  simp only at hsp
  subst hsp
  have hc' : ∀ i, i < len → ∀ j, j < 3 → w.cell? ⟨b, o + i * 3 + j, none⟩ = (encL (f i))[j]? := fun i hi j hj => by
    have := hc i hi j hj
    rwa [Addr.add_lit, Addr.add_lit] at this
  refine ⟨b, o, rfl, ?_, ?_⟩
  · have := hc' 0 (by omega) 0 (by omega)
    have e : (encL (f 0))[0]? = some (.int .u32 (f 0).1.toNat) := rfl
    rw [e] at this
    exact World.block_lt_of_cell? (h := this)
  · intro j hj
    have hj' : j < len := by simpa using hj
    have e : ((Array.range len).map f)[j]! = f j := by
      rw [getElem!_pos _ j hj]; simp
    rw [e]
    exact ⟨hc' j hj' 0 (by omega), hc' j hj' 1 (by omega), hc' j hj' 2 (by omega)⟩

end Go.Proofs.Ybulkdczc
