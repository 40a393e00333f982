/-
  THE ARGUMENTS OF THE LAW, OPENED.
-/
import Derived.Test.YbulkdczqTake
import Derived.Test.YbulkdczqBuild
import Derived.Laws.IdiomArrays
import Derived.OpenShut
import Derived.ChangeOld
import Derived.Below
namespace Go.Proofs.Ybulkdczq
open Go.ChangeShapes Go.WideShapes Go.RowKit

def tsrc (t : Ty) : Array Value := #[.int .u8 t.ops, .int .i16 t.p0, .int .i16 t.p1, .int .i16 t.p2, .int .i16 t.o0, .int .i16 t.o1, .int .i16 t.o2]

variable {H : Type} {enc : TypeId × Value → H} {W : World} {base : Nat} {spare : Nat → Bool} {held : Bool}

theorem okWide_array {P : Program} {w : World} {r : Reach} {b0 : Nat} {t : TypeId} {v : Value} {n : Nat} {e : TypeId} (ht : P.underlying t = some (.array n e)) (h : Value.okWide P w r b0 t v) : ∃ cs, v = .agg cs := by
  simp only [Value.okWide, ht] at h
  obtain ⟨cs, h1, _⟩ := h
  exact ⟨cs, h1⟩

theorem int_i16 {n : Nat} {c : Value} {x : DataW H × List MemPlace} (h : DataW.trod enc Yba.prog W base spare held n 22 [c] = some x) : ∃ k, c = .int .i16 k ∧ i16 k := by
  obtain ⟨k, h1, _, h2⟩ := DataW.trod_int Yba.underlying22 h
  simp [Lit.wf, IntKind.min, IntKind.max, IntKind.signed, IntKind.bits] at h2
  exact ⟨k, by simpa using h1, by unfold i16; omega⟩
theorem int_u8 {n : Nat} {c : Value} {x : DataW H × List MemPlace} (h : DataW.trod enc Yba.prog W base spare held n 5 [c] = some x) : ∃ k, c = .int .u8 k ∧ 0 ≤ k ∧ k ≤ 255 := by
  obtain ⟨k, h1, _, h2⟩ := DataW.trod_int Yba.underlying5 h
  simp [Lit.wf, IntKind.min, IntKind.max, IntKind.signed, IntKind.bits] at h2
  exact ⟨k, by simpa using h1, by omega⟩
theorem bool_4 {n : Nat} {c : Value} {x : DataW H × List MemPlace} (h : DataW.trod enc Yba.prog W base spare held n 4 [c] = some x) : ∃ b, c = .bool b := by
  obtain ⟨b, h1, _⟩ := DataW.trod_bool Yba.underlying4 h
  exact ⟨b, by simpa using h1⟩

theorem seven {cs : List Value} (h : cs.length = 7) : ∃ a b c d e f g, cs = [a, b, c, d, e, f, g] := by
  match cs, h with
  | [a, b, c, d, e, f, g], _ => exact ⟨a, b, c, d, e, f, g, rfl⟩
theorem five {cs : List Value} (h : cs.length = 5) : ∃ a b c d e, cs = [a, b, c, d, e] := by
  match cs, h with
  | [a, b, c, d, e], _ => exact ⟨a, b, c, d, e, rfl⟩
theorem fifteen {cs : List Value} (h : cs.length = 15) : ∃ a b c d e f g i j k l m n o p, cs = [a, b, c, d, e, f, g, i, j, k, l, m, n, o, p] := by
  match cs, h with
  | [a, b, c, d, e, f, g, i, j, k, l, m, n, o, p], _ => exact ⟨a, b, c, d, e, f, g, i, j, k, l, m, n, o, p, rfl⟩

theorem open_tally {n : Nat} {cs : List Value} {x : DataW H × List MemPlace} (h : DataW.trod enc Yba.prog W base spare held n 25 cs = some x) : ∃ t : Ty, cs.toArray = tsrc t ∧ t.ok := by
  have c25 : Yba.prog.cellsOf 25 = 7 := by kernel_rfl
  have c5 : Yba.prog.cellsOf 5 = 1 := by kernel_rfl
  have c23 : Yba.prog.cellsOf 23 = 3 := by kernel_rfl
  have c22 : Yba.prog.cellsOf 22 = 1 := by kernel_rfl
  obtain ⟨xs, m, _, _, hl, hlen, hf⟩ := DataW.trod_struct Yba.underlying25 h
  obtain ⟨a, b, c, d, e, f, g, rfl⟩ := seven (hl.trans c25)
  match xs, hlen with
  | [y0, y1, y2], _ =>
    have h0 := hf 0 _ rfl
    have h1 := hf 1 _ rfl
    have h2 := hf 2 _ rfl
    replace h0 : DataW.trod enc Yba.prog W base spare held m 5 (([a, b, c, d, e, f, g].drop 0).take (Yba.prog.cellsOf 5)) = some y0 := h0
    replace h1 : DataW.trod enc Yba.prog W base spare held m 23 (([a, b, c, d, e, f, g].drop 1).take (Yba.prog.cellsOf 23)) = some y1 := h1
    replace h2 : DataW.trod enc Yba.prog W base spare held m 23 (([a, b, c, d, e, f, g].drop 4).take (Yba.prog.cellsOf 23)) = some y2 := h2
    rw [c5] at h0
    rw [c23] at h1 h2
    obtain ⟨k0, rfl, hk0⟩ := int_u8 h0
    obtain ⟨_, _, _, _, _, p0, p1, p2⟩ := trod_array3 Yba.underlying23 c22 h1
    obtain ⟨_, _, _, _, _, o0, o1, o2⟩ := trod_array3 Yba.underlying23 c22 h2
    obtain ⟨k1, rfl, hk1⟩ := int_i16 p0
    obtain ⟨k2, rfl, hk2⟩ := int_i16 p1
    obtain ⟨k3, rfl, hk3⟩ := int_i16 p2
    obtain ⟨k4, rfl, hk4⟩ := int_i16 o0
    obtain ⟨k5, rfl, hk5⟩ := int_i16 o1
    obtain ⟨k6, rfl, hk6⟩ := int_i16 o2
    exact ⟨⟨k0, k1, k2, k3, k4, k5, k6⟩, rfl, hk0, hk1, hk2, hk3, hk4, hk5, hk6⟩

theorem open_pick {n : Nat} {cs : List Value} {x : DataW H × List MemPlace} (h : DataW.trod enc Yba.prog W base spare held n 27 cs = some x) : ∃ q : Rp, cs = [.int .i16 q.P, .int .i16 q.l, .int .u8 q.o, .int .u8 q.r, .bool q.b] ∧ q.ok := by
  have c27 : Yba.prog.cellsOf 27 = 5 := by kernel_rfl
  have c5 : Yba.prog.cellsOf 5 = 1 := by kernel_rfl
  have c22 : Yba.prog.cellsOf 22 = 1 := by kernel_rfl
  have c4 : Yba.prog.cellsOf 4 = 1 := by kernel_rfl
  obtain ⟨xs, m, _, _, hl, hlen, hf⟩ := DataW.trod_struct Yba.underlying27 h
  obtain ⟨a, b, c, d, e, rfl⟩ := five (hl.trans c27)
  match xs, hlen with
  | [y0, y1, y2, y3, y4], _ =>
    have h0 := hf 0 _ rfl
    have h1 := hf 1 _ rfl
    have h2 := hf 2 _ rfl
    have h3 := hf 3 _ rfl
    have h4 := hf 4 _ rfl
    replace h0 : DataW.trod enc Yba.prog W base spare held m 22 (([a, b, c, d, e].drop 0).take (Yba.prog.cellsOf 22)) = some y0 := h0
    replace h1 : DataW.trod enc Yba.prog W base spare held m 22 (([a, b, c, d, e].drop 1).take (Yba.prog.cellsOf 22)) = some y1 := h1
    replace h2 : DataW.trod enc Yba.prog W base spare held m 5 (([a, b, c, d, e].drop 2).take (Yba.prog.cellsOf 5)) = some y2 := h2
    replace h3 : DataW.trod enc Yba.prog W base spare held m 5 (([a, b, c, d, e].drop 3).take (Yba.prog.cellsOf 5)) = some y3 := h3
    replace h4 : DataW.trod enc Yba.prog W base spare held m 4 (([a, b, c, d, e].drop 4).take (Yba.prog.cellsOf 4)) = some y4 := h4
    rw [c22] at h0 h1
    rw [c5] at h2 h3
    rw [c4] at h4
    obtain ⟨k0, rfl, hk0⟩ := int_i16 h0
    obtain ⟨k1, rfl, hk1⟩ := int_i16 h1
    obtain ⟨k2, rfl, hk2⟩ := int_u8 h2
    obtain ⟨k3, rfl, hk3⟩ := int_u8 h3
    obtain ⟨k4, rfl⟩ := bool_4 h4
    exact ⟨⟨k0, k1, k2, k3, k4⟩, rfl, hk0, hk1, hk2, hk3⟩

theorem open_picks {n : Nat} {cs : List Value} {x : DataW H × List MemPlace} (h : DataW.trod enc Yba.prog W base spare held n 28 cs = some x) : ∃ q : Nat → Rp, cs.toArray = srcOf q ∧ ∀ i, i < 3 → (q i).ok := by
  have c28 : Yba.prog.cellsOf 28 = 15 := by kernel_rfl
  have c27 : Yba.prog.cellsOf 27 = 5 := by kernel_rfl
  obtain ⟨xs, m, _, _, hl, hlen, hf⟩ := DataW.trod_array Yba.underlying28 h
  obtain ⟨a, b, c, d, e, f, g, i, j, k, l, m, n, o, p, rfl⟩ := fifteen (hl.trans c28)
  match xs, hlen with
  | [y0, y1, y2], _ =>
    have h0 := hf 0 (by omega)
    have h1 := hf 1 (by omega)
    have h2 := hf 2 (by omega)
    simp only [c27] at h0 h1 h2
    simp at h0 h1 h2
    obtain ⟨q0, e0, k0⟩ := open_pick h0
    obtain ⟨q1, e1, k1⟩ := open_pick h1
    obtain ⟨q2, e2, k2⟩ := open_pick h2
    simp only [List.cons.injEq, and_true] at e0 e1 e2
    obtain ⟨rfl, rfl, rfl, rfl, rfl⟩ := e0
    obtain ⟨rfl, rfl, rfl, rfl, rfl⟩ := e1
    obtain ⟨rfl, rfl, rfl, rfl, rfl⟩ := e2
    refine ⟨fun | 0 => q0 | 1 => q1 | _ => q2, rfl, fun i hi => ?_⟩
    rcases (show i = 0 ∨ i = 1 ∨ i = 2 by omega) with rfl | rfl | rfl
    · exact k0
    · exact k1
    · exact k2
end Go.Proofs.Ybulkdczq
