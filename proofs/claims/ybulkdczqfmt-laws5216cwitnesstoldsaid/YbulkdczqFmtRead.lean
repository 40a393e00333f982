/-
  THE WALKS of what only reads: Set.check (19), zzs5216cmask (8), zzs5216chq (7), zzs5216cst.list (38), Nodes (36).
-/
import Derived.Test.YbulkdczqFmtRows
import Derived.Test.YbulkdczqFmtPlain
import Derived.WalkKit
import Derived.WalkSpells
import Derived.WalkLawsBesides
import Derived.Below
import Derived.Lib.Builder
import Derived.Deep.LoopGhost
namespace Go.Proofs.YbulkdczqFmt
open Go.RowKit

/-- A set of n nodes whose one word lies in block b. -/
def setV (n b c : Nat) : Value := .agg #[.int .i64 n, .slice (some ⟨b, 0, none⟩) 1 c]

set_option maxHeartbeats 400000 in
theorem check_any (n b c k : Nat) (h1 : 1 ≤ k) (h2 : k ≤ n) (w : World) :
    Calls Ybaf.prog 19 #[setV n b c, .int .i64 k] w fun e w' => e = .returned (.tuple #[]) ∧ ∃ o, w' = w.alloc o := by
  have a1 : ¬ (k : Int) < 1 := by omega
  have a2 : ¬ (n : Int) < k := by omega
  unfold setV
  go_enter Ybaf.func19, Ybaf.ntmps19
  go_wp2_with fail
  exact ⟨rfl, .tuple #[], by simp [results, Ybaf.results19], rfl, _, rfl⟩

set_option maxHeartbeats 400000 in
theorem mask_any (n b c q : Nat) (w : World) (h : w.cell? ⟨b, 0, none⟩ = some (.int .u64 q)) :
    Calls Ybaf.prog 8 #[setV n b c] w fun e w' => e = .returned (.int .u64 q) ∧ ∃ o, w' = w.alloc o := by
  have lb := World.block_lt_of_cell? w _ h
  unfold setV
  go_enter Ybaf.func8, Ybaf.ntmps8
  go_wp2_with fail
  go_ret
  exact ⟨rfl, _, rfl⟩

/-- A list of masks as it lies. -/
def Row (w : World) (a : Option Addr) (xs : List Nat) : Prop := xs = [] ∨ ∃ b o, a = some ⟨b, o, none⟩ ∧ ∀ j, (hj : j < xs.length) → w.cell? ⟨b, o + j, none⟩ = some (.int .u64 xs[j])

theorem Row.below {w w' : World} {a : Option Addr} {xs : List Nat} {B : Nat} (h : Row w a xs) (hb : Below B w w') (hB : w.heap.size ≤ B) : Row w' a xs := by
  rcases h with h | ⟨b, o, rfl, hc⟩
  · exact Or.inl h
  · exact Or.inr ⟨b, o, rfl, fun j hj => (hb.cell (p := ⟨b, o + j, none⟩) (Nat.lt_of_lt_of_le (World.block_lt_of_cell? w _ (hc j hj)) hB)).trans (hc j hj)⟩

theorem hq_drop_some {xs : List Nat} {q i : Nat} (hi : i < xs.length) (h : sub xs[i] q = 0) : hq xs q = true := by
  unfold hq
  rw [List.any_eq_true]
  exact ⟨_, List.getElem_mem hi, by simp [h]⟩
theorem hq_none {xs : List Nat} {q : Nat} (h : ∀ j, (hj : j < xs.length) → sub xs[j] q ≠ 0) : hq xs q = false := by
  unfold hq
  rw [List.any_eq_false]
  intro x hx
  obtain ⟨j, hj, rfl⟩ := List.getElem_of_mem hx
  simpa using h j hj

set_option maxHeartbeats 1000000 in
theorem chq_any (a : Option Addr) (c q : Nat) (xs : List Nat) (hx : ∀ m ∈ xs, m < 2 ^ 64) (hq64 : q < 2 ^ 64) (hlen : xs.length ≤ 300) (w : World) (h : Row w a xs) :
    Calls Ybaf.prog 7 #[.slice a xs.length c, .int .u64 q] w fun e w' => e = .returned (.bool (hq xs q)) ∧ w' = w := by
  have H : Hid (Row w a xs) := h
  have HX : Hid (∀ m ∈ xs, m < 2 ^ 64) := hx
  clear h hx
  go_enter Ybaf.func7, Ybaf.ntmps7
  go_wp2_with fail
  go_loopg [9] xs.length (fun kx s wr => ∃ i : Nat, s = .int .i64 i ∧ i ≤ xs.length ∧ xs.length - i ≤ kx ∧ Hid (∀ j, (hj : j < xs.length) → j < i → sub xs[j] q ≠ 0) ∧ wr = w)
  case atStart => exact ⟨0, rfl, Nat.zero_le _, by omega, fun j hj h => by omega, rfl⟩
  case round =>
    obtain ⟨i, rfl, hi, hg, hne, rfl⟩ := hrel
    by_cases hlt : i < xs.length
    · obtain ⟨b, o, rfl, hc⟩ := H.out.resolve_left (fun e => by rw [e] at hlt; simp at hlt)
      have c1 := hc i hlt
      have hx1 : xs[i] < 2 ^ 64 := HX.out _ (List.getElem_mem _)
      have e1 : bits .andNot .u64 (xs[i] : Int) (q : Int) = ((sub xs[i] q : Nat) : Int) := u64_andNot_nat _ _ hx1 hq64
      have y1 : (i : Int) < (xs.length : Int) := by omega
      have y0 : (0 : Int) ≤ (i : Int) := by omega
      clear hc
      by_cases hz : sub xs[i] q = 0
      · have hR : hq xs q = true := hq_drop_some hlt hz
        rw [hz] at e1
        generalize xs[i] = z at *
        go_wp2_with fail
        go_ret
        exact ⟨by first | rfl | (rw [hR]; rfl), rfl⟩
      · have hne2 : Hid (∀ j, (hj : j < xs.length) → j < i + 1 → sub xs[j] q ≠ 0) := fun j hj h => by
          by_cases e : j = i
          · subst e; exact hz
          · exact hne.out j hj (by omega)
        have e2 : ((sub xs[i] q : Nat) : Int) ≠ 0 := by omega
        generalize hzz : sub xs[i] q = y at *
        clear hzz
        generalize xs[i] = z at *
        go_wp2_with fail
        go_roundg (xs.length - (i + 1))
        case measure => omega
        case rel => exact ⟨i + 1, by go_num, by omega, Nat.le_refl _, hne2, rfl⟩
    · have y2 : ¬ (i : Int) < (xs.length : Int) := by omega
      have hR : hq xs q = false := hq_none (fun j hj => hne.out j hj (by omega))
      go_wp2_with fail
      go_ret
      exact ⟨by first | rfl | (rw [hR]; rfl), rfl⟩

/-- The structure as it lies: its list for reading, its list for writing. -/
structure St (sb n : Nat) (al bl : List Nat) (w : World) : Prop where
  pos : 1 ≤ n
  top : n ≤ 8
  ex : ∃ aa ca ba cb cv, w.heap[sb]? = some (.cells #[.int .i64 n, .slice aa al.length ca, .slice ba bl.length cb, cv] 31 (0, 0)) ∧ Row w aa al ∧ Row w ba bl

theorem St.below {sb n : Nat} {al bl : List Nat} {w w' : World} {B : Nat} (h : St sb n al bl w) (hb : Below B w w') (hB : w.heap.size ≤ B) : St sb n al bl w' := by
  obtain ⟨aa, ca, ba, cb, cv, h1, h2, h3⟩ := h.ex
  exact ⟨h.pos, h.top, aa, ca, ba, cb, cv, (hb.block sb (Nat.lt_of_lt_of_le (Array.getElem?_eq_some_iff.1 h1).1 hB)).trans h1, h2.below hb hB, h3.below hb hB⟩

set_option maxHeartbeats 400000 in
theorem list_any (sb n : Nat) (al bl : List Nat) (op : Bool) (w : World) (h : St sb n al bl w) :
    Calls Ybaf.prog 38 #[.pointer (some ⟨sb, 0, none⟩), .int .i64 (if op then 1 else 0)] w fun e w' => (∃ a c, e = .returned (.slice a (if op then bl else al).length c) ∧ Row w a (if op then bl else al)) ∧ w' = w := by
  obtain ⟨aa, ca, ba, cb, cv, h1, h2, h3⟩ := h.ex
  have c1 : w.cell? ⟨sb, 1, none⟩ = some (.slice aa al.length ca) := (Lib.cell_of_heap h1 1).trans rfl
  have c2 : w.cell? ⟨sb, 2, none⟩ = some (.slice ba bl.length cb) := (Lib.cell_of_heap h1 2).trans rfl
  have H2 : Hid (Row w aa al) := h2
  have H3 : Hid (Row w ba bl) := h3
  clear h h1 h2 h3
  cases op
  · simp only [Bool.false_eq_true, if_false]
    go_enter Ybaf.func38, Ybaf.ntmps38
    go_wp2_with fail
    go_ret
    exact ⟨⟨_, _, rfl, H2.out⟩, rfl⟩
  · simp only [if_true]
    go_enter Ybaf.func38, Ybaf.ntmps38
    go_wp2_with fail
    go_ret
    exact ⟨⟨_, _, rfl, H3.out⟩, rfl⟩

set_option maxHeartbeats 400000 in
theorem nodes_any (sb n : Nat) (al bl : List Nat) (w : World) (h : St sb n al bl w) :
    Calls Ybaf.prog 36 #[.pointer (some ⟨sb, 0, none⟩)] w fun e w' => e = .returned (.int .i64 n) ∧ w' = w := by
  obtain ⟨aa, ca, ba, cb, cv, h1, h2, h3⟩ := h.ex
  have c1 : w.cell? ⟨sb, 0, none⟩ = some (.int .i64 n) := (Lib.cell_of_heap h1 0).trans rfl
  clear h h1 h2 h3
  go_enter Ybaf.func36, Ybaf.ntmps36
  go_wp2_with fail
  go_ret
  exact ⟨rfl, rfl⟩
end Go.Proofs.YbulkdczqFmt
