/-
  THE WALK of zzs5216cst.HasQuorum (35).
-/
import Derived.Test.YbulkdczqFmtNew
import Derived.Deep.RegionWith
namespace Go.Proofs.YbulkdczqFmt
open Go.RowKit

/-- The list that op names. -/
def pick (op : Bool) (al bl : List Nat) : List Nat := if op then bl else al

/-- What the two lists are. -/
structure Lists (al bl : List Nat) : Prop where
  la : al.length ≤ 300
  lb : bl.length ≤ 300
  ma : ∀ m ∈ al, m < 2 ^ 64
  mb : ∀ m ∈ bl, m < 2 ^ 64
theorem Lists.len {al bl : List Nat} (h : Lists al bl) (op : Bool) : (pick op al bl).length ≤ 300 := by cases op; exact h.la; exact h.lb
theorem Lists.mem {al bl : List Nat} (h : Lists al bl) (op : Bool) : ∀ m ∈ pick op al bl, m < 2 ^ 64 := by cases op; exact h.ma; exact h.mb

set_option maxHeartbeats 400000 in
theorem list_exact (sb n la lb : Nat) (aa ba : Option Addr) (ca cb : Nat) (cv : Value) (op : Bool) (w : World) (h1 : w.heap[sb]? = some (.cells #[.int .i64 n, .slice aa la ca, .slice ba lb cb, cv] 31 (0, 0))) :
    Calls Ybaf.prog 38 #[.pointer (some ⟨sb, 0, none⟩), .int .i64 (if op then 1 else 0)] w fun e w' => e = .returned (if op then .slice ba lb cb else .slice aa la ca) ∧ w' = w := by
  have c1 : w.cell? ⟨sb, 1, none⟩ = some (.slice aa la ca) := (Lib.cell_of_heap h1 1).trans rfl
  have c2 : w.cell? ⟨sb, 2, none⟩ = some (.slice ba lb cb) := (Lib.cell_of_heap h1 2).trans rfl
  clear h1
  cases op
  · simp only [Bool.false_eq_true, if_false]
    go_enter Ybaf.func38, Ybaf.ntmps38
    go_wp2_with fail
    go_ret
    exact ⟨rfl, rfl⟩
  · simp only [if_true]
    go_enter Ybaf.func38, Ybaf.ntmps38
    go_wp2_with fail
    go_ret
    exact ⟨rfl, rfl⟩

/-- The list that op names, as it lies. -/
theorem St.list {sb n : Nat} {al bl : List Nat} {w : World} (h : St sb n al bl w) (op : Bool) : ∃ a c, Row w a (pick op al bl) ∧ ∀ w', Below w.heap.size w w' →
    Calls Ybaf.prog 38 #[.pointer (some ⟨sb, 0, none⟩), .int .i64 (if op then 1 else 0)] w' fun e w'' => e = .returned (.slice a (pick op al bl).length c) ∧ w'' = w' := by
  obtain ⟨aa, ca, ba, cb, cv, h1, h2, h3⟩ := h.ex
  have hlt := (Array.getElem?_eq_some_iff.1 h1).1
  cases op
  · exact ⟨aa, ca, h2, fun w' hb => list_exact sb n _ _ aa ba ca cb cv false w' ((hb.block sb hlt).trans h1)⟩
  · exact ⟨ba, cb, h3, fun w' hb => list_exact sb n _ _ aa ba ca cb cv true w' ((hb.block sb hlt).trans h1)⟩

set_option maxHeartbeats 1000000 in
theorem hasq_any (sb n : Nat) (al bl : List Nat) (hL : Lists al bl) (op : Bool) (b c q : Nat) (hq64 : q < 2 ^ 64) (w : World) (hS : St sb n al bl w) (hW : Word w b q) :
    Calls Ybaf.prog 35 #[.pointer (some ⟨sb, 0, none⟩), .int .i64 (if op then 1 else 0), setV n b c] w fun e w' => e = .returned (.bool (hq (pick op al bl) q)) ∧ Below w.heap.size w w' := by
  obtain ⟨a, ca, hrow, hlist⟩ := hS.list op
  have HLs : Hid (∀ w', Below w.heap.size w w' → Calls Ybaf.prog 38 #[.pointer (some ⟨sb, 0, none⟩), .int .i64 (if op then 1 else 0)] w' fun e w'' => e = .returned (.slice a (pick op al bl).length ca) ∧ w'' = w') := hlist
  have HMs : Hid (∀ w', Below w.heap.size w w' → Calls Ybaf.prog 8 #[setV n b c] w' fun e w'' => e = .returned (.int .u64 q) ∧ ∃ o, w'' = w'.alloc o) := fun w' hb => mask_any n b c q w' (hW.below hb hW.lt).cell
  have HQs : Hid (∀ w', Below w.heap.size w w' → Calls Ybaf.prog 7 #[.slice a (pick op al bl).length ca, .int .u64 q] w' fun e w'' => e = .returned (.bool (hq (pick op al bl) q)) ∧ w'' = w') := fun w' hb => chq_any a ca q _ (hL.mem op) hq64 (hL.len op) w' (hrow.below hb (Nat.le_refl _))
  clear hlist hrow hW hS
  generalize pick op al bl = xs at *
  generalize (if op = true then (1 : Int) else 0) = oi at *
  generalize hq xs q = ans at *
  unfold setV at *
  have bel1 : ∀ o, Below w.heap.size w (w.alloc o).drew := fun o => below_drew ((Below.refl _ w).alloc (Nat.le_refl _) _)
  have bel2 : ∀ o o2, Below w.heap.size w ((w.alloc o).alloc o2).drew := fun o o2 => below_drew (((Below.refl _ w).alloc (Nat.le_refl _) _).alloc (by simp) _)
  have BL1 : Hid (∀ o, Below w.heap.size w (w.alloc o).drew) := bel1
  have BL2 : Hid (∀ o o2, Below w.heap.size w ((w.alloc o).alloc o2).drew) := bel2
  clear bel1 bel2
  go_enter Ybaf.func35, Ybaf.ntmps35
  go_wp2_with fail
  go_region_with (first | (go_at_call 38; refine (HLs.out _ ?_).mono ?_; (first | exact BL1.out _ | exact BL2.out _ _); rintro e w2 ⟨rfl, rfl⟩) | (go_at_call 8; refine (HMs.out _ ?_).mono ?_; (first | exact BL1.out _ | exact BL2.out _ _); rintro e w2 ⟨rfl, o2, rfl⟩) | (go_at_call 7; refine (HQs.out _ ?_).mono ?_; (first | exact BL1.out _ | exact BL2.out _ _); rintro e w2 ⟨rfl, rfl⟩))
  all_goals go_wp2_with fail
  all_goals go_ret
  all_goals exact ⟨rfl, BL2.out _ _⟩
end Go.Proofs.YbulkdczqFmt
