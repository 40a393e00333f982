/-
  THE WALK of the iterator: Quorums's closure (39), whatever yield does.
-/
import Derived.Test.YbulkdczqFmtQuor
import Derived.RangeFuncNested
import Derived.RangeFuncBound
import Derived.RangeFuncCalls
import Derived.RangeFuncLeaves
import Derived.Shelf.Abstract
import Derived.Shelf.RegionOpen
import Derived.OwnWalkIn
import Derived.TacticsInMore
import Derived.LoopNIn
import Derived.LoopIn
namespace Go.Proofs.YbulkdczqFmt
open Go.RowKit Go.Shelf

attribute [local go_sem] Oper.semAt_some

/-- One call of yield at every listed mask, in order; till one answers false. -/
theorem iter_any (n l nn ib nb B : Nat) (h1 : 1 ≤ nn) (h2 : nn ≤ 8) (aa : Option Addr) (ca : Nat) (xs : List Nat) (hlen : xs.length ≤ 300) (J : Nat → World → Prop) (Jx : World → Prop)
    (hJ : ∀ k W W', J k W → Below W.heap.size W W' → J k W')
    (hK : ∀ k W, J k W → W.cell? ⟨nb, 0, none⟩ = some (.int .i64 nn) ∧ Row W aa xs ∧ B ≤ W.heap.size)
    (hY : ∀ k W g, (hk : k < xs.length) → J k W → B ≤ g → Word W g xs[k] → YieldAt Fence.wide (n - 1) Ybaf.prog l #[setV nn g 1] W fun e W' => (e = .returned (.bool true) ∧ J (k + 1) W') ∨ (e = .returned (.bool false) ∧ Jx W'))
    (W : World) (hib : W.cell? ⟨ib, 0, none⟩ = some (.slice aa xs.length ca)) (h0 : J 0 W) :
    CallsIn Fence.wide n Ybaf.prog 39 #[.func (.yield l) #[] #[], .pointer (some ⟨ib, 0, none⟩), .pointer (some ⟨nb, 0, none⟩)] W fun e W' => (∃ v, e = .returned v) ∧ (J xs.length W' ∨ Jx W') := by
  refine callsIn_of_wp Ybaf.func39 rfl trivial ?_ rfl
  simp only [Ybaf.ntmps39, List.size_toArray, List.length_cons, List.length_nil, Nat.reduceAdd, Nat.reduceSub, Array.replicate_succ, Array.replicate_zero, List.push_toArray, List.append_toArray, List.nil_append, List.cons_append]
  have HJ : Hid (∀ k W W', J k W → Below W.heap.size W W' → J k W') := hJ
  have HK : Hid (∀ k W, J k W → W.cell? ⟨nb, 0, none⟩ = some (.int .i64 nn) ∧ Row W aa xs ∧ B ≤ W.heap.size) := hK
  have HY : Hid (∀ k W g, (hk : k < xs.length) → J k W → B ≤ g → Word W g xs[k] → YieldAt Fence.wide (n - 1) Ybaf.prog l #[setV nn g 1] W fun e W' => (e = .returned (.bool true) ∧ J (k + 1) W') ∨ (e = .returned (.bool false) ∧ Jx W')) := hY
  have H0 : Hid (J 0 W) := h0
  clear hJ hK hY h0
  gi_wp2
  gi_loopw [8] (fun i wr => ∃ k : Nat, k ≤ xs.length ∧ i = .int .i64 k ∧ Hid (J k wr))
    (fun i _ => xs.length - (intOf i).toNat)
  case atStart => exact ⟨0, Nat.zero_le _, rfl, H0⟩
  case round =>
    obtain ⟨k, hk, rfl, HJs⟩ := hrel
    obtain ⟨hn, hrow, hB⟩ := HK.out k wr HJs.out
    by_cases hlt : k < xs.length
    · obtain ⟨b, o, rfl, hc⟩ := hrow.resolve_left (fun e => by rw [e] at hlt; simp at hlt)
      have c1 := hc k hlt
      have y1 : (k : Int) < (xs.length : Int) := by omega
      have y0 : (0 : Int) ≤ (k : Int) := by omega
      have HYk := fun W g => HY.out k W g hlt
      have HYK : Hid (∀ W g, J k W → B ≤ g → Word W g xs[k] → YieldAt Fence.wide (n - 1) Ybaf.prog l #[setV nn g 1] W fun e W' => (e = .returned (.bool true) ∧ J (k + 1) W') ∨ (e = .returned (.bool false) ∧ Jx W')) := HYk
      clear hc HYk hrow
      generalize xs[k] = z at *
      gi_wp2
      refine ⟨trivial, fun h => by simp [Fence.wide] at h, ?_⟩
      refine (callsIn_wide.2 (set_any nn z h1 h2 wr)).mono ?_
      rintro e w1 ⟨⟨g, rfl, hg, hW⟩, hb⟩
      obtain ⟨fn, tmps, assign, body, hy, hR⟩ := HYK.out w1 g (HJ.out k wr w1 HJs.out hb) (by omega) hW
      unfold setV at hy ⊢
      clear hW hb
      gi_wp2
      refine ⟨fun h => by simp [Fence.wide] at h, ?_⟩
      refine hR.mono ?_
      rintro e W3 (⟨rfl, hJ3⟩ | ⟨rfl, hJx3⟩)
      · have HJ3 : Hid (J (k + 1) W3) := hJ3
        clear hJ3 hR hy
        gi_wp2
        go_roundw
        case rel => exact ⟨k + 1, by omega, by simp, HJ3⟩
        case measure => simp [intOf]; omega
      · have HJx : Hid (Jx W3) := hJx3
        clear hJx3 hR hy
        gi_wp2
        refine bodyPost_ret (results_none rfl _ _ _) rfl ?_
        exact ⟨⟨_, rfl⟩, .inr HJx.out⟩
    · obtain rfl : k = xs.length := by omega
      clear hrow
      gi_wp2
      go_end0
      exact ⟨⟨_, rfl⟩, .inl HJs.out⟩
end Go.Proofs.YbulkdczqFmt
