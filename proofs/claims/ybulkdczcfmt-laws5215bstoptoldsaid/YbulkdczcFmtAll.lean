/-
  THE WALKS of Set.All (6) and its closure (15), whatever yield.
-/
import Derived.Test.YbulkdczcFmtSet
namespace Go.Proofs.YbulkdczcFmt
open Go.RowKit

/-- After how many calls the listing ends: the first that answers false, or all n. -/
def stopAt (cont : Nat → Bool) : Nat → Nat → Nat
  | 0, j => j
  | f + 1, j => if cont j then stopAt cont f (j + 1) else j + 1

set_option maxHeartbeats 1000000 in
set_option maxRecDepth 100000 in
theorem all1_any (g : Nat) (cb : Array Value) (eg : ∀ args w, (callFunc g args).run Ybaf.prog w = .ok (.enter g args) w) (sb : Nat) (vs : List Int) (hlen : vs.length ≤ 1024) (h64 : ∀ v ∈ vs, in64 v)
    (I : Nat → World → Prop) (hI : ∀ j w, I j w → w.cell? ⟨sb, 0, none⟩ = some (.string (strS vs))) (hD : ∀ j w n, I j w → I j (w.drewN n)) (cont : Nat → Bool)
    (hy : ∀ j (h : j < vs.length) w, I j w → Calls Ybaf.prog g (#[.int .i64 vs[j]] ++ cb) w fun e w' => e = .returned (.bool (cont j)) ∧ I (j + 1) w') (w : World) (h0 : I 0 w) :
    Calls Ybaf.prog 15 #[.func (.func g) #[] cb, .pointer (some ⟨sb, 0, none⟩)] w fun e w' => e = .returned (.tuple #[]) ∧ I (stopAt cont vs.length 0) w' := by
  have c0 := hI 0 w h0
  have HI : Hid (∀ j w, I j w → w.cell? ⟨sb, 0, none⟩ = some (.string (strS vs))) := hI
  have HD : Hid (∀ j w n, I j w → I j (w.drewN n)) := hD
  have HY : Hid (∀ j (h : j < vs.length) w, I j w → Calls Ybaf.prog g (#[.int .i64 vs[j]] ++ cb) w fun e w' => e = .returned (.bool (cont j)) ∧ I (j + 1) w') := hy
  have H0 : Hid (I 0 w) := h0
  have H64 : Hid (∀ v ∈ vs, in64 v) := h64
  clear hI hD hy h0 h64
  have HL : Hid (∀ W, Calls Ybaf.prog 16 #[.string (strS vs)] W fun e w' => e = .returned (.int .i64 vs.length) ∧ w' = W) := fun W => len_enc vs hlen W
  have HA : Hid (∀ (i : Nat) (hi : i < vs.length) W, Calls Ybaf.prog 17 #[.string (strS vs), .int .i64 i] W fun e w' => e = .returned (.int .i64 vs[i]) ∧ ∃ n, w' = W.drewN n) := fun i hi W => at_enc vs (by intro h; rw [h] at hi; simp at hi) i hi hlen H64.out W
  generalize strS vs = st at *
  go_enter Ybaf.func15, Ybaf.ntmps15
  go_wp2_with fail
  refine (HL.out w).mono ?_
  rintro e w1 ⟨rfl, hw1⟩
  subst hw1
  go_wp2_with fail
  go_loopg [7] vs.length (fun kx s wr => ∃ i : Nat, s = .int .i64 i ∧ i ≤ vs.length ∧ vs.length - i ≤ kx ∧ Hid (I i wr) ∧ Hid (stopAt cont vs.length 0 = stopAt cont (vs.length - i) i))
  case atStart => exact ⟨0, rfl, Nat.zero_le _, by omega, H0, rfl⟩
  case round =>
    obtain ⟨i, rfl, hi, hg, HII, HST⟩ := hrel
    by_cases hlt : i < vs.length
    · have c1 := HI.out i wr HII.out
      have hat := HA.out i hlt
      have hyy := HY.out i hlt
      have ST2 : Hid (stopAt cont (vs.length - i) i = if cont i then stopAt cont (vs.length - (i + 1)) (i + 1) else i + 1) := by
        show _ = _
        rw [show vs.length - i = (vs.length - (i + 1)) + 1 by omega]; rfl
      have HAT : Hid (∀ W, Calls Ybaf.prog 17 #[.string st, .int .i64 i] W fun e w' => e = .returned (.int .i64 vs[i]) ∧ ∃ n, w' = W.drewN n) := hat
      have HYY : Hid (∀ w, I i w → Calls Ybaf.prog g (#[.int .i64 vs[i]] ++ cb) w fun e w' => e = .returned (.bool (cont i)) ∧ I (i + 1) w') := hyy
      clear hat hyy
      generalize vs[i] = v at *
      cases hcn : cont i with
      | true =>
        rw [hcn] at HYY ST2
        go_wp2_with fail
        refine (HAT.out wr).mono ?_
        rintro e w2 ⟨rfl, n2, rfl⟩
        go_wp2_with fail
        refine (HYY.out _ (HD.out i wr n2 HII.out)).mono ?_
        rintro e w3 ⟨rfl, hI3⟩
        have HI3 : Hid (I (i + 1) w3) := hI3
        clear hI3
        go_wp2_with fail
        go_roundg (vs.length - (i + 1))
        case measure => omega
        case rel => exact ⟨i + 1, by go_num, by omega, Nat.le_refl _, HI3, HST.out.trans ST2.out⟩
      | false =>
        rw [hcn] at HYY ST2
        go_wp2_with fail
        refine (HAT.out wr).mono ?_
        rintro e w2 ⟨rfl, n2, rfl⟩
        go_wp2_with fail
        refine (HYY.out _ (HD.out i wr n2 HII.out)).mono ?_
        rintro e w3 ⟨rfl, hI3⟩
        have HI3 : Hid (I (i + 1) w3) := hI3
        clear hI3
        go_wp2_with fail
        refine bodyPost_ret (v := .tuple #[]) (by simp [results, Ybaf.results15, go_sem]) rfl ⟨rfl, ?_⟩
        rw [HST.out.trans ST2.out]
        exact HI3.out
    · obtain rfl : i = vs.length := by omega
      go_wp2_with fail
      go_end0
      refine ⟨rfl, ?_⟩
      rw [HST.out, Nat.sub_self]
      exact HII.out

set_option maxHeartbeats 400000 in
theorem all_any (st : ByteArray) (w : World) : Calls Ybaf.prog 6 #[.agg #[.string st]] w fun e w' => e = .returned (.func (.func 15) #[] #[.pointer (some ⟨w.heap.size, 0, none⟩)]) ∧ w' = w.alloc (.cells #[.string st] 25) := by
  go_enter Ybaf.func6, Ybaf.ntmps6
  go_wp2
  go_ret
  exact ⟨rfl, rfl⟩

theorem stopAt_true (n j : Nat) : stopAt (fun _ => true) n j = j + n := by
  induction n generalizing j with
  | zero => rfl
  | succ n ih => simp only [stopAt, if_true]; rw [ih]; omega

/-- The yield that answers 'fewer than k + 1 so far'. -/
theorem stopAt_le (k : Nat) : ∀ (n j : Nat), j ≤ k → stopAt (fun i => decide (i + 1 ≤ k)) n j = min (j + n) (k + 1)
  | 0, j, hj => by simp only [stopAt]; omega
  | n + 1, j, hj => by
    simp only [stopAt]
    by_cases h : j + 1 ≤ k
    · rw [if_pos (decide_eq_true h), stopAt_le k n (j + 1) h]; omega
    · rw [if_neg (by simpa using h)]; omega

end Go.Proofs.YbulkdczcFmt
