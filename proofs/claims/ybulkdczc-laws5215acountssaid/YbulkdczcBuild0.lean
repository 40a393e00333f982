/-
  THE WALK of zzs5215abuild (5), ahead of the sort.
-/
import Derived.Test.YbulkdczcTo
import Derived.OwnWalk
import Derived.LoopN
import Derived.Deep.DeepAppendRoom
namespace Go.Proofs.Ybulkdczc
open Go.RowKit Go.Sort

def flatL (l : List Let) : List Value := l.flatMap encL

theorem flatL_get : ∀ (l : List Let) (t : Nat), t < l.length * 3 → (flatL l)[t]? = some (encL l[t / 3]!)[t % 3]!
  | [], t, h => by simp at h
  | x :: r, t, h => by
    unfold flatL
    rw [List.flatMap_cons]
    by_cases h3 : t < 3
    · rw [List.getElem?_append_left (by simpa [encL] using h3)]
      have h0 : t / 3 = 0 := by omega
      have h1 : t % 3 = t := by omega
      rw [h0, h1]
      match t, h3 with
      | 0, _ => rfl
      | 1, _ => rfl
      | 2, _ => rfl
    · rw [List.getElem?_append_right (by simp [encL]; omega)]
      have e1 : (encL x).length = 3 := rfl
      rw [e1]
      have := flatL_get r (t - 3) (by simp at h; omega)
      unfold flatL at this
      rw [this]
      have h0 : t / 3 = (t - 3) / 3 + 1 := by omega
      have h1 : t % 3 = (t - 3) % 3 := by omega
      rw [h0, h1]
      simp

theorem flatL_length (l : List Let) : (flatL l).length = l.length * 3 := by
  unfold flatL
  induction l with
  | nil => rfl
  | cons x r ih => rw [List.flatMap_cons, List.length_append, ih]; simp [encL]; omega

theorem flatL_snoc (l : List Let) (x : Let) : flatL (l ++ [x]) = flatL l ++ encL x := by simp [flatL]

theorem holdsK_of_owns {w : World} {base g n cap : Nat} {e : TypeId} {d : Array Let} (hn : d.size = n) (h : w.ownsRow base e 3 (.slice (some ⟨g, 0, none⟩) n cap) n (flatL d.toList)) : HoldsK encL 3 w g 0 d := by
  subst hn
  intro t ht
  rw [size_flatK] at ht
  have hc := h.cells (g := g) rfl t _ (flatL_get d.toList t (by simpa using ht))
  refine ⟨?_, by rw [Nat.zero_add]; exact h.frozenAt t⟩
  rw [get_flatK _ _ _ _ ht]
  have e1 : (⟨g, 0, none⟩ : Addr).add t = ⟨g, 0 + t, none⟩ := by rw [Addr.add_lit]
  rw [e1] at hc
  rw [hc]
  have e2 : d.toList[t / 3]! = d[t / 3]! := by
    have : t / 3 < d.size := by omega
    rw [getElem!_pos d _ this, getElem!_pos d.toList _ (by simpa using this)]; simp
  rw [e2]; rfl

/-- What the walk is told of the letters that came in. -/
def Reads (w : World) (b o : Nat) (d : Array Let) : Prop := ∀ j, j < d.size →
  w.cell? ⟨b, o + j * 3, none⟩ = some (.int .u32 d[j]!.1.toNat) ∧ w.cell? ⟨b, o + j * 3 + 1, none⟩ = some (.int .u32 d[j]!.2.1.toNat) ∧ w.cell? ⟨b, o + j * 3 + 2, none⟩ = some (.int .u32 d[j]!.2.2.toNat)

theorem Yba.info28 : (Yba.prog.info? 28).map (fun i => (i.zero, i.size, i.bytes)) = some (some (.agg #[.int .u32 0, .int .u32 0, .int .u32 0]), 3, 12) := by kernel_rfl
theorem info28_ex : ∃ i, Yba.prog.info? 28 = some i ∧ i.zero = some (.agg #[.int .u32 0, .int .u32 0, .int .u32 0]) ∧ i.size = 3 ∧ i.bytes = 12 := by
  have h := Yba.info28
  cases hi : Yba.prog.info? 28 with
  | none => rw [hi] at h; cases h
  | some i => rw [hi] at h; simp at h; exact ⟨i, rfl, h.1, h.2.1, h.2.2⟩

theorem three_new (w : World) (o : Obj) (x0 x1 x2 : Nat) : ∀ (j : Nat) (u : Value), [Value.int .u32 x0, Value.int .u32 x1, Value.int .u32 x2][j]? = some u →
    ((w.alloc o).alloc (.cells #[.int .u32 x0, .int .u32 x1, .int .u32 x2] 28)).cell? ((⟨w.heap.size + 1, 0, none⟩ : Addr).add j) = some u := by
  intro j u h
  rw [Addr.add_lit]
  match j, h with
  | 0, h => simp at h; subst h; simp [go_sem]
  | 1, h => simp at h; subst h; simp [go_sem]
  | 2, h => simp at h; subst h; simp [go_sem]
  | j + 3, h => simp at h

set_option maxHeartbeats 1000000 in
set_option maxRecDepth 100000 in
theorem build_any (b o c : Nat) (d : Array Let) (w : World) (hb : b < w.heap.size) (hR : Reads w b o d) (hsz : d.size ≤ 1024) (R : World → World → Prop)
    (hsort : ∀ W, Below w.heap.size w W → HoldsK encL 3 W w.heap.size 0 d → w.heap.size < W.heap.size → Calls Yba.prog 9 #[.slice (some ⟨w.heap.size, 0, none⟩) d.size d.size, .func (.func 10) #[] #[]] W fun e w' => e = .returned (.tuple #[]) ∧ R W w') :
    Calls Yba.prog 5 #[.slice (some ⟨b, o, none⟩) d.size c] w fun e w' => ∃ W, Below w.heap.size w W ∧ HoldsK encL 3 W w.heap.size 0 d ∧ w.heap.size < W.heap.size ∧ e = .returned (.slice (some ⟨w.heap.size, 0, none⟩) d.size d.size) ∧ R W w' := by
  obtain ⟨i, hi, hz0, hz1, hz2⟩ := info28_ex
  have HR : Hid (Reads w b o d) := hR
  have HS : Hid _ := hsort
  clear hR hsort
  go_enter Yba.func5, Yba.ntmps5
  go_wp2_with (at_make; refine wpList_make_own _ rfl _ _ 23 rfl w.heap.size 28 i _ 3 Yba.underlying23 hi hz0 hz1 .i64 .i64 _ d.size rfl rfl ?q1 ?q2 ?q3 ?q4 ?_)
  case q1 => rfl
  case q2 => rw [hz2]; omega
  case q3 => unfold maxLen; omega
  case q4 => exact Nat.le_refl _
  intro w1 own1 gr1
  have B1 : Hid (Below w.heap.size w w1) := (Below.refl _ w).grown gr1 (Nat.le_refl _) (fun k h => by cases h)
  have hs1 : Hid (w.heap.size ≤ w1.heap.size) := gr1.size
  have O1 : Hid (w1.ownsRow w.heap.size 28 3 (.slice (some ⟨w.heap.size, 0, none⟩) 0 d.size) 0 []) := own1
  clear own1 gr1
  go_wp2_with fail
  go_loopg [3, 11] d.size (fun kx s3 s11 wr => ∃ j : Nat, s11 = .int .i64 j ∧ j ≤ d.size ∧ d.size - j ≤ kx ∧ s3 = .slice (some ⟨w.heap.size, 0, none⟩) j d.size ∧ Hid (Below w.heap.size w wr) ∧ Hid (wr.ownsRow w.heap.size 28 3 (.slice (some ⟨w.heap.size, 0, none⟩) j d.size) j (flatL (d.toList.take j))))
  case atStart => exact ⟨0, rfl, Nat.zero_le _, by omega, rfl, B1, O1⟩
  case round =>
    clear B1 hs1 O1
    obtain ⟨j, rfl, hj, hg, rfl, B, O⟩ := hrel
    by_cases hlt : j < d.size
    · have c1 : wr.cell? ⟨b, o + j * 3, none⟩ = _ := (B.out.cell (p := ⟨b, o + j * 3, none⟩) hb).trans (HR.out j hlt).1
      have c2 : wr.cell? ⟨b, o + j * 3 + 1, none⟩ = _ := (B.out.cell (p := ⟨b, o + j * 3 + 1, none⟩) hb).trans (HR.out j hlt).2.1
      have c3 : wr.cell? ⟨b, o + j * 3 + 2, none⟩ = _ := (B.out.cell (p := ⟨b, o + j * 3 + 2, none⟩) hb).trans (HR.out j hlt).2.2
      have HF : Hid (flatL (d.toList.take (j + 1)) = flatL (d.toList.take j) ++ [.int .u32 d[j]!.1.toNat, .int .u32 d[j]!.2.1.toNat, .int .u32 d[j]!.2.2.toNat]) := by
        show _ = _
        rw [List.take_succ_eq_append_getElem (by simpa using hlt), flatL_snoc, getElem!_pos d j hlt]; rfl
      generalize d[j]!.1.toNat = x0 at *
      generalize d[j]!.2.1.toNat = x1 at *
      generalize d[j]!.2.2.toNat = x2 at *
      go_wp2_with (at_builtin; refine wpList_append_own_spare _ rfl _ _ 23 rfl w.heap.size 28 i 3 Yba.underlying23 hi hz1 w.heap.size j d.size (flatL (d.toList.take j)) rfl ?a1 _ 1 1 [.int .u32 x0, .int .u32 x1, .int .u32 x2] rfl ?a2 ?a3 ?a4 ?a5 ?_)
      case a1 => exact (O.out.alloc _).alloc _
      case a2 => rfl
      case a3 => exact three_new wr _ x0 x1 x2
      case a4 => intro u hu; simp at hu; rcases hu with rfl | rfl | rfl <;> rfl
      case a5 => omega
      intro w' own' gr'
      have B' : Hid (Below w.heap.size w w') := ((B.out.alloc B.out.size _).alloc (by have := B.out.size; simp; omega) _).grown gr' (by have := B.out.size; simp; omega) (fun k h => by cases h; exact Nat.le_refl _)
      have O' : Hid (w'.ownsRow w.heap.size 28 3 (.slice (some ⟨w.heap.size, 0, none⟩) (j + 1) d.size) (j + 1) (flatL (d.toList.take (j + 1)))) := by
        show World.ownsRow _ _ _ _ _ _ _; rw [HF.out]; exact own'
      clear own' gr'
      go_wp2_with fail
      go_roundg (d.size - (j + 1))
      case measure => omega
      case rel => exact ⟨j + 1, by go_num, by omega, Nat.le_refl _, rfl, B', O'⟩
    · obtain rfl : j = d.size := by omega
      have HH : HoldsK encL 3 wr w.heap.size 0 d := holdsK_of_owns rfl (by have := O.out; rwa [List.take_of_length_le (by simp)] at this)
      have hlt2 : w.heap.size < wr.heap.size := (O.out.lt _ rfl).2
      have hc := HS.out wr B.out HH hlt2
      have HHH : Hid _ := HH
      clear HH
      go_wp2_with fail
      refine hc.mono ?_
      rintro e w' ⟨rfl, hR'⟩
      have RR : Hid (R wr w') := hR'
      clear hR'
      go_wp2_with fail
      go_ret
      exact ⟨wr, B.out, HHH.out, hlt2, rfl, RR.out⟩

set_option maxHeartbeats 1000000 in
set_option maxRecDepth 100000 in
theorem build_empty (a : Option Addr) (c : Nat) (w : World) (R : World → World → Prop)
    (hsort : ∀ W, Below w.heap.size w W → HoldsK encL 3 W w.heap.size 0 #[] → w.heap.size < W.heap.size → Calls Yba.prog 9 #[.slice (some ⟨w.heap.size, 0, none⟩) 0 0, .func (.func 10) #[] #[]] W fun e w' => e = .returned (.tuple #[]) ∧ R W w') :
    Calls Yba.prog 5 #[.slice a 0 c] w fun e w' => ∃ W, Below w.heap.size w W ∧ HoldsK encL 3 W w.heap.size 0 #[] ∧ w.heap.size < W.heap.size ∧ e = .returned (.slice (some ⟨w.heap.size, 0, none⟩) 0 0) ∧ R W w' := by
  obtain ⟨i, hi, hz0, hz1, hz2⟩ := info28_ex
  have HS : Hid _ := hsort
  clear hsort
  go_enter Yba.func5, Yba.ntmps5
  go_wp2_with (at_make; refine wpList_make_own _ rfl _ _ 23 rfl w.heap.size 28 i _ 3 Yba.underlying23 hi hz0 hz1 .i64 .i64 _ 0 rfl rfl ?q1 ?q2 ?q3 ?q4 ?_)
  case q1 => rfl
  case q2 => omega
  case q3 => unfold maxLen; omega
  case q4 => exact Nat.le_refl _
  intro w1 own1 gr1
  have B1 : Hid (Below w.heap.size w w1) := (Below.refl _ w).grown gr1 (Nat.le_refl _) (fun k h => by cases h)
  have O1 : Hid (w1.ownsRow w.heap.size 28 3 (.slice (some ⟨w.heap.size, 0, none⟩) 0 0) 0 []) := own1
  have hlt2 : w.heap.size < w1.heap.size := (own1.lt _ rfl).2
  clear own1 gr1
  go_wp2_with fail
  refine wp_loop_rounds 1 ?_
  rw [rounds_succ]
  have HH : HoldsK encL 3 w1 w.heap.size 0 #[] := holdsK_of_owns (d := #[]) rfl O1.out
  have hc := HS.out w1 B1.out HH hlt2
  have HHH : Hid (HoldsK encL 3 w1 w.heap.size 0 #[]) := HH
  clear HH
  go_wp2_with fail
  refine hc.mono ?_
  rintro e w' ⟨rfl, hR'⟩
  have RR : Hid (R w1 w') := hR'
  clear hR'
  go_wp2_with fail
  go_ret
  exact ⟨w1, B1.out, HHH.out, hlt2, rfl, RR.out⟩

end Go.Proofs.Ybulkdczc
