/-
  THE WALK of LawS5215ACounts (3).
-/
import Derived.Test.YbulkdczcExact
namespace Go.Proofs.Ybulkdczc
open Go.RowKit Go.Sort

/-- What slices.Clone does at letters of the call's own. -/
def Clones : Prop := ∀ (g cap : Nat) (d : Array Let) (w : World), HoldsK encL 3 w g 0 d → d.size ≤ 1024 →
  Calls Yba.prog 6 #[.slice (some ⟨g, 0, none⟩) d.size cap] w fun e w' => ∃ g2 c2 : Nat, e = .returned (.slice (some ⟨g2, 0, none⟩) d.size c2) ∧ w.heap.size ≤ g2 ∧ g2 < w'.heap.size ∧ HoldsK encL 3 w' g2 0 d ∧ Below w.heap.size w w'
/-- What slices.Equal says of two rows that hold the same. -/
def Equals : Prop := ∀ (g g2 c c2 : Nat) (d : Array Let) (w : World), HoldsK encL 3 w g 0 d → HoldsK encL 3 w g2 0 d → d.size ≤ 1024 →
  Calls Yba.prog 8 #[.slice (some ⟨g, 0, none⟩) d.size c, .slice (some ⟨g2, 0, none⟩) d.size c2] w fun e w' => e = .returned (.bool true) ∧ Grew w w'

theorem Grew.holds {w w' : World} (g : Grew w w') {b o : Nat} {d : Array Let} (hb : b < w.heap.size) (h : HoldsK encL 3 w b o d) : HoldsK encL 3 w' b o d := by
  obtain ⟨q, os, rfl⟩ := g
  exact holdsK_grow encL 3 _ os b o d hb (holdsK_ahead encL 3 w q b o d h)

theorem below_holds {B : Nat} {w w' : World} (g : Below B w w') {b o : Nat} {d : Array Let} (hb : b < B) (h : HoldsK encL 3 w b o d) : HoldsK encL 3 w' b o d := by
  intro t ht
  have := h t ht
  refine ⟨?_, ?_⟩
  · rw [g.cell hb]; exact this.1
  · rw [g.frozen hb]; exact this.2

/-- Of the first i letters: those to a recipient below q; at most q. -/
def nLt (d : Array Let) (q : UInt32) (i : Nat) : Nat := (d.toList.take i).countP (fun x => decide (x.1.toNat < q.toNat))
def nLe (d : Array Let) (q : UInt32) (i : Nat) : Nat := (d.toList.take i).countP (fun x => decide (x.1.toNat ≤ q.toNat))
theorem nLt_succ (d : Array Let) (q : UInt32) (i : Nat) (h : i < d.size) : nLt d q (i + 1) = nLt d q i + if d[i]!.1.toNat < q.toNat then 1 else 0 := by
  unfold nLt
  rw [List.take_succ_eq_append_getElem (by simpa using h), List.countP_append, getElem!_pos d i h]
  by_cases hh : d[i].1.toNat < q.toNat <;> simp [hh]
theorem nLe_succ (d : Array Let) (q : UInt32) (i : Nat) (h : i < d.size) : nLe d q (i + 1) = nLe d q i + if d[i]!.1.toNat ≤ q.toNat then 1 else 0 := by
  unfold nLe
  rw [List.take_succ_eq_append_getElem (by simpa using h), List.countP_append, getElem!_pos d i h]
  by_cases hh : d[i].1.toNat ≤ q.toNat <;> simp [hh]
theorem nLt_le (d : Array Let) (q : UInt32) (i : Nat) : nLt d q i ≤ d.size := by
  unfold nLt
  refine Nat.le_trans List.countP_le_length ?_
  rw [List.length_take]; simp; omega
theorem nLe_le (d : Array Let) (q : UInt32) (i : Nat) : nLe d q i ≤ d.size := by
  unfold nLe
  refine Nat.le_trans List.countP_le_length ?_
  rw [List.length_take]; simp; omega

set_option maxHeartbeats 400000 in
theorem counts_long (a : Option Addr) (n c : Nat) (hn : 1024 < n) (p : Int) (w : World) : Calls Yba.prog 3 #[.slice a n c, .int .i64 p] w fun e w' => e = .returned (.bool true) ∧ Below w.heap.size w w' := by
  have h2 : (1024 : Int) < (n : Int) := by omega
  go_enter Yba.func3, Yba.ntmps3
  go_wp2
  go_ret
  exact ⟨rfl, Below.refl _ _⟩

set_option maxHeartbeats 2000000 in
set_option maxRecDepth 100000 in
theorem counts_any (a : Option Addr) (c : Nat) (d : Array Let) (p : Int) (w : World) (hsz : d.size ≤ 1024) (hB : Built (.slice a d.size c) d w) (hC : Clones) (hE : Equals) :
    Calls Yba.prog 3 #[.slice a d.size c, .int .i64 p] w fun e w' => e = .returned (.bool true) ∧ Below w.heap.size w w' := by
  have h2 : ¬ (1024 : Int) < (d.size : Int) := by omega
  have HB : Hid (Built (.slice a d.size c) d w) := hB
  have HC : Hid Clones := hC
  have HE : Hid Equals := hE
  clear hB hC hE
  obtain ⟨q, hq, hqn⟩ : ∃ q : UInt32, p % 4294967296 = q.toNat ∧ q.toNat < 4294967296 := by
    refine ⟨UInt32.ofNat (p % 4294967296).toNat, ?_, UInt32.toNat_lt _⟩
    rw [UInt32.toNat_ofNat']; omega
  have HQ : Hid (p % 4294967296 = q.toNat) := hq
  clear hq
  go_enter Yba.func3, Yba.ntmps3
  go_wp2_with fail
  refine HB.out.mono ?_
  rintro e w1 ⟨d', rfl, hs', _, hsort, hH, hbel, hlt1⟩
  have hsz' : d'.size ≤ 1024 := by omega
  have HS : Hid (SortedCh d') := hsort
  have HH : Hid (HoldsK encL 3 w1 w.heap.size 0 d') := hH
  have HBL : Hid (Below w.heap.size w w1) := hbel
  have hs2 : Hid (d'.size = d.size) := hs'
  clear hsort hH hbel hs' h2
  go_wp2_with fail
  refine (HC.out w.heap.size d'.size d' w1 HH.out hsz').mono ?_
  rintro e w2 ⟨g2, c2, rfl, hg2, hg2', hH2, hbel2⟩
  have HH1 : Hid (HoldsK encL 3 w2 w.heap.size 0 d') := below_holds hbel2 hlt1 HH.out
  have HH2 : Hid (HoldsK encL 3 w2 g2 0 d') := hH2
  have HBL2 : Hid (Below w.heap.size w w2) := HBL.out.trans (hbel2.mono (by omega))
  have hlt2 : w.heap.size < w2.heap.size := Nat.lt_of_lt_of_le hlt1 hbel2.size
  clear hH2 hbel2 HBL HH
  go_wp2_with fail
  refine (to_any p q HQ.out w2.heap.size w.heap.size 0 d'.size d' _ (by simp; omega) (by simp) (by simp) (((Grew.refl w2).alloc _).holds hlt2 HH1.out) hsz' HS.out).mono ?_
  rintro e w3 ⟨rfl, g3⟩
  have hz3 : w2.heap.size < w3.heap.size := Nat.lt_of_lt_of_le (by simp) g3.size
  have hbw : w3.cell? ⟨w2.heap.size, 1, none⟩ = some (.slice (some ⟨w.heap.size, 0, none⟩) d'.size d'.size) := g3.cell (by simp) (by simp)
  have G3 : Hid (Grew w2 w3) := ((Grew.refl w2).alloc _).trans g3
  clear g3
  have HBW : Hid _ := hbw
  clear hbw
  go_wp2_with fail
  rw [HQ.out]
  have E1 : Hid (cntLt d' q = nLt d' q d'.size) := by show _ = _; rw [cnt_lo]; unfold nLt; rw [List.take_of_length_le (by simp)]
  have E2 : Hid (q.toNat ≠ 4294967295 → cntLt d' (q + 1) = nLe d' q d'.size) := fun h => by rw [cnt_hi d' q h]; unfold nLe; rw [List.take_of_length_le (by simp)]
  have E3 : Hid (q.toNat = 4294967295 → cntLt d' (q + 1) = 0) := cnt_wrap d' q
  generalize cntLt d' q = x1 at *
  generalize cntLt d' (q + 1) = x2 at *
  go_loopg [11, 12, 35] d'.size (fun kx s11 s12 s35 wr => ∃ i : Nat, s35 = .int .i64 i ∧ i ≤ d'.size ∧ d'.size - i ≤ kx ∧ s11 = .int .i64 (nLt d' q i : Nat) ∧ s12 = .int .i64 (nLe d' q i : Nat) ∧ Hid (Grew w3 wr))
  case atStart => exact ⟨0, rfl, Nat.zero_le _, by omega, rfl, rfl, Grew.refl _⟩
  case round =>
    obtain ⟨i, rfl, hi1, hg, rfl, rfl, GR⟩ := hrel
    by_cases hlt : i < d'.size
    · have G4 := G3.out.trans GR.out
      have t3 := three (G4.holds (by omega) HH2.out) hlt
      simp only [Nat.zero_add] at t3
      obtain ⟨k1, k2, k3⟩ := t3
      have L1 : Hid (nLt d' q (i + 1) = nLt d' q i + if d'[i]!.1.toNat < q.toNat then 1 else 0) := nLt_succ d' q i hlt
      have L2 : Hid (nLe d' q (i + 1) = nLe d' q i + if d'[i]!.1.toNat ≤ q.toNat then 1 else 0) := nLe_succ d' q i hlt
      have b1 := nLt_le d' q i
      have b2 := nLe_le d' q i
      clear G4
      generalize nLt d' q i = m1 at *
      generalize nLe d' q i = m2 at *
      generalize d'[i]!.1.toNat = y0 at *
      generalize d'[i]!.2.1.toNat = y1 at *
      generalize d'[i]!.2.2.toNat = y2 at *
      generalize q.toNat = qn at *
      by_cases ha : y0 < qn
      · have hb' : y0 ≤ qn := by omega
        have ha' : (y0 : Int) < (qn : Int) := by omega
        have hb'' : (y0 : Int) ≤ (qn : Int) := by omega
        go_wp2_with fail
        go_roundg (d'.size - (i + 1))
        case measure => omega
        case rel => exact ⟨i + 1, by go_num, by omega, Nat.le_refl _, by rw [L1.out, if_pos ha]; go_num, by rw [L2.out, if_pos hb']; go_num, GR.out.alloc _⟩
      · have ha' : ¬ (y0 : Int) < (qn : Int) := by omega
        by_cases hb' : y0 ≤ qn
        · have hb'' : (y0 : Int) ≤ (qn : Int) := by omega
          go_wp2_with fail
          go_roundg (d'.size - (i + 1))
          case measure => omega
          case rel => exact ⟨i + 1, by go_num, by omega, Nat.le_refl _, by rw [L1.out, if_neg ha]; go_num, by rw [L2.out, if_pos hb']; go_num, GR.out.alloc _⟩
        · have hb'' : ¬ (y0 : Int) ≤ (qn : Int) := by omega
          go_wp2_with fail
          go_roundg (d'.size - (i + 1))
          case measure => omega
          case rel => exact ⟨i + 1, by go_num, by omega, Nat.le_refl _, by rw [L1.out, if_neg ha]; go_num, by rw [L2.out, if_neg hb']; go_num, GR.out.alloc _⟩
    · obtain rfl : i = d'.size := by omega
      have G4 := G3.out.trans GR.out
      have HQ1 : Hid (HoldsK encL 3 wr w.heap.size 0 d') := G4.holds hlt2 HH1.out
      have HQ2 : Hid (HoldsK encL 3 wr g2 0 d') := G4.holds hg2' HH2.out
      have cw : wr.cell? ⟨w2.heap.size, 1, none⟩ = some (.slice (some ⟨w.heap.size, 0, none⟩) d'.size d'.size) := GR.out.cell hz3 HBW.out
      have F : Hid (Below w.heap.size w wr) := HBL2.out.trans (G4.below.mono (by omega))
      have hwr : w.heap.size ≤ wr.heap.size := F.out.size
      clear G4
      by_cases hmax : q.toNat = 4294967295
      · have z1 : ((q.toNat : Int) == 4294967295) = true := beq_iff_eq.2 (by omega)
        have z2 : ((x1 : Int) == (nLt d' q d'.size : Nat)) = true := beq_iff_eq.2 (by rw [E1.out])
        have z3 : x2 = 0 := E3.out hmax
        have HMX : Hid (q.toNat = 4294967295) := hmax
        clear hmax
        subst z3
        generalize nLt d' q d'.size = m1 at *
        generalize nLe d' q d'.size = m2 at *
        generalize q.toNat = qn at *
        go_wp2_with fail
        refine (HE.out w.heap.size g2 d'.size c2 d' wr HQ1.out HQ2.out hsz').mono ?_
        rintro e w5 ⟨rfl, g5⟩
        have G5 : Hid (Grew wr w5) := g5
        clear g5
        go_wp2_with fail
        go_ret
        exact ⟨rfl, F.out.trans (G5.out.below.mono hwr)⟩
      · have z1 : ((q.toNat : Int) == 4294967295) = false := beq_eq_false_iff_ne.2 (by omega)
        have z2 : ((x1 : Int) == (nLt d' q d'.size : Nat)) = true := beq_iff_eq.2 (by rw [E1.out])
        have z3 : ((x2 : Int) == (nLe d' q d'.size : Nat)) = true := beq_iff_eq.2 (by rw [E2.out hmax])
        have HMX : Hid (¬ q.toNat = 4294967295) := hmax
        clear hmax
        generalize nLt d' q d'.size = m1 at *
        generalize nLe d' q d'.size = m2 at *
        generalize q.toNat = qn at *
        go_wp2_with fail
        refine (HE.out w.heap.size g2 d'.size c2 d' wr HQ1.out HQ2.out hsz').mono ?_
        rintro e w5 ⟨rfl, g5⟩
        have G5 : Hid (Grew wr w5) := g5
        clear g5
        go_wp2_with fail
        go_ret
        exact ⟨rfl, F.out.trans (G5.out.below.mono hwr)⟩

end Go.Proofs.Ybulkdczc
