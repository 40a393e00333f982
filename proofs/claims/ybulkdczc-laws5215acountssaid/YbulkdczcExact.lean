/-
  THE WALK of LawS5215AExact (4).
-/
import Derived.Test.YbulkdczcBuild0
import Derived.Test.YbulkdczcPlain
namespace Go.Proofs.Ybulkdczc
open Go.RowKit Go.Sort

/-- What zzs5215abuild does: a sorted permutation, in a block of its own. -/
def Built (v : Value) (d : Array Let) (w : World) : Prop := Calls Yba.prog 5 #[v] w fun e w' => ∃ d' : Array Let, e = .returned (.slice (some ⟨w.heap.size, 0, none⟩) d'.size d'.size) ∧ d'.size = d.size ∧ d'.toList.Perm d.toList ∧ SortedCh d' ∧
  HoldsK encL 3 w' w.heap.size 0 d' ∧ Below w.heap.size w w' ∧ w.heap.size < w'.heap.size

set_option maxHeartbeats 400000 in
theorem exact_zero (a : Option Addr) (c : Nat) (k : Int) (w : World) : Calls Yba.prog 4 #[.slice a 0 c, .int .u64 k] w fun e w' => e = .returned (.bool true) ∧ Below w.heap.size w w' := by
  go_enter Yba.func4, Yba.ntmps4
  go_wp2
  go_ret
  exact ⟨rfl, Below.refl _ _⟩

set_option maxHeartbeats 400000 in
theorem exact_long (a : Option Addr) (n c : Nat) (hn : 1024 < n) (k : Int) (w : World) : Calls Yba.prog 4 #[.slice a n c, .int .u64 k] w fun e w' => e = .returned (.bool true) ∧ Below w.heap.size w w' := by
  have h1 : ((n : Int) == 0) = false := beq_eq_false_iff_ne.2 (by omega)
  have h2 : (1024 : Int) < (n : Int) := by omega
  go_enter Yba.func4, Yba.ntmps4
  go_wp2
  go_ret
  exact ⟨rfl, Below.refl _ _⟩

set_option maxHeartbeats 1000000 in
set_option maxRecDepth 100000 in
theorem exact_any (b o c : Nat) (d : Array Let) (k : Nat) (hk : k < 18446744073709551616) (w : World) (hR : Reads w b o d) (h0 : 0 < d.size) (hsz : d.size ≤ 1024)
    (hB : Built (.slice (some ⟨b, o, none⟩) d.size c) d w) :
    Calls Yba.prog 4 #[.slice (some ⟨b, o, none⟩) d.size c, .int .u64 k] w fun e w' => e = .returned (.bool true) ∧ Below w.heap.size w w' := by
  have h1 : ((d.size : Int) == 0) = false := beq_eq_false_iff_ne.2 (by omega)
  have h2 : ¬ (1024 : Int) < (d.size : Int) := by omega
  have hkm : k % d.size < d.size := Nat.mod_lt _ h0
  have c1 := (hR (k % d.size) hkm).1
  have HR : Hid (Reads w b o d) := hR
  have HB : Hid (Built (.slice (some ⟨b, o, none⟩) d.size c) d w) := hB
  clear hR hB
  generalize hr : d[k % d.size]!.1 = r at *
  have Hr : Hid (d[k % d.size]!.1 = r) := hr
  clear hr
  have hrl := r.toNat_lt
  by_cases hmax : r.toNat = 4294967295
  · have h3 : ((r.toNat : Int) == 4294967295) = true := beq_iff_eq.2 (by omega)
    go_enter Yba.func4, Yba.ntmps4
    go_wp2_with fail
    go_ret
    exact ⟨rfl, Below.refl _ _⟩
  · have h3 : ((r.toNat : Int) == 4294967295) = false := beq_eq_false_iff_ne.2 (by omega)
    have HM : Hid (¬ r.toNat = 4294967295) := hmax
    clear hmax
    go_enter Yba.func4, Yba.ntmps4
    go_wp2_with fail
    refine HB.out.mono ?_
    rintro e w1 ⟨d', rfl, hs', hperm, hsort, hH, hbel, hlt1⟩
    obtain ⟨j, hj, hjr⟩ : ∃ j, j < d'.size ∧ d'[j]!.1 = r := by
      have hmem : d[k % d.size]! ∈ d'.toList := hperm.mem_iff.2 (by rw [getElem!_pos d _ hkm]; exact Array.mem_toList_iff.2 (Array.getElem_mem _))
      obtain ⟨j, hj, e⟩ := List.getElem_of_mem hmem
      have hj' : j < d'.size := by simpa using hj
      refine ⟨j, hj', ?_⟩
      rw [getElem!_pos d' j hj']
      have e' : d'[j] = d[k % d.size]! := by rw [← e]; simp
      rw [e']; exact Hr.out
    have hlohi := exact_ne d' hsort r HM.out j hj (by rw [hjr])
    have hin := exact_in d' hsort r HM.out
    have hle := cnt_le d' (r + 1)
    have T : Hid (∀ (bw : Nat) (W : World), Grew w1 W → bw < W.heap.size → W.cell? ⟨bw, 1, none⟩ = some (.slice (some ⟨w.heap.size, 0, none⟩) d'.size d'.size) → _) := fun (bw : Nat) (W : World) (g : Grew w1 W) (hbw : bw < W.heap.size) (hcell : W.cell? ⟨bw, 1, none⟩ = some (.slice (some ⟨w.heap.size, 0, none⟩) d'.size d'.size)) =>
      to_any (r.toNat : Int) r (by omega) bw w.heap.size 0 d'.size d' W (Nat.lt_of_lt_of_le hlt1 g.size) hbw hcell (by obtain ⟨q, os, rfl⟩ := g; exact holdsK_grow encL 3 _ os w.heap.size 0 d' hlt1 (holdsK_ahead encL 3 w1 q w.heap.size 0 d' hH)) (by omega) hsort
    generalize cntLt d' r = lo at *
    generalize cntLt d' (r + 1) = hi at *
    have HIN : Hid _ := hin
    have HH : Hid (HoldsK encL 3 w1 w.heap.size 0 d') := hH
    have HBL : Hid (Below w.heap.size w w1) := hbel
    have hs2 : Hid (d'.size = d.size) := hs'
    have hsz' : d'.size ≤ 1024 := by omega
    clear hin hH hperm hsort hjr hbel hs' h2 h1
    go_wp2_with fail
    refine (T.out w1.heap.size _ ((Grew.refl _).alloc _) (by simp) (by simp)).mono ?_
    rintro e w2 ⟨rfl, g2⟩
    have hz2 : w1.heap.size < w2.heap.size := Nat.lt_of_lt_of_le (by simp) g2.size
    have G2 : Hid (Grew w1 w2) := ((Grew.refl w1).alloc _).trans g2
    clear g2 T
    go_wp2_with fail
    go_loopg [10] d'.size (fun kx s10 wr => ∃ i : Nat, s10 = .int .i64 i ∧ i ≤ d'.size ∧ d'.size - i ≤ kx ∧ w2 = wr)
    case atStart => exact ⟨0, rfl, Nat.zero_le _, by omega, rfl⟩
    case round =>
      obtain ⟨i, rfl, hi1, hg, rfl⟩ := hrel
      by_cases hlt : i < d'.size
      · have cx : w2.cell? ⟨w.heap.size, i * 3, none⟩ = some (.int .u32 d'[i]!.1.toNat) := by
          have := G2.out.cell (a := ⟨w.heap.size, 0 + i * 3, none⟩) hlt1 (three HH.out hlt).1
          simpa using this
        have hx := HIN.out i hlt
        generalize d'[i]!.1.toNat = x at *
        by_cases ha : lo ≤ i
        · by_cases hb' : i < hi
          · have hxe : ((x : Int) == (r.toNat : Int)) = true := beq_iff_eq.2 (by have := hx.1 ⟨ha, hb'⟩; omega)
            clear hx
            go_wp2_with fail
            go_roundg (d'.size - (i + 1))
            case measure => omega
            case rel => exact ⟨i + 1, by go_num, by omega, Nat.le_refl _, rfl⟩
          · have hxe : ((x : Int) == (r.toNat : Int)) = false := beq_eq_false_iff_ne.2 (fun h => by have := hx.2 (by omega); omega)
            clear hx
            go_wp2_with fail
            go_roundg (d'.size - (i + 1))
            case measure => omega
            case rel => exact ⟨i + 1, by go_num, by omega, Nat.le_refl _, rfl⟩
        · have hxe : ((x : Int) == (r.toNat : Int)) = false := beq_eq_false_iff_ne.2 (fun h => by have := hx.2 (by omega); omega)
          clear hx
          go_wp2_with fail
          go_roundg (d'.size - (i + 1))
          case measure => omega
          case rel => exact ⟨i + 1, by go_num, by omega, Nat.le_refl _, rfl⟩
      · go_wp2_with fail
        go_ret
        exact ⟨rfl, HBL.out.trans (G2.out.below.mono (by omega))⟩

end Go.Proofs.Ybulkdczc
