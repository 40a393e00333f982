/-
  THE WALK of (*world).to (7).
-/
import Derived.Test.YbulkdczcFind
namespace Go.Proofs.Ybulkdczc
open Go.RowKit Go.Sort

/-- How many letters are to a recipient whose channels come before (u, 0). -/
def cntLt (d : Array Let) (u : UInt32) : Nat := d.toList.countP (fun x => decide (ch x < ch (u, 0, 0)))

set_option maxHeartbeats 1000000 in
set_option maxRecDepth 100000 in
theorem to_any (p : Int) (u : UInt32) (hu : p % 4294967296 = u.toNat) (bw blk off cap : Nat) (d : Array Let) (w : World) (hblk : blk < w.heap.size) (hbw : bw < w.heap.size)
    (hcell : w.cell? ⟨bw, 1, none⟩ = some (.slice (some ⟨blk, off, none⟩) d.size cap)) (hH : HoldsK encL 3 w blk off d) (hsz : d.size ≤ 1024)
    (hs : ∀ i j, i ≤ j → j < d.size → ch d[i]! ≤ ch d[j]!) :
    Calls Yba.prog 7 #[.pointer (some ⟨bw, 0, none⟩), .int .i64 p] w fun e w' =>
      e = .returned (.tuple #[.int .i64 (cntLt d u : Nat), .int .i64 (cntLt d (u + 1) : Nat)]) ∧ Grew w w' := by
  have HU : Hid (p % 4294967296 = u.toNat) := hu
  have HH : Hid (HoldsK encL 3 w blk off d) := hH
  have HS : Hid (∀ i j, i ≤ j → j < d.size → ch d[i]! ≤ ch d[j]!) := hs
  have HU2 : Hid ((p + 1) % 4294967296 = ((u + 1).toNat : Nat)) := by
    show _ = _
    rw [UInt32.toNat_add]
    have : (1 : UInt32).toNat = 1 := rfl
    rw [this]
    omega
  clear hu hH hs
  unfold cntLt
  have B : Hid (∀ (t : UInt32) (W : World), Grew w W → Calls Yba.prog 11 #[.slice (some ⟨blk, off, none⟩) d.size cap, .agg #[.int .u32 t.toNat, .int .u32 0, .int .u32 0], .func (.func 10) #[] #[]] W fun e w' =>
      ∃ b, e = .returned (.tuple #[.int .i64 (d.toList.countP (fun x => decide (ch x < ch (t, 0, 0))) : Nat), .bool b]) ∧ Grew W w') :=
    fun (t : UInt32) (W : World) (g : Grew w W) => bsearch_any (t, 0, 0) blk off cap d W (Nat.lt_of_lt_of_le hblk g.size) (by obtain ⟨q, os, rfl⟩ := g; exact holdsK_grow encL 3 _ os blk off d hblk (holdsK_ahead encL 3 w q blk off d HH.out)) hsz (fun a b hab hb h => Nat.lt_of_le_of_lt (HS.out a b hab hb) h)
  generalize hc1 : d.toList.countP (fun x => decide (ch x < ch (u, 0, 0))) = c1
  generalize hc2 : d.toList.countP (fun x => decide (ch x < ch (u + 1, 0, 0))) = c2
  have C1 : Hid _ := hc1
  have C2 : Hid _ := hc2
  clear hc1 hc2
  go_enter Yba.func7, Yba.ntmps7
  go_wp2_with fail
  rw [HU.out]
  refine (B.out u w (Grew.refl w)).mono ?_
  rintro e w1 ⟨b1, rfl, g1⟩
  rw [C1.out]
  have hcell1 := g1.cell hbw hcell
  go_wp2_with fail
  rw [HU2.out]
  refine (B.out (u + 1) w1 g1).mono ?_
  rintro e w2 ⟨b2, rfl, g2⟩
  rw [C2.out]
  go_wp2_with fail
  go_ret2
  exact ⟨rfl, g1.trans g2⟩

end Go.Proofs.Ybulkdczc
