/-
  THE WALK of encode (13).
-/
import Derived.Test.YbulkdczcFmtRead
import Derived.Test.YbulkdczcFmtPut
import Derived.Deep.LoopGhost
namespace Go.Proofs.YbulkdczcFmt
open Go.RowKit

theorem flip_bits (k : Nat) (v : Int) : bits BinOp.xor IntKind.u64 (IntKind.u64.wrap v) (IntKind.u64.wrap (half k : Nat)) = (flip k v : Int) := by
  have h1 : IntKind.u64.wrap v = ((v % 18446744073709551616).toNat : Int) := by simp [IntKind.wrap, IntKind.bits, IntKind.signed]; omega
  have h2 : half k < 18446744073709551616 := by unfold half; split <;> omega
  have h3 : IntKind.u64.wrap (half k : Nat) = ((half k : Nat) : Int) := wu64 _ (by omega) (by omega)
  rw [h1, h3, u64_xor_nat _ _ (by omega) h2]
  rfl

theorem put_enc (K : Nat) (hK : 1 ≤ K) (hK3 : K ≤ 3) (B b : Nat) (bs : List Value) (v : Int) (w : World) (h : Lib.BuilderAt 47 5 B b (.pointer (some ⟨b, 0, none⟩)) bs w) (hlen : bs.length ≤ 10000) (hBw : B ≤ w.heap.size) :
    Calls Ybaf.prog 24 #[.pointer (some ⟨b, 0, none⟩), .int .u8 K, .int .i64 v] w fun e w' => e = .returned (.tuple #[]) ∧ Lib.BuilderAt 47 5 B b (.pointer (some ⟨b, 0, none⟩)) (bs ++ Lib.byteCells (encB K v)) w' ∧ Below B w w' := by
  match K, hK, hK3 with
  | 1, _, _ => exact put1 B b bs v (flip 1 v) (flip_lt 1 v) (flip_bits 1 v) w h hlen hBw
  | 2, _, _ => exact put2 B b bs v (flip 2 v) (flip_lt 2 v) (flip_bits 2 v) w h hlen hBw
  | 3, _, _ => exact put3 B b bs v (flip 3 v) (flip_lt 3 v) (flip_bits 3 v) w h hlen hBw

theorem new_at (w : World) (o : Obj) : (w.alloc o).heap[w.heap.size]? = some o := by
  show (w.heap.push o)[w.heap.size]? = _
  simp

theorem byte0 (v : Int) : bits BinOp.xor IntKind.u8 (v % 256) 128 = ((flip 0 v % 256 : Nat) : Int) := by
  have e : v % 256 = ((v % 256).toNat : Int) := by omega
  have h := u8_xor_nat (v % 256).toNat 128 (by omega) (by omega)
  rw [← e] at h
  refine h.trans ?_
  congr 1
  have e2 : flip 0 v % 2 ^ 8 = ((v % 18446744073709551616).toNat % 2 ^ 8) ^^^ (128 % 2 ^ 8) := by
    unfold flip; rw [Nat.xor_mod_two_pow]; rfl
  have e3 : flip 0 v % 256 = flip 0 v % 2 ^ 8 := rfl
  rw [e3, e2]
  have e4 : (v % 18446744073709551616).toNat % 2 ^ 8 = (v % 256).toNat := by omega
  rw [e4]

theorem cells0 (v : Int) : Lib.byteCells (encB 0 v) = [.int .u8 ((flip 0 v % 256 : Nat) : Int)] := by
  have e : encB 0 v = [(flip 0 v % 256).toUInt8] := by unfold encB; rw [beBytes8]; rfl
  rw [e]
  simp only [Lib.byteCells, List.map_cons, List.map_nil, u8mod]

/-- The greatest width among the first i. -/
def mw (vs : List Int) (i : Nat) : Nat := maxw (vs.take i)
theorem mw_succ (vs : List Int) (i : Nat) (hi : i < vs.length) : mw vs (i + 1) = max (mw vs i) (lw vs[i]) := by
  unfold mw maxw
  rw [List.take_succ_eq_append_getElem hi, List.foldl_append]; rfl
theorem mw_all (vs : List Int) : mw vs vs.length = maxw vs := by unfold mw; rw [List.take_length]
theorem mw3 (vs : List Int) (i : Nat) : mw vs i ≤ 3 := maxw3 _

def Cells (w : World) (blk off : Nat) (vs : List Int) : Prop := ∀ i (h : i < vs.length), w.cell? ⟨blk, off + i, none⟩ = some (.int .i64 vs[i])

set_option maxHeartbeats 400000 in
theorem encode_empty (a : Option Addr) (cap : Nat) (w : World) : Calls Ybaf.prog 13 #[.slice a 0 cap] w fun e w' => e = .returned (.string (strS [])) ∧ w' = w := by
  go_enter Ybaf.func13, Ybaf.ntmps13
  go_wp2
  go_ret
  exact ⟨rfl, rfl⟩

set_option maxHeartbeats 1000000 in
set_option maxRecDepth 100000 in
theorem encode_any (blk off cap : Nat) (vs : List Int) (h : vs ≠ []) (hlen : vs.length ≤ 1024) (w : World) (hb : blk < w.heap.size) (hc : Cells w blk off vs) :
    Calls Ybaf.prog 13 #[.slice (some ⟨blk, off, none⟩) vs.length cap] w fun e w' => e = .returned (.string (strS vs)) ∧ Below w.heap.size w w' := by
  have hpos : 0 < vs.length := List.length_pos_iff.2 h
  have n0 : ((vs.length : Int) == 0) = false := beq_eq_false_iff_ne.2 (by omega)
  have n1 : ¬ (268435455 : Int) < (vs.length : Int) := by omega
  have HC : Hid (Cells w blk off vs) := hc
  have HV : Hid (vs ≠ []) := h
  clear hc h
  go_enter Ybaf.func13, Ybaf.ntmps13
  go_wp2_with fail
  go_loopg [3, 26] vs.length (fun kx s3 s26 wr => ∃ i : Nat, s26 = .int .i64 i ∧ i ≤ vs.length ∧ vs.length - i ≤ kx ∧ s3 = .int .u8 (mw vs i) ∧ w = wr)
  case atStart => exact ⟨0, rfl, Nat.zero_le _, by omega, rfl, rfl⟩
  case round =>
    obtain ⟨i, rfl, hi, hg, rfl, rfl⟩ := hrel
    by_cases hlt : i < vs.length
    · have c1 := HC.out i hlt
      have M : Hid (mw vs (i + 1) = max (mw vs i) (lw vs[i])) := mw_succ vs i hlt
      have L : Hid (∀ W, Calls Ybaf.prog 21 #[.int .i64 vs[i]] W fun e w' => e = .returned (.int .u8 (lw vs[i])) ∧ w' = W) := fun W => logWidth_any vs[i] W
      have b1 := lw_le vs[i]
      have b2 := mw3 vs i
      generalize lw vs[i] = x at *
      generalize vs[i] = v at *
      go_wp2_with fail
      refine (L.out w).mono ?_
      rintro e w' ⟨rfl, hw⟩
      subst hw
      go_wp2_with fail
      go_roundg (vs.length - (i + 1))
      case measure => omega
      case rel => exact ⟨i + 1, by go_num, by omega, Nat.le_refl _, by rw [M.out]; congr 1; omega, rfl⟩
    · obtain rfl : i = vs.length := by omega
      rw [mw_all]
      have hK3 := maxw3 vs
      have FIN : Hid (strS vs = ⟨(UInt8.ofNat (maxw vs) :: vs.flatMap (encB (maxw vs))).toArray⟩) := by
        show _ = _; unfold strS encS; rw [if_neg HV.out]
      generalize maxw vs = K at *
      rcases (show K = 0 ∨ K = 1 ∨ K = 2 ∨ K = 3 by omega) with hK | hK | hK | hK
      · subst hK
        clear hK3
        go_wp2_with fail
        have hgrow := Ybaf.Builder_Grow_fresh w.heap.size w.heap.size (1 + vs.length) (w.alloc (Obj.cells #[Value.pointer none, Value.slice none 0 0] 47)) (Nat.le_refl _) (new_at w _) (by simp) (by omega)
        rw [show (((1 + vs.length : Nat)) : Int) = 1 + (vs.length : Int) by omega] at hgrow
        refine hgrow.mono ?_
        clear hgrow
        rintro e w1 ⟨rfl, hb1, hbel1⟩
        have HBL1 : Hid (Below w.heap.size w w1) := ((Below.refl _ w).alloc (Nat.le_refl _) _).trans hbel1
        have HB1 : Hid (Lib.BuilderAt 47 5 w.heap.size w.heap.size (.pointer (some ⟨w.heap.size, 0, none⟩)) [] w1) := hb1
        have hz1 : w.heap.size ≤ w1.heap.size := HBL1.out.size
        clear hb1 hbel1
        go_wp2_with fail
        have hwb := Any.Builder_WriteByte Ybaf.wbL Ybaf.wbX w.heap.size w.heap.size [] 0 w1 (Or.inr HB1.out) (by simp) hz1
        change Calls Ybaf.prog 23 _ _ _ at hwb
        refine hwb.mono ?_
        clear hwb
        rintro e w2 ⟨rfl, hb2, hbel2⟩
        have HBL2 : Hid (Below w.heap.size w w2) := HBL1.out.trans hbel2
        have HB2 : Hid (Lib.BuilderAt 47 5 w.heap.size w.heap.size (.pointer (some ⟨w.heap.size, 0, none⟩)) (Lib.byteCells [0]) w2) := hb2
        clear hb2 hbel2 HBL1 HB1
        go_wp2_with fail
        go_loopg [47] vs.length (fun kx s wr => ∃ i : Nat, s = .int .i64 i ∧ i ≤ vs.length ∧ vs.length - i ≤ kx ∧ Hid (Below w.heap.size w wr) ∧ Hid (Lib.BuilderAt 47 5 w.heap.size w.heap.size (.pointer (some ⟨w.heap.size, 0, none⟩)) (Lib.byteCells (0 :: (vs.take i).flatMap (encB 0))) wr))
        case atStart => exact ⟨0, rfl, Nat.zero_le _, by omega, HBL2, HB2⟩
        case round =>
          clear HBL2 HB2
          obtain ⟨i, rfl, hi2, hg2, HBL, HBB⟩ := hrel
          have hzr : w.heap.size ≤ wr.heap.size := HBL.out.size
          by_cases hlt : i < vs.length
          · have c1 : wr.cell? ⟨blk, off + i, none⟩ = some (.int .i64 vs[i]) := (HBL.out.cell (p := ⟨blk, off + i, none⟩) hb).trans (HC.out i hlt)
            have SN : Hid (Lib.byteCells (0 :: (vs.take (i + 1)).flatMap (encB 0)) = Lib.byteCells (0 :: (vs.take i).flatMap (encB 0)) ++ Lib.byteCells (encB 0 vs[i])) := by
              show _ = _
              rw [List.take_succ_eq_append_getElem hlt, List.flatMap_append]
              simp [Lib.byteCells]
            have LN : (Lib.byteCells (0 :: (vs.take i).flatMap (encB 0))).length ≤ 10000 := by
              rw [Lib.byteCells_length, List.length_cons, flat_len (encB 0) 1 (fun v => encB_length 0 v (by omega)), List.length_take]; omega
            generalize vs[i] = v at *
            go_wp2_with fail
            rw [byte0]
            refine (Any.Builder_WriteByte Ybaf.wbL Ybaf.wbX w.heap.size w.heap.size _ ((flip 0 v % 256 : Nat) : Int) wr (Or.inr HBB.out) (by omega) hzr).mono ?_
            rintro e w3 ⟨rfl, hb3, hbel3⟩
            have HBL3 : Hid (Below w.heap.size w w3) := HBL.out.trans hbel3
            have HB3 : Hid (Lib.BuilderAt 47 5 w.heap.size w.heap.size (.pointer (some ⟨w.heap.size, 0, none⟩)) (Lib.byteCells (0 :: (vs.take (i + 1)).flatMap (encB 0))) w3) := by
              show Lib.BuilderAt _ _ _ _ _ _ _; rw [SN.out, cells0]; exact hb3
            clear hb3 hbel3
            go_wp2_with fail
            go_roundg (vs.length - (i + 1))
            case measure => omega
            case rel => exact ⟨i + 1, by go_num, by omega, Nat.le_refl _, HBL3, HB3⟩
          · obtain rfl : i = vs.length := by omega
            rw [List.take_length] at HBB
            go_wp2_with fail
            refine (Ybaf.Builder_String w.heap.size w.heap.size (0 :: vs.flatMap (encB 0)) wr (Or.inr HBB.out) (by simp)).mono ?_
            rintro e w3 ⟨rfl, hw3⟩
            have HW3 : Hid (Below w.heap.size w w3) := HBL.out.trans hw3
            clear hw3
            go_wp2_with fail
            go_ret
            refine ⟨?_, HW3.out⟩
            rw [FIN.out]; rfl
      · subst hK
        clear hK3
        go_wp2_with fail
        have hgrow := Ybaf.Builder_Grow_fresh w.heap.size w.heap.size (1 + vs.length * 2) (w.alloc (Obj.cells #[Value.pointer none, Value.slice none 0 0] 47)) (Nat.le_refl _) (new_at w _) (by simp) (by omega)
        rw [show (((1 + vs.length * 2 : Nat)) : Int) = 1 + (vs.length : Int) * 2 by omega] at hgrow
        refine hgrow.mono ?_
        clear hgrow
        rintro e w1 ⟨rfl, hb1, hbel1⟩
        have HBL1 : Hid (Below w.heap.size w w1) := ((Below.refl _ w).alloc (Nat.le_refl _) _).trans hbel1
        have HB1 : Hid (Lib.BuilderAt 47 5 w.heap.size w.heap.size (.pointer (some ⟨w.heap.size, 0, none⟩)) [] w1) := hb1
        have hz1 : w.heap.size ≤ w1.heap.size := HBL1.out.size
        clear hb1 hbel1
        go_wp2_with fail
        have hwb := Any.Builder_WriteByte Ybaf.wbL Ybaf.wbX w.heap.size w.heap.size [] 1 w1 (Or.inr HB1.out) (by simp) hz1
        change Calls Ybaf.prog 23 _ _ _ at hwb
        refine hwb.mono ?_
        clear hwb
        rintro e w2 ⟨rfl, hb2, hbel2⟩
        have HBL2 : Hid (Below w.heap.size w w2) := HBL1.out.trans hbel2
        have HB2 : Hid (Lib.BuilderAt 47 5 w.heap.size w.heap.size (.pointer (some ⟨w.heap.size, 0, none⟩)) (Lib.byteCells [1]) w2) := hb2
        clear hb2 hbel2 HBL1 HB1
        go_wp2_with fail
        go_loopg [58] vs.length (fun kx s wr => ∃ i : Nat, s = .int .i64 i ∧ i ≤ vs.length ∧ vs.length - i ≤ kx ∧ Hid (Below w.heap.size w wr) ∧ Hid (Lib.BuilderAt 47 5 w.heap.size w.heap.size (.pointer (some ⟨w.heap.size, 0, none⟩)) (Lib.byteCells (1 :: (vs.take i).flatMap (encB 1))) wr))
        case atStart => exact ⟨0, rfl, Nat.zero_le _, by omega, HBL2, HB2⟩
        case round =>
          clear HBL2 HB2
          obtain ⟨i, rfl, hi2, hg2, HBL, HBB⟩ := hrel
          have hzr : w.heap.size ≤ wr.heap.size := HBL.out.size
          by_cases hlt : i < vs.length
          · have c1 : wr.cell? ⟨blk, off + i, none⟩ = some (.int .i64 vs[i]) := (HBL.out.cell (p := ⟨blk, off + i, none⟩) hb).trans (HC.out i hlt)
            have SN : Hid (Lib.byteCells (1 :: (vs.take (i + 1)).flatMap (encB 1)) = Lib.byteCells (1 :: (vs.take i).flatMap (encB 1)) ++ Lib.byteCells (encB 1 vs[i])) := by
              show _ = _
              rw [List.take_succ_eq_append_getElem hlt, List.flatMap_append]
              simp [Lib.byteCells]
            have LN : (Lib.byteCells (1 :: (vs.take i).flatMap (encB 1))).length ≤ 10000 := by
              rw [Lib.byteCells_length, List.length_cons, flat_len (encB 1) 2 (fun v => encB_length 1 v (by omega)), List.length_take]; omega
            generalize vs[i] = v at *
            go_wp2_with fail
            refine (put_enc 1 (by omega) (by omega) w.heap.size w.heap.size _ v wr HBB.out LN hzr).mono ?_
            rintro e w3 ⟨rfl, hb3, hbel3⟩
            have HBL3 : Hid (Below w.heap.size w w3) := HBL.out.trans hbel3
            have HB3 : Hid (Lib.BuilderAt 47 5 w.heap.size w.heap.size (.pointer (some ⟨w.heap.size, 0, none⟩)) (Lib.byteCells (1 :: (vs.take (i + 1)).flatMap (encB 1))) w3) := by
              show Lib.BuilderAt _ _ _ _ _ _ _; rw [SN.out]; exact hb3
            clear hb3 hbel3
            go_wp2_with fail
            go_roundg (vs.length - (i + 1))
            case measure => omega
            case rel => exact ⟨i + 1, by go_num, by omega, Nat.le_refl _, HBL3, HB3⟩
          · obtain rfl : i = vs.length := by omega
            rw [List.take_length] at HBB
            go_wp2_with fail
            refine (Ybaf.Builder_String w.heap.size w.heap.size (1 :: vs.flatMap (encB 1)) wr (Or.inr HBB.out) (by simp)).mono ?_
            rintro e w3 ⟨rfl, hw3⟩
            have HW3 : Hid (Below w.heap.size w w3) := HBL.out.trans hw3
            clear hw3
            go_wp2_with fail
            go_ret
            refine ⟨?_, HW3.out⟩
            rw [FIN.out]; rfl
      · subst hK
        clear hK3
        go_wp2_with fail
        have hgrow := Ybaf.Builder_Grow_fresh w.heap.size w.heap.size (1 + vs.length * 4) (w.alloc (Obj.cells #[Value.pointer none, Value.slice none 0 0] 47)) (Nat.le_refl _) (new_at w _) (by simp) (by omega)
        rw [show (((1 + vs.length * 4 : Nat)) : Int) = 1 + (vs.length : Int) * 4 by omega] at hgrow
        refine hgrow.mono ?_
        clear hgrow
        rintro e w1 ⟨rfl, hb1, hbel1⟩
        have HBL1 : Hid (Below w.heap.size w w1) := ((Below.refl _ w).alloc (Nat.le_refl _) _).trans hbel1
        have HB1 : Hid (Lib.BuilderAt 47 5 w.heap.size w.heap.size (.pointer (some ⟨w.heap.size, 0, none⟩)) [] w1) := hb1
        have hz1 : w.heap.size ≤ w1.heap.size := HBL1.out.size
        clear hb1 hbel1
        go_wp2_with fail
        have hwb := Any.Builder_WriteByte Ybaf.wbL Ybaf.wbX w.heap.size w.heap.size [] 2 w1 (Or.inr HB1.out) (by simp) hz1
        change Calls Ybaf.prog 23 _ _ _ at hwb
        refine hwb.mono ?_
        clear hwb
        rintro e w2 ⟨rfl, hb2, hbel2⟩
        have HBL2 : Hid (Below w.heap.size w w2) := HBL1.out.trans hbel2
        have HB2 : Hid (Lib.BuilderAt 47 5 w.heap.size w.heap.size (.pointer (some ⟨w.heap.size, 0, none⟩)) (Lib.byteCells [2]) w2) := hb2
        clear hb2 hbel2 HBL1 HB1
        go_wp2_with fail
        go_loopg [58] vs.length (fun kx s wr => ∃ i : Nat, s = .int .i64 i ∧ i ≤ vs.length ∧ vs.length - i ≤ kx ∧ Hid (Below w.heap.size w wr) ∧ Hid (Lib.BuilderAt 47 5 w.heap.size w.heap.size (.pointer (some ⟨w.heap.size, 0, none⟩)) (Lib.byteCells (2 :: (vs.take i).flatMap (encB 2))) wr))
        case atStart => exact ⟨0, rfl, Nat.zero_le _, by omega, HBL2, HB2⟩
        case round =>
          clear HBL2 HB2
          obtain ⟨i, rfl, hi2, hg2, HBL, HBB⟩ := hrel
          have hzr : w.heap.size ≤ wr.heap.size := HBL.out.size
          by_cases hlt : i < vs.length
          · have c1 : wr.cell? ⟨blk, off + i, none⟩ = some (.int .i64 vs[i]) := (HBL.out.cell (p := ⟨blk, off + i, none⟩) hb).trans (HC.out i hlt)
            have SN : Hid (Lib.byteCells (2 :: (vs.take (i + 1)).flatMap (encB 2)) = Lib.byteCells (2 :: (vs.take i).flatMap (encB 2)) ++ Lib.byteCells (encB 2 vs[i])) := by
              show _ = _
              rw [List.take_succ_eq_append_getElem hlt, List.flatMap_append]
              simp [Lib.byteCells]
            have LN : (Lib.byteCells (2 :: (vs.take i).flatMap (encB 2))).length ≤ 10000 := by
              rw [Lib.byteCells_length, List.length_cons, flat_len (encB 2) 4 (fun v => encB_length 2 v (by omega)), List.length_take]; omega
            generalize vs[i] = v at *
            go_wp2_with fail
            refine (put_enc 2 (by omega) (by omega) w.heap.size w.heap.size _ v wr HBB.out LN hzr).mono ?_
            rintro e w3 ⟨rfl, hb3, hbel3⟩
            have HBL3 : Hid (Below w.heap.size w w3) := HBL.out.trans hbel3
            have HB3 : Hid (Lib.BuilderAt 47 5 w.heap.size w.heap.size (.pointer (some ⟨w.heap.size, 0, none⟩)) (Lib.byteCells (2 :: (vs.take (i + 1)).flatMap (encB 2))) w3) := by
              show Lib.BuilderAt _ _ _ _ _ _ _; rw [SN.out]; exact hb3
            clear hb3 hbel3
            go_wp2_with fail
            go_roundg (vs.length - (i + 1))
            case measure => omega
            case rel => exact ⟨i + 1, by go_num, by omega, Nat.le_refl _, HBL3, HB3⟩
          · obtain rfl : i = vs.length := by omega
            rw [List.take_length] at HBB
            go_wp2_with fail
            refine (Ybaf.Builder_String w.heap.size w.heap.size (2 :: vs.flatMap (encB 2)) wr (Or.inr HBB.out) (by simp)).mono ?_
            rintro e w3 ⟨rfl, hw3⟩
            have HW3 : Hid (Below w.heap.size w w3) := HBL.out.trans hw3
            clear hw3
            go_wp2_with fail
            go_ret
            refine ⟨?_, HW3.out⟩
            rw [FIN.out]; rfl
      · subst hK
        clear hK3
        go_wp2_with fail
        have hgrow := Ybaf.Builder_Grow_fresh w.heap.size w.heap.size (1 + vs.length * 8) (w.alloc (Obj.cells #[Value.pointer none, Value.slice none 0 0] 47)) (Nat.le_refl _) (new_at w _) (by simp) (by omega)
        rw [show (((1 + vs.length * 8 : Nat)) : Int) = 1 + (vs.length : Int) * 8 by omega] at hgrow
        refine hgrow.mono ?_
        clear hgrow
        rintro e w1 ⟨rfl, hb1, hbel1⟩
        have HBL1 : Hid (Below w.heap.size w w1) := ((Below.refl _ w).alloc (Nat.le_refl _) _).trans hbel1
        have HB1 : Hid (Lib.BuilderAt 47 5 w.heap.size w.heap.size (.pointer (some ⟨w.heap.size, 0, none⟩)) [] w1) := hb1
        have hz1 : w.heap.size ≤ w1.heap.size := HBL1.out.size
        clear hb1 hbel1
        go_wp2_with fail
        have hwb := Any.Builder_WriteByte Ybaf.wbL Ybaf.wbX w.heap.size w.heap.size [] 3 w1 (Or.inr HB1.out) (by simp) hz1
        change Calls Ybaf.prog 23 _ _ _ at hwb
        refine hwb.mono ?_
        clear hwb
        rintro e w2 ⟨rfl, hb2, hbel2⟩
        have HBL2 : Hid (Below w.heap.size w w2) := HBL1.out.trans hbel2
        have HB2 : Hid (Lib.BuilderAt 47 5 w.heap.size w.heap.size (.pointer (some ⟨w.heap.size, 0, none⟩)) (Lib.byteCells [3]) w2) := hb2
        clear hb2 hbel2 HBL1 HB1
        go_wp2_with fail
        go_loopg [58] vs.length (fun kx s wr => ∃ i : Nat, s = .int .i64 i ∧ i ≤ vs.length ∧ vs.length - i ≤ kx ∧ Hid (Below w.heap.size w wr) ∧ Hid (Lib.BuilderAt 47 5 w.heap.size w.heap.size (.pointer (some ⟨w.heap.size, 0, none⟩)) (Lib.byteCells (3 :: (vs.take i).flatMap (encB 3))) wr))
        case atStart => exact ⟨0, rfl, Nat.zero_le _, by omega, HBL2, HB2⟩
        case round =>
          clear HBL2 HB2
          obtain ⟨i, rfl, hi2, hg2, HBL, HBB⟩ := hrel
          have hzr : w.heap.size ≤ wr.heap.size := HBL.out.size
          by_cases hlt : i < vs.length
          · have c1 : wr.cell? ⟨blk, off + i, none⟩ = some (.int .i64 vs[i]) := (HBL.out.cell (p := ⟨blk, off + i, none⟩) hb).trans (HC.out i hlt)
            have SN : Hid (Lib.byteCells (3 :: (vs.take (i + 1)).flatMap (encB 3)) = Lib.byteCells (3 :: (vs.take i).flatMap (encB 3)) ++ Lib.byteCells (encB 3 vs[i])) := by
              show _ = _
              rw [List.take_succ_eq_append_getElem hlt, List.flatMap_append]
              simp [Lib.byteCells]
            have LN : (Lib.byteCells (3 :: (vs.take i).flatMap (encB 3))).length ≤ 10000 := by
              rw [Lib.byteCells_length, List.length_cons, flat_len (encB 3) 8 (fun v => encB_length 3 v (by omega)), List.length_take]; omega
            generalize vs[i] = v at *
            go_wp2_with fail
            refine (put_enc 3 (by omega) (by omega) w.heap.size w.heap.size _ v wr HBB.out LN hzr).mono ?_
            rintro e w3 ⟨rfl, hb3, hbel3⟩
            have HBL3 : Hid (Below w.heap.size w w3) := HBL.out.trans hbel3
            have HB3 : Hid (Lib.BuilderAt 47 5 w.heap.size w.heap.size (.pointer (some ⟨w.heap.size, 0, none⟩)) (Lib.byteCells (3 :: (vs.take (i + 1)).flatMap (encB 3))) w3) := by
              show Lib.BuilderAt _ _ _ _ _ _ _; rw [SN.out]; exact hb3
            clear hb3 hbel3
            go_wp2_with fail
            go_roundg (vs.length - (i + 1))
            case measure => omega
            case rel => exact ⟨i + 1, by go_num, by omega, Nat.le_refl _, HBL3, HB3⟩
          · obtain rfl : i = vs.length := by omega
            rw [List.take_length] at HBB
            go_wp2_with fail
            refine (Ybaf.Builder_String w.heap.size w.heap.size (3 :: vs.flatMap (encB 3)) wr (Or.inr HBB.out) (by simp)).mono ?_
            rintro e w3 ⟨rfl, hw3⟩
            have HW3 : Hid (Below w.heap.size w w3) := HBL.out.trans hw3
            clear hw3
            go_wp2_with fail
            go_ret
            refine ⟨?_, HW3.out⟩
            rw [FIN.out]; rfl

end Go.Proofs.YbulkdczcFmt
