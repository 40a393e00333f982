/-
  THE WALKS of (*strings.Builder).Write (41) and put (24).
-/
import Derived.Test.YbulkdczcFmtLay2
import Derived.Test.YbulkdczcFmtAt
import Derived.Deep.RegionWith
namespace Go.Proofs.YbulkdczcFmt
open Go.RowKit

set_option maxHeartbeats 1000000 in
set_option maxRecDepth 100000 in
theorem write_any (B b : Nat) (bs : List Value) (bb o m c : Nat) (news : List Value) (w : World) (h : Lib.BuilderAt 47 5 B b (.pointer (some ⟨b, 0, none⟩)) bs w) (hm : 0 < m)
    (hl : news.length = m) (hnews : ∀ j u, news[j]? = some u → w.cell? ⟨bb, o + j, none⟩ = some u) (h1 : ∀ u ∈ news, u.oneCell' = true) (hlen : bs.length + m ≤ 100000) (hBw : B ≤ w.heap.size) :
    Calls Ybaf.prog 41 #[.pointer (some ⟨b, 0, none⟩), .slice (some ⟨bb, o, none⟩) m c] w fun e w' => e = .returned (.tuple #[.int .i64 m, .nilIface]) ∧ Lib.BuilderAt 47 5 B b (.pointer (some ⟨b, 0, none⟩)) (bs ++ news) w' ∧ Below B w w' := by
  obtain ⟨i0, hi, hz0, hz1, hz2⟩ := info_parts Ybaf.wbX.infoByte
  change Ybaf.prog.info? 5 = some i0 at hi
  have HN : Hid (∀ j u, news[j]? = some u → w.cell? ⟨bb, o + j, none⟩ = some u) := hnews
  have H1 : Hid (∀ u ∈ news, u.oneCell' = true) := h1
  have HC := Any.Builder_copyCheck_used Ybaf.ccL Ybaf.wbX.toX72 b w h.cell0
  change Calls Ybaf.prog 38 _ _ _ at HC
  have HCC : Hid (Calls Ybaf.prog 38 #[.pointer (some ⟨b, 0, none⟩)] w fun e w' => e = .returned (.tuple #[]) ∧ w' = w) := HC
  have HB : Hid (Lib.BuilderAt 47 5 B b (.pointer (some ⟨b, 0, none⟩)) bs w) := h
  obtain ⟨hB, v, hbk, hown, hne⟩ := h
  have c0 : w.cell? ⟨b, 0, none⟩ = some (.pointer (some ⟨b, 0, none⟩)) := by rw [Lib.cell_of_heap hbk]; rfl
  have c1 : w.cell? ⟨b, 1, none⟩ = some v := by rw [Lib.cell_of_heap hbk]; rfl
  have HBK : Hid (w.heap[b]? = some (.cells #[.pointer (some ⟨b, 0, none⟩), v] 47 (0, 0))) := hbk
  have HO : Hid (w.ownsRow B 5 1 v bs.length bs) := hown
  have HNE : Hid (v.ownBlock ≠ some b) := hne
  clear hnews h1 HC hbk hown hne
  go_enter Ybaf.func41, Ybaf.ntmps41
  go_wp2_with fail
  refine HCC.out.mono ?_
  rintro e wx ⟨rfl, hwx⟩
  subst hwx
  go_wp2_with (at_builtin; refine wpList_append_own _ rfl _ _ 45 rfl B 5 i0 (.int .u8 0) 1 1 Ybaf.underlying45 hi hz0 hz1 hz2 rfl (by decide) v bs.length bs rfl ?q0 ⟨bb, o, none⟩ m c news rfl ?q1 ?q2 ?q3 ?q4 ?q5 ?q6 ?_)
  case q0 => exact HO.out
  case q1 => omega
  case q2 => intro j u hj; rw [Addr.add_lit]; exact HN.out j u hj
  case q3 => exact H1.out
  case q4 => unfold maxLen; omega
  case q5 => omega
  case q6 => exact hBw
  intro v' w2 hown' hgrow _
  have hlt : b < wx.heap.size := HB.out.lt
  have hb2 : w2.heap[b]? = some (.cells #[.pointer (some ⟨b, 0, none⟩), v] 47 (0, 0)) := by
    rw [hgrow.block b hlt (fun e => HNE.out e.symm)]
    exact HBK.out
  have d0 : w2.cell? ⟨b, 0, none⟩ = some (.pointer (some ⟨b, 0, none⟩)) := by rw [Lib.cell_of_heap hb2]; rfl
  have d1 : w2.cell? ⟨b, 1, none⟩ = some v := by rw [Lib.cell_of_heap hb2]; rfl
  have f1 : w2.frozen? ⟨b, 1, none⟩ = false := Lib.frozen_of_heap hb2 1
  obtain ⟨g, cap, hv⟩ : ∃ g cap, v' = .slice (some ⟨g, 0, none⟩) (bs.length + m) cap := by
    rcases hown'.2 with ⟨_, h0⟩ | ⟨g, cap, cur, hv, _⟩
    · omega
    · exact ⟨g, cap, hv⟩
  subst hv
  have HB2 : Hid (w2.heap[b]? = some (.cells #[.pointer (some ⟨b, 0, none⟩), v] 47 (0, 0))) := hb2
  have HO2 : Hid (w2.ownsRow B 5 1 (.slice (some ⟨g, 0, none⟩) (bs.length + m) cap) (bs.length + m) (bs ++ news)) := hown'
  have HG : Hid (wx.grownBy w2 v.ownBlock) := hgrow
  clear hb2 hown' hgrow
  go_wp2_with fail
  go_ret2
  refine ⟨rfl, ?_, ?_⟩
  · exact Lib.BuilderAt.put (T := 47) (e := 5) hB HB2.out (bs' := bs ++ news) (by have := HO2.out; rwa [List.length_append, hl]) (by decide)
  · exact ((Below.refl B wx).grown HG.out hBw (fun k hk => (HO.out.lt k hk).1)).setCell (p := ⟨b, 1, none⟩) hB _

/-- A builder that lies in old memory is as it was. -/
theorem builder_below {T e : TypeId} {B b : Nat} {p : Value} {bs : List Value} {w w' : World} (h : Lib.BuilderAt T e B b p bs w) (hb : Below w.heap.size w w') : Lib.BuilderAt T e B b p bs w' := by
  have hlt := h.lt
  obtain ⟨hB, v, hbk, hown, hne⟩ := h
  refine ⟨hB, v, ?_, ⟨hown.1, ?_⟩, hne⟩
  · rw [hb.block b hlt]; exact hbk
  · rcases hown.2 with h0 | ⟨g, cap, cur, rfl, h1, h2, h3⟩
    · exact Or.inl h0
    · exact Or.inr ⟨g, cap, cur, rfl, h1, by rw [hb.block g (hown.lt g rfl).2]; exact h2, h3⟩

theorem below_setCells {B : Nat} {a : World} {b : Nat} : ∀ {w : World}, Below B a w → B ≤ b → ∀ (vs : List Value) (o : Nat), Below B a (w.setCells b o vs)
  | _, h, _, [], _ => h
  | _, h, hb, v :: r, o => by
    rw [World.setCells]
    exact below_setCells (h.setCell (p := ⟨b, o, none⟩) hb v) hb r (o + 1)

def zero8 : Obj := .cells #[.int .u8 0, .int .u8 0, .int .u8 0, .int .u8 0, .int .u8 0, .int .u8 0, .int .u8 0, .int .u8 0] 68

theorem putU (w : World) (X : Nat) (hX : X < 18446744073709551616) :
    Calls Ybaf.prog 40 #[.agg #[], .slice (some ⟨w.heap.size, 0, none⟩) 8 8, .int .u64 X] (w.alloc zero8).drew fun e w' =>
      e = .returned (.tuple #[]) ∧ (∀ j u, (Lib.byteCells (Lib.beBytes 8 X))[j]? = some u → w'.cell? ⟨w.heap.size, j, none⟩ = some u) ∧ Below w.heap.size w w' ∧ w.heap.size < w'.heap.size := by
  have c : ∀ j, j < 8 → (w.alloc zero8).drew.cell? ⟨w.heap.size, j, none⟩ = some (.int .u8 0) := by
    intro j hj
    unfold zero8
    match j, hj with
    | 0, _ => simp [go_sem]
    | 1, _ => simp [go_sem]
    | 2, _ => simp [go_sem]
    | 3, _ => simp [go_sem]
    | 4, _ => simp [go_sem]
    | 5, _ => simp [go_sem]
    | 6, _ => simp [go_sem]
    | 7, _ => simp [go_sem]
  have f : ∀ j, (w.alloc zero8).drew.frozen? ⟨w.heap.size, j, none⟩ = false := by
    intro j; unfold zero8; simp [go_sem]
  have h := Ybaf.binary_BE_PutUint64 w.heap.size 0 8 8 X hX _ _ _ _ _ _ _ _ (w.alloc zero8).drew (Nat.le_refl _) (c 0 (by omega)) (c 1 (by omega)) (c 2 (by omega)) (c 3 (by omega)) (c 4 (by omega)) (c 5 (by omega)) (c 6 (by omega)) (c 7 (by omega)) (f 0) (f 1) (f 2) (f 3) (f 4) (f 5) (f 6) (f 7)
  refine h.mono ?_
  rintro e w' ⟨rfl, rfl⟩
  refine ⟨rfl, ?_, ?_, ?_⟩
  · intro j u hj
    obtain ⟨hj1, hj2⟩ := List.getElem?_eq_some_iff.1 hj
    have hj8 : j < 8 := by simpa [Lib.byteCells_length, Lib.beBytes_length] using hj1
    have hin := World.cell?_setCells_in w.heap.size (Lib.byteCells (Lib.beBytes 8 X)) 0 ((w.alloc zero8).drew.alloc (.cells #[] 70)) (fun i hi => by
      have hi8 : i < 8 := by simpa [Lib.byteCells_length, Lib.beBytes_length] using hi
      have hi0 : ((w.alloc zero8).drew.alloc (.cells #[] 70)).cell? ⟨w.heap.size, i, none⟩ = some (.int .u8 0) := Lib.cell?_alloc_some _ (c i hi8)
      rw [Nat.zero_add, hi0]; rfl) j hj1
    rw [Nat.zero_add] at hin
    rw [← hj2]
    exact hin
  · refine below_setCells ?_ (Nat.le_refl _) _ _
    exact (((Below.refl _ w).alloc (Nat.le_refl _) _).drew).alloc (by simp [World.drew]) _
  · have : ((w.alloc zero8).drew.alloc (.cells #[] 70)).heap.size ≤ (((w.alloc zero8).drew.alloc (.cells #[] 70)).setCells w.heap.size 0 (Lib.byteCells (Lib.beBytes 8 X))).heap.size := (below_setCells (Below.refl 0 _) (Nat.zero_le _) _ _).size
    refine Nat.lt_of_lt_of_le ?_ this
    simp [World.drew]
    omega

set_option maxHeartbeats 1000000 in
set_option maxRecDepth 100000 in
theorem put1 (B b : Nat) (bs : List Value) (v : Int) (X : Nat) (hX : X < 18446744073709551616) (hx : bits BinOp.xor IntKind.u64 (IntKind.u64.wrap v) (IntKind.u64.wrap 32768) = (X : Int)) (w : World) (h : Lib.BuilderAt 47 5 B b (.pointer (some ⟨b, 0, none⟩)) bs w) (hlen : bs.length ≤ 10000) (hBw : B ≤ w.heap.size) :
    Calls Ybaf.prog 24 #[.pointer (some ⟨b, 0, none⟩), .int .u8 1, .int .i64 v] w fun e w' => e = .returned (.tuple #[]) ∧ Lib.BuilderAt 47 5 B b (.pointer (some ⟨b, 0, none⟩)) (bs ++ Lib.byteCells ((Lib.beBytes 8 X).drop 6)) w' ∧ Below B w w' := by
  have HB : Hid (Lib.BuilderAt 47 5 B b (.pointer (some ⟨b, 0, none⟩)) bs w) := h
  clear h
  have e16 : IntKind.i64.wrap 16 = 16 := by decide
  have e15 : IntKind.i64.wrap 15 = 15 := by decide
  go_enter Ybaf.func24, Ybaf.ntmps24
  go_wp2_with fail
  go_region_with (go_at_call 40; refine (putU w X hX).mono ?_; rintro e w1 ⟨rfl, hcs, hbel, hlt⟩)
  have HCS : Hid (∀ j u, (Lib.byteCells (Lib.beBytes 8 X))[j]? = some u → w1.cell? ⟨w.heap.size, j, none⟩ = some u) := hcs
  have HBL : Hid (Below w.heap.size w w1) := hbel
  clear hcs hbel
  go_wp2_with fail
  refine (write_any B b bs w.heap.size 6 2 2 (Lib.byteCells ((Lib.beBytes 8 X).drop 6)) w1 (builder_below HB.out HBL.out) (by omega) (by simp [Lib.byteCells_length, Lib.beBytes_length]) (fun j u hj => HCS.out (6 + j) u (by rw [← hj]; unfold Lib.byteCells; rw [List.map_drop, List.getElem?_drop])) (fun u hu => by unfold Lib.byteCells at hu; obtain ⟨x, _, rfl⟩ := List.mem_map.1 hu; rfl) (by omega) (by have := HBL.out.size; omega)).mono ?_
  rintro e w2 ⟨rfl, hb2, hbel2⟩
  have HB2 : Hid (Lib.BuilderAt 47 5 B b (.pointer (some ⟨b, 0, none⟩)) (bs ++ Lib.byteCells ((Lib.beBytes 8 X).drop 6)) w2) := hb2
  have HBL2 : Hid (Below B w1 w2) := hbel2
  clear hb2 hbel2
  go_wp2_with fail
  go_end0
  exact ⟨rfl, HB2.out, (HBL.out.mono hBw).trans HBL2.out⟩

set_option maxHeartbeats 1000000 in
set_option maxRecDepth 100000 in
theorem put2 (B b : Nat) (bs : List Value) (v : Int) (X : Nat) (hX : X < 18446744073709551616) (hx : bits BinOp.xor IntKind.u64 (IntKind.u64.wrap v) (IntKind.u64.wrap 2147483648) = (X : Int)) (w : World) (h : Lib.BuilderAt 47 5 B b (.pointer (some ⟨b, 0, none⟩)) bs w) (hlen : bs.length ≤ 10000) (hBw : B ≤ w.heap.size) :
    Calls Ybaf.prog 24 #[.pointer (some ⟨b, 0, none⟩), .int .u8 2, .int .i64 v] w fun e w' => e = .returned (.tuple #[]) ∧ Lib.BuilderAt 47 5 B b (.pointer (some ⟨b, 0, none⟩)) (bs ++ Lib.byteCells ((Lib.beBytes 8 X).drop 4)) w' ∧ Below B w w' := by
  have HB : Hid (Lib.BuilderAt 47 5 B b (.pointer (some ⟨b, 0, none⟩)) bs w) := h
  clear h
  have e16 : IntKind.i64.wrap 32 = 32 := by decide
  have e15 : IntKind.i64.wrap 31 = 31 := by decide
  go_enter Ybaf.func24, Ybaf.ntmps24
  go_wp2_with fail
  go_region_with (go_at_call 40; refine (putU w X hX).mono ?_; rintro e w1 ⟨rfl, hcs, hbel, hlt⟩)
  have HCS : Hid (∀ j u, (Lib.byteCells (Lib.beBytes 8 X))[j]? = some u → w1.cell? ⟨w.heap.size, j, none⟩ = some u) := hcs
  have HBL : Hid (Below w.heap.size w w1) := hbel
  clear hcs hbel
  go_wp2_with fail
  refine (write_any B b bs w.heap.size 4 4 4 (Lib.byteCells ((Lib.beBytes 8 X).drop 4)) w1 (builder_below HB.out HBL.out) (by omega) (by simp [Lib.byteCells_length, Lib.beBytes_length]) (fun j u hj => HCS.out (4 + j) u (by rw [← hj]; unfold Lib.byteCells; rw [List.map_drop, List.getElem?_drop])) (fun u hu => by unfold Lib.byteCells at hu; obtain ⟨x, _, rfl⟩ := List.mem_map.1 hu; rfl) (by omega) (by have := HBL.out.size; omega)).mono ?_
  rintro e w2 ⟨rfl, hb2, hbel2⟩
  have HB2 : Hid (Lib.BuilderAt 47 5 B b (.pointer (some ⟨b, 0, none⟩)) (bs ++ Lib.byteCells ((Lib.beBytes 8 X).drop 4)) w2) := hb2
  have HBL2 : Hid (Below B w1 w2) := hbel2
  clear hb2 hbel2
  go_wp2_with fail
  go_end0
  exact ⟨rfl, HB2.out, (HBL.out.mono hBw).trans HBL2.out⟩

set_option maxHeartbeats 1000000 in
set_option maxRecDepth 100000 in
theorem put3 (B b : Nat) (bs : List Value) (v : Int) (X : Nat) (hX : X < 18446744073709551616) (hx : bits BinOp.xor IntKind.u64 (IntKind.u64.wrap v) (IntKind.u64.wrap 9223372036854775808) = (X : Int)) (w : World) (h : Lib.BuilderAt 47 5 B b (.pointer (some ⟨b, 0, none⟩)) bs w) (hlen : bs.length ≤ 10000) (hBw : B ≤ w.heap.size) :
    Calls Ybaf.prog 24 #[.pointer (some ⟨b, 0, none⟩), .int .u8 3, .int .i64 v] w fun e w' => e = .returned (.tuple #[]) ∧ Lib.BuilderAt 47 5 B b (.pointer (some ⟨b, 0, none⟩)) (bs ++ Lib.byteCells ((Lib.beBytes 8 X).drop 0)) w' ∧ Below B w w' := by
  have HB : Hid (Lib.BuilderAt 47 5 B b (.pointer (some ⟨b, 0, none⟩)) bs w) := h
  clear h
  have e16 : IntKind.i64.wrap 64 = 64 := by decide
  have e15 : IntKind.i64.wrap 63 = 63 := by decide
  go_enter Ybaf.func24, Ybaf.ntmps24
  go_wp2_with fail
  go_region_with (go_at_call 40; refine (putU w X hX).mono ?_; rintro e w1 ⟨rfl, hcs, hbel, hlt⟩)
  have HCS : Hid (∀ j u, (Lib.byteCells (Lib.beBytes 8 X))[j]? = some u → w1.cell? ⟨w.heap.size, j, none⟩ = some u) := hcs
  have HBL : Hid (Below w.heap.size w w1) := hbel
  clear hcs hbel
  go_wp2_with fail
  refine (write_any B b bs w.heap.size 0 8 8 (Lib.byteCells ((Lib.beBytes 8 X).drop 0)) w1 (builder_below HB.out HBL.out) (by omega) (by simp [Lib.byteCells_length, Lib.beBytes_length]) (fun j u hj => HCS.out (0 + j) u (by rw [← hj]; unfold Lib.byteCells; rw [List.map_drop, List.getElem?_drop])) (fun u hu => by unfold Lib.byteCells at hu; obtain ⟨x, _, rfl⟩ := List.mem_map.1 hu; rfl) (by omega) (by have := HBL.out.size; omega)).mono ?_
  rintro e w2 ⟨rfl, hb2, hbel2⟩
  have HB2 : Hid (Lib.BuilderAt 47 5 B b (.pointer (some ⟨b, 0, none⟩)) (bs ++ Lib.byteCells ((Lib.beBytes 8 X).drop 0)) w2) := hb2
  have HBL2 : Hid (Below B w1 w2) := hbel2
  clear hb2 hbel2
  go_wp2_with fail
  go_end0
  exact ⟨rfl, HB2.out, (HBL.out.mono hBw).trans HBL2.out⟩

end Go.Proofs.YbulkdczcFmt
