/-
  THE WALK of zzs5216cmasks (5).
-/
import Derived.Test.YbulkdczqFmtEnum
import Derived.OwnWalk
import Derived.Deep.DeepAppendRoom
namespace Go.Proofs.YbulkdczqFmt
open Go.RowKit

/-- The bytes as they came in. -/
def Bytes (w : World) (a : Option Addr) (xs : List Nat) : Prop := xs = [] ∨ ∃ b o, a = some ⟨b, o, none⟩ ∧ b < w.heap.size ∧ ∀ j, (hj : j < xs.length) → w.cell? ⟨b, o + j, none⟩ = some (.int .u8 xs[j])

theorem Bytes.below {w w' : World} {a : Option Addr} {xs : List Nat} {B : Nat} (h : Bytes w a xs) (hb : Below B w w') (hB : w.heap.size ≤ B) : Bytes w' a xs := by
  rcases h with h | ⟨b, o, rfl, hl, hc⟩
  · exact Or.inl h
  · exact Or.inr ⟨b, o, rfl, Nat.lt_of_lt_of_le hl hb.size, fun j hj => (hb.cell (p := ⟨b, o + j, none⟩) (Nat.lt_of_lt_of_le hl hB)).trans (hc j hj)⟩

/-- The masks. -/
def masks (f : Nat) (xs : List Nat) : List Nat := xs.map (· &&& f)
def encM (ms : List Nat) : List Value := ms.map (fun m => Value.int .u64 (m : Nat))
theorem encM_snoc (ms : List Nat) (m : Nat) : encM (ms ++ [m]) = encM ms ++ [.int .u64 m] := by simp [encM]
theorem row_of_owns {w : World} {base g cap : Nat} {ms : List Nat} (h : w.ownsRow base 23 1 (.slice (some ⟨g, 0, none⟩) ms.length cap) ms.length (encM ms)) : Row w (some ⟨g, 0, none⟩) ms := by
  refine Or.inr ⟨g, 0, rfl, fun j hj => ?_⟩
  have := h.cells (g := g) rfl j (.int .u64 ms[j]) (by simp [encM, hj])
  rwa [Addr.add_lit] at this

set_option maxHeartbeats 1000000 in
set_option maxRecDepth 100000 in
theorem masks_any (a : Option Addr) (c f : Nat) (xs : List Nat) (hlen : xs.length ≤ 300) (h8 : ∀ x ∈ xs, x < 256) (hf : f < 2 ^ 64) (w : World) (h : Bytes w a xs) :
    Calls Ybaf.prog 5 #[.slice a xs.length c, .int .u64 f] w fun e w' => ∃ a' c', e = .returned (.slice a' (masks f xs).length c') ∧ Row w' a' (masks f xs) ∧ Below w.heap.size w w' := by
  obtain ⟨i, hi, hz0, hz1, hz2⟩ := info_parts info23
  have H : Hid (Bytes w a xs) := h
  have H8 : Hid (∀ x ∈ xs, x < 256) := h8
  clear h h8
  go_enter Ybaf.func5, Ybaf.ntmps5
  go_wp2_with (at_make; refine wpList_make_own _ rfl _ _ 25 rfl w.heap.size 23 i _ 1 Ybaf.underlying25 hi hz0 hz1 .i64 .i64 _ xs.length rfl rfl ?q1 ?q2 ?q3 ?q4 ?_)
  case q1 => rfl
  case q2 => rw [hz2]; omega
  case q3 => unfold maxLen; omega
  case q4 => exact Nat.le_refl _
  intro w1 own1 gr1
  have B1 : Hid (Below w.heap.size w w1) := (Below.refl _ w).grown gr1 (Nat.le_refl _) (fun k h => by cases h)
  have O1 : Hid (w1.ownsRow w.heap.size 23 1 (.slice (some ⟨w.heap.size, 0, none⟩) 0 xs.length) 0 (encM (masks f (xs.take 0)))) := own1
  clear own1 gr1
  go_wp2_with fail
  go_loopg [5, 13] xs.length (fun kx s5 s13 wr => ∃ j : Nat, s13 = .int .i64 j ∧ j ≤ xs.length ∧ xs.length - j ≤ kx ∧ s5 = .slice (some ⟨w.heap.size, 0, none⟩) j xs.length ∧ Hid (Below w.heap.size w wr) ∧ Hid (wr.ownsRow w.heap.size 23 1 (.slice (some ⟨w.heap.size, 0, none⟩) j xs.length) j (encM (masks f (xs.take j)))))
  case atStart => exact ⟨0, rfl, Nat.zero_le _, by omega, rfl, B1, O1⟩
  case round =>
    clear B1 O1
    obtain ⟨j, rfl, hj, hg, rfl, B, O⟩ := hrel
    by_cases hlt : j < xs.length
    · obtain ⟨b, o, rfl, hb, hc⟩ := H.out.resolve_left (fun e => by rw [e] at hlt; simp at hlt)
      have c1 : wr.cell? ⟨b, o + j, none⟩ = some (.int .u8 xs[j]) := (B.out.cell (p := ⟨b, o + j, none⟩) hb).trans (hc j hlt)
      have hx : xs[j] < 256 := H8.out _ (List.getElem_mem _)
      have y1 : (j : Int) < (xs.length : Int) := by omega
      have y0 : (0 : Int) ≤ (j : Int) := by omega
      have HF : Hid (encM (masks f (xs.take (j + 1))) = encM (masks f (xs.take j)) ++ [.int .u64 (xs[j] &&& f : Nat)]) := by
        show _ = _
        rw [List.take_succ_eq_append_getElem hlt, masks, List.map_append, encM, List.map_append]; rfl
      have e1 : bits .and .u64 (xs[j] : Int) (f : Int) = ((xs[j] &&& f : Nat) : Int) := u64_and_nat _ _ (by omega) hf
      have e2 : IntKind.u64.wrap (xs[j] : Int) = (xs[j] : Int) := by rw [IntKind.wrap_u64]; omega
      clear hc
      generalize hzz : xs[j] &&& f = z at *
      clear hzz
      generalize xs[j] = x at *
      go_wp2_with (at_builtin; refine wpList_append_own_spare _ rfl _ _ 25 rfl w.heap.size 23 i 1 Ybaf.underlying25 hi hz1 w.heap.size j xs.length (encM (masks f (xs.take j))) rfl ?a1 _ 1 1 [.int .u64 z] rfl ?a2 ?a3 ?a4 ?a5 ?_)
      case a1 => exact O.out.alloc _
      case a2 => rfl
      case a3 => exact cell_one_new _ _ _
      case a4 => intro u hu; simp at hu; subst hu; rfl
      case a5 => omega
      intro w' own' gr'
      have B' : Hid (Below w.heap.size w w') := (B.out.alloc B.out.size _).grown gr' (by have := B.out.size; simp; omega) (fun k h => by cases h; exact Nat.le_refl _)
      have O' : Hid (w'.ownsRow w.heap.size 23 1 (.slice (some ⟨w.heap.size, 0, none⟩) (j + 1) xs.length) (j + 1) (encM (masks f (xs.take (j + 1))))) := by
        show World.ownsRow _ _ _ _ _ _ _; rw [HF.out]; exact own'
      clear own' gr'
      go_wp2_with fail
      go_roundg (xs.length - (j + 1))
      case measure => omega
      case rel => exact ⟨j + 1, by go_num, by omega, Nat.le_refl _, rfl, B', O'⟩
    · obtain rfl : j = xs.length := by omega
      have hml : (masks f xs).length = xs.length := by simp [masks]
      have HR : Hid (Row wr (some ⟨w.heap.size, 0, none⟩) (masks f xs)) := by
        have := O.out
        rw [List.take_of_length_le (Nat.le_refl _)] at this
        exact row_of_owns (by rw [hml]; exact this)
      have HML : Hid ((masks f xs).length = xs.length) := hml
      clear hml
      go_wp2_with fail
      go_ret
      exact ⟨_, _, by rw [HML.out]; rfl, HR.out, B.out⟩
end Go.Proofs.YbulkdczqFmt
