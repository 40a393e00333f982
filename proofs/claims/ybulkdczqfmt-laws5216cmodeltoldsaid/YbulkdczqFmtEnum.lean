/-
  THE WALK of enumerateDisjoint (6).
-/
import Derived.Test.YbulkdczqFmtBridge
namespace Go.Proofs.YbulkdczqFmt
open Go.RowKit Go.Shelf

attribute [local go_sem] Oper.semAt_some

/-- Behind Quorums: the structure has noted one call, of reading; all else that lay lies as it lay. -/
structure Noted (sb n la lb : Nat) (aa ba : Option Addr) (ca cb : Nat) (w w' : World) : Prop where
  noted : ∃ g cap, w.heap.size ≤ g ∧ w'.heap[sb]? = some (.cells #[.int .i64 n, .slice aa la ca, .slice ba lb cb, .slice (some ⟨g, 0, none⟩) 1 cap] 31 (0, 0)) ∧ w'.cell? ⟨g, 0, none⟩ = some (.int .i64 0)
  os : w'.os = w.os
  tape : w'.tape = w.tape
  output : w'.output = w.output
  size : w.heap.size ≤ w'.heap.size
  block : ∀ k, k < w.heap.size → k ≠ sb → w'.heap[k]? = w.heap[k]?

theorem heap_alloc5 (w : World) (o0 o1 o2 o3 o4 : Obj) :
    (((((w.alloc o0).alloc o1).alloc o2).alloc o3).alloc o4).heap[w.heap.size]? = some o0 ∧ (((((w.alloc o0).alloc o1).alloc o2).alloc o3).alloc o4).heap[w.heap.size + 1]? = some o1 ∧
    (((((w.alloc o0).alloc o1).alloc o2).alloc o3).alloc o4).heap[w.heap.size + 1 + 1]? = some o2 ∧ (((((w.alloc o0).alloc o1).alloc o2).alloc o3).alloc o4).heap[w.heap.size + 1 + 1 + 1]? = some o3 ∧
    (((((w.alloc o0).alloc o1).alloc o2).alloc o3).alloc o4).heap[w.heap.size + 1 + 1 + 1 + 1]? = some o4 ∧ (((((w.alloc o0).alloc o1).alloc o2).alloc o3).alloc o4).heap.size = w.heap.size + 1 + 1 + 1 + 1 + 1 := by
  refine ⟨?_, ?_, ?_, ?_, ?_, by simp⟩
  · rw [heap_alloc_old _ _ (by simp only [World.size_alloc]; omega), heap_alloc_old _ _ (by simp only [World.size_alloc]; omega), heap_alloc_old _ _ (by simp only [World.size_alloc]; omega)]; exact heap_alloc2_fst w _ _
  · rw [heap_alloc_old _ _ (by simp only [World.size_alloc]; omega), heap_alloc_old _ _ (by simp only [World.size_alloc]; omega), heap_alloc_old _ _ (by simp only [World.size_alloc]; omega)]; exact heap_alloc2_new w _ _
  · rw [heap_alloc_old _ _ (by simp only [World.size_alloc]; omega), heap_alloc_old _ _ (by simp only [World.size_alloc]; omega)]; exact (by simpa using heap_alloc_new ((w.alloc o0).alloc o1) o2)
  · rw [heap_alloc_old _ _ (by simp only [World.size_alloc]; omega)]; exact (by simpa using heap_alloc_new (((w.alloc o0).alloc o1).alloc o2) o3)
  · exact (by simpa using heap_alloc_new ((((w.alloc o0).alloc o1).alloc o2).alloc o3) o4)

/-- Between two rounds. -/
structure EJ (w6 : World) (r : LoopState → Option Code → Loop) (H : Nat → Bool) (n : Nat) (al : List Nat) (k : Nat) (W : World) : Prop where
  bel : Below w6.heap.size w6 W
  lrec : W.heap[w6.heap.size + 1]? = some (.loop (r .ready none))
  def' : W.heap[w6.heap.size]? = some (.deferred (some []))
  none' : ∀ j, (hj : j < al.length) → j < k → H (sub (full n) al[j]) = false
theorem EJ.keep {w6 : World} {r : LoopState → Option Code → Loop} {H : Nat → Bool} {n : Nat} {al : List Nat} {k : Nat} {W W' : World} (h : EJ w6 r H n al k W) (hb : Below W.heap.size W W') : EJ w6 r H n al k W' :=
  ⟨h.bel.trans (hb.mono h.bel.size), (hb.block _ (Array.getElem?_eq_some_iff.1 h.lrec).1).trans h.lrec, (hb.block _ (Array.getElem?_eq_some_iff.1 h.def').1).trans h.def', h.none'⟩

/-- A round has left by a return: the three results (from block rb on) hold the pair. -/
structure EX (w6 : World) (r : LoopState → Option Code → Loop) (H : Nat → Bool) (n : Nat) (al : List Nat) (rb : Nat) (W : World) : Prop where
  lrec : W.heap[w6.heap.size + 1]? = some (.loop (r .done (some .ret)))
  def' : W.heap[w6.heap.size]? = some (.deferred (some []))
  pair : ∃ a ga xa gb xb, al.find? (fun a => H (sub (full n) a)) = some a ∧ Word W ga a ∧ Word W gb (greedy H n (sub (full n) a)) ∧
    W.heap[rb]? = some (.cells #[.int .i64 n, .slice (some ⟨ga, 0, none⟩) 1 xa] 36 (0, 0)) ∧ W.heap[rb + 1]? = some (.cells #[.int .i64 n, .slice (some ⟨gb, 0, none⟩) 1 xb] 36 (0, 0)) ∧ W.heap[rb + 1 + 1]? = some (.cells #[.bool true] 4 (0, 0))
  os : W.os = w6.os
  tape : W.tape = w6.tape
  output : W.output = w6.output
  size : w6.heap.size ≤ W.heap.size
  block : ∀ k, k < w6.heap.size → k ≠ rb → k ≠ rb + 1 → k ≠ rb + 1 + 1 → W.heap[k]? = w6.heap[k]?

theorem two_other {V : World} {b k : Nat} {u v : Value} (h : k ≠ b) : ((V.setCell ⟨b, 0, none⟩ u).setCell ⟨b, 1, none⟩ v).heap[k]? = V.heap[k]? := (heap_setCell_other _ _ _ h).trans (heap_setCell_other _ _ _ h)
theorem one_cell {w : World} {g t : Nat} {v0 x : Value} (h : w.heap[g]? = some (.cells #[x] t (0, 0))) : (w.setCell ⟨g, 0, none⟩ v0).heap[g]? = some (.cells #[v0] t (0, 0)) := by
  simp [World.setCell, Array.getElem?_modify, h]
theorem Word.cells {w : World} {b q k : Nat} {l : Loop} (h : Word w b q) (hl : w.heap[k]? = some (.loop l)) : b ≠ k := by
  intro e
  subst e
  obtain ⟨cs, e1, _⟩ := h
  rw [hl] at e1
  cases e1

/-- Y is X but for block b. -/
structure Only (b : Nat) (X Y : World) : Prop where
  block : ∀ k, k ≠ b → Y.heap[k]? = X.heap[k]?
  os : Y.os = X.os
  tape : Y.tape = X.tape
  output : Y.output = X.output
  size : Y.heap.size = X.heap.size
theorem only_two (V : World) (b : Nat) (u v : Value) : Only b V ((V.setCell ⟨b, 0, none⟩ u).setCell ⟨b, 1, none⟩ v) := ⟨fun _ h => two_other h, rfl, rfl, rfl, by simp⟩
theorem only_one (V : World) (b : Nat) (u : Value) : Only b V (V.setCell ⟨b, 0, none⟩ u) := ⟨fun _ h => heap_setCell_other _ _ _ h, rfl, rfl, rfl, by simp⟩
theorem Only.drew {b : Nat} {X Y : World} (h : Only b X Y) : Only b X Y.drew := ⟨h.block, h.os, h.tape, h.output, h.size⟩
theorem Only.keeps {b k : Nat} {X Y : World} {o : Obj} (h : Only b X Y) (hk : k ≠ b) (ho : X.heap[k]? = some o) : Y.heap[k]? = some o := (h.block k hk).trans ho
theorem Only.word {b g q : Nat} {X Y : World} (h : Only b X Y) (hk : g ≠ b) (ho : Word X g q) : Word Y g q := by
  obtain ⟨cs, e1, e2⟩ := ho
  exact ⟨cs, (h.block g hk).trans e1, e2⟩
theorem Word.put {w : World} {b q k : Nat} {o : Obj} (h : Word w b q) (hne : b ≠ k) : Word (w.putObj k o) b q := by
  obtain ⟨cs, e1, e2⟩ := h
  exact ⟨cs, (World.putObj_heap_other hne).trans e1, e2⟩

theorem EX.of {w6 X : World} {r : LoopState → Option Code → Loop} {H : Nat → Bool} {n : Nat} {al : List Nat} {rb a gq gb xa xb : Nat} (hrb : rb + 1 + 1 < w6.heap.size) (hl : X.heap[w6.heap.size + 1]? = some (.loop (r .busy none)))
    (hd : X.heap[w6.heap.size]? = some (.deferred (some []))) (hA : Word X gq a) (hG : Word X gb (greedy H n (sub (full n) a)))
    (h2 : X.heap[rb]? = some (.cells #[.int .i64 n, .slice (some ⟨gq, 0, none⟩) 1 xa] 36 (0, 0))) (h3 : X.heap[rb + 1]? = some (.cells #[.int .i64 n, .slice (some ⟨gb, 0, none⟩) 1 xb] 36 (0, 0))) (h4 : X.heap[rb + 1 + 1]? = some (.cells #[.bool true] 4 (0, 0)))
    (hf : al.find? (fun a => H (sub (full n) a)) = some a) (hos : X.os = w6.os) (htp : X.tape = w6.tape) (hou : X.output = w6.output) (hsz : w6.heap.size ≤ X.heap.size)
    (ho : ∀ k, k < w6.heap.size → k ≠ rb → k ≠ rb + 1 → k ≠ rb + 1 + 1 → X.heap[k]? = w6.heap[k]?) :
    EX w6 r H n al rb (X.putObj (w6.heap.size + 1) (.loop (r .done (some .ret)))) where
  lrec := World.putObj_heap_same (Array.getElem?_eq_some_iff.1 hl).1
  def' := (World.putObj_heap_other (by omega)).trans hd
  pair := ⟨a, gq, xa, gb, xb, hf, hA.put (hA.cells hl), hG.put (hG.cells hl), (World.putObj_heap_other (by omega)).trans h2, (World.putObj_heap_other (by omega)).trans h3, (World.putObj_heap_other (by omega)).trans h4⟩
  os := hos
  tape := htp
  output := hou
  size := by simpa [World.putObj] using hsz
  block := fun k hk e0 e1 e2 => (World.putObj_heap_other (by omega)).trans (ho k hk e0 e1 e2)

theorem find_at {al : List Nat} {f : Nat → Bool} {k : Nat} (hk : k < al.length) (h0 : ∀ j, (hj : j < al.length) → j < k → f al[j] = false) (h1 : f al[k] = true) : al.find? f = some al[k] := by
  rw [List.find?_eq_some_iff_getElem]
  exact ⟨h1, k, hk, rfl, fun j hj => by simpa using h0 j (by omega) hj⟩
theorem find_none {al : List Nat} {f : Nat → Bool} (h0 : ∀ j, (hj : j < al.length) → f al[j] = false) : al.find? f = none := by
  rw [List.find?_eq_none]
  intro x hx
  obtain ⟨j, hj, rfl⟩ := List.getElem_of_mem hx
  simp [h0 j hj]

/-- Behind the loop: what was noted stands. -/
theorem noted_fin {sb n la lb : Nat} {aa ba : Option Addr} {ca cb : Nat} {w w6 X : World} (lsb : sb < w.heap.size)
    (hN : ∃ g cap, w.heap.size + 5 ≤ g ∧ w6.heap[sb]? = some (.cells #[.int .i64 n, .slice aa la ca, .slice ba lb cb, .slice (some ⟨g, 0, none⟩) 1 cap] 31 (0, 0)) ∧ w6.cell? ⟨g, 0, none⟩ = some (.int .i64 0))
    (hk : (∀ k, k < w.heap.size → k ≠ sb → w6.heap[k]? = w.heap[k]?) ∧ w6.os = w.os ∧ w6.tape = w.tape ∧ w6.output = w.output ∧ w.heap.size + 5 ≤ w6.heap.size)
    (ho : ∀ k, k < w6.heap.size → k ≠ w.heap.size + 1 + 1 → k ≠ w.heap.size + 1 + 1 + 1 → k ≠ w.heap.size + 1 + 1 + 1 + 1 → X.heap[k]? = w6.heap[k]?)
    (hos : X.os = w6.os) (htp : X.tape = w6.tape) (hou : X.output = w6.output) (hsz : w6.heap.size ≤ X.heap.size) : Noted sb n la lb aa ba ca cb w X := by
  obtain ⟨g, cap, hg, h1, h2⟩ := hN
  have lg := World.block_lt_of_cell? w6 _ h2
  refine ⟨⟨g, cap, by omega, (ho sb (by omega) (by omega) (by omega) (by omega)).trans h1, (World.cell?_of_block (ho g lg (by omega) (by omega) (by omega))).trans h2⟩, hos.trans hk.2.1, htp.trans hk.2.2.1, hou.trans hk.2.2.2.1, by omega, fun k hkk hne => (ho k (by omega) (by omega) (by omega) (by omega)).trans (hk.1 k hkk hne)⟩

theorem results_three {tmps : Array Value} {w : World} {b0 b1 b2 : Nat} {v0 v1 u0 u1 : Value} {x : Bool} (h0 : tmps.getD 4 undef = .pointer (some ⟨b0, 0, none⟩)) (h1 : tmps.getD 5 undef = .pointer (some ⟨b1, 0, none⟩)) (h2 : tmps.getD 6 undef = .pointer (some ⟨b2, 0, none⟩))
    (g0 : w.heap[b0]? = some (.cells #[v0, v1] 36 (0, 0))) (g1 : w.heap[b1]? = some (.cells #[u0, u1] 36 (0, 0))) (g2 : w.cell? ⟨b2, 0, none⟩ = some (.bool x)) :
    (results Ybaf.f6 tmps).run Ybaf.prog w = .ok (.tuple #[.agg #[v0, v1], .agg #[u0, u1], .bool x]) w := by
  have h0' : tmps[4]?.getD undef = .pointer (some ⟨b0, 0, none⟩) := by simpa using h0
  have h1' : tmps[5]?.getD undef = .pointer (some ⟨b1, 0, none⟩) := by simpa using h1
  have h2' : tmps[6]?.getD undef = .pointer (some ⟨b2, 0, none⟩) := by simpa using h2
  have a0 : w.cell? ⟨b0, 0, none⟩ = some v0 := (Lib.cell_of_heap g0 0).trans rfl
  have a1 : w.cell? ⟨b0, 1, none⟩ = some v1 := (Lib.cell_of_heap g0 1).trans rfl
  have a2 : w.cell? ⟨b1, 0, none⟩ = some u0 := (Lib.cell_of_heap g1 0).trans rfl
  have a3 : w.cell? ⟨b1, 1, none⟩ = some u1 := (Lib.cell_of_heap g1 1).trans rfl
  simp [results, Ybaf.results6, h0', h1', h2', asAddr, go_sem, g2, a0, a1, a2, a3]

theorem Row.noted {w w' : World} {a : Option Addr} {xs : List Nat} {sb n : Nat} {p1 p2 p3 : Option Addr} {l1 l2 l3 c1 c2 c3 : Nat} (h : Row w a xs) (hsb : w.heap[sb]? = some (.cells #[.int .i64 n, .slice p1 l1 c1, .slice p2 l2 c2, .slice p3 l3 c3] 31 (0, 0)))
    (hk : ∀ k, k < w.heap.size → k ≠ sb → w'.heap[k]? = w.heap[k]?) : Row w' a xs := by
  by_cases hx : xs = []
  · exact Or.inl hx
  obtain ⟨b, o, rfl, hc⟩ := h.resolve_left hx
  have hl : 0 < xs.length := List.length_pos_iff.2 hx
  have hne : b ≠ sb := by
    intro e
    subst e
    have h0 := hc 0 hl
    rw [Lib.cell_of_heap hsb] at h0
    match o, h0 with
    | 0, h0 => simp at h0
    | 1, h0 => simp at h0
    | 2, h0 => simp at h0
    | 3, h0 => simp at h0
    | o + 4, h0 => simp at h0
  exact Or.inr ⟨b, o, rfl, fun j hj => (World.cell?_of_block (hk b (World.block_lt_of_cell? w _ (hc j hj)) hne)).trans (hc j hj)⟩

/-- The operations of enumerateDisjoint's region 3 that are looked at one by one. -/
def ro0 (s : String) : Oper := { dst := some 16, op := .load 44 (.tmp 2), type := 44, pos := s, after := #[], guard := none }
def ro1 (s : String) : Oper := { dst := some 17, op := .fieldAddr 34 (.tmp 3) 1, type := 0, pos := s, after := #[], guard := none }
def ro2 (s : String) : Oper := { dst := some 18, op := .load 32 (.tmp 17), type := 32, pos := s, after := #[{ on := 1, ground := .data }], guard := none }
def ro3 (s : String) : Oper := { dst := some 19, op := .load 36 (.tmp 7), type := 36, pos := s, after := #[], guard := none }
def ro4 (s : String) : Oper := { dst := some 20, op := .call { callee := .value (.func 10), args := #[.tmp 19], argTypes := #[36] }, type := 36, pos := s, after := #[{ on := 3, ground := .data }], guard := none }
def ro5 (s : String) : Oper := { dst := some 21, op := .call { callee := .value (.func 9), args := #[.tmp 16, .tmp 18, .tmp 20], argTypes := #[44, 32, 36] }, type := 48, pos := s, after := #[{ on := 0, ground := .data }, { on := 2, ground := .data }, { on := 4, ground := .data }, { on := 4, ground := .chain }], guard := none }
def ro6 (s : String) : Oper := { dst := some 15, op := .move (.tmp 21), type := 48, pos := s, after := #[{ on := 5, ground := .data }], guard := none }
def ro7 (s : String) : Oper := { dst := some 22, op := .extract (.tmp 15) 0, type := 36, pos := s, after := #[{ on := 6, ground := .data }], guard := none }
def ro8 (s : String) : Oper := { dst := some 23, op := .extract (.tmp 15) 1, type := 4, pos := s, after := #[{ on := 6, ground := .data }, { on := 10, ground := .gcOnly .lateStores }], guard := none }
def ro9 (s : String) : Oper := { dst := some 8, op := .alloc 36, type := 0, pos := s, after := #[], guard := none }
def ro10 (s : String) : Oper := { dst := none, op := .store 36 (.tmp 8) (.tmp 22), type := 0, pos := s, after := #[{ on := 9, ground := .data }, { on := 7, ground := .data }, { on := 5, ground := .chain }, { on := 0, ground := .phase }, { on := 1, ground := .phase }, { on := 2, ground := .phase }, { on := 3, ground := .phase }, { on := 4, ground := .phase }, { on := 5, ground := .phase }, { on := 6, ground := .phase }, { on := 7, ground := .phase }, { on := 8, ground := .textOnly .lateStores }, { on := 9, ground := .phase }], guard := none }
def ro11 (s : String) : Oper := { dst := some 9, op := .assign (.tmp 23), type := 4, pos := s, after := #[{ on := 8, ground := .data }, { on := 10, ground := .chain }, { on := 0, ground := .phase }, { on := 1, ground := .phase }, { on := 2, ground := .phase }, { on := 3, ground := .phase }, { on := 4, ground := .phase }, { on := 5, ground := .phase }, { on := 6, ground := .phase }, { on := 7, ground := .phase }, { on := 8, ground := .phase }, { on := 9, ground := .phase }, { on := 10, ground := .phase }], guard := none }

def rp0 (s : String) : Oper := { dst := some 25, op := .load 36 (.tmp 7), type := 36, pos := s, after := #[], guard := none }
def rp1 (s : String) : Oper := { dst := some 26, op := .load 36 (.tmp 8), type := 36, pos := s, after := #[{ on := 2, ground := .gcOnly .lateStores }], guard := none }
def rp2 (s : String) : Oper := { dst := none, op := .store 36 (.tmp 4) (.tmp 25), type := 0, pos := s, after := #[{ on := 0, ground := .data }, { on := 0, ground := .phase }, { on := 1, ground := .textOnly .lateStores }], guard := none }
def rp3 (s : String) : Oper := { dst := none, op := .store 36 (.tmp 5) (.tmp 26), type := 0, pos := s, after := #[{ on := 1, ground := .data }, { on := 2, ground := .chain }, { on := 0, ground := .phase }, { on := 1, ground := .phase }, { on := 2, ground := .phase }], guard := none }
def rp4 (s : String) : Oper := { dst := none, op := .store 4 (.tmp 6) (.const (.bool true)), type := 0, pos := s, after := #[{ on := 3, ground := .chain }, { on := 0, ground := .phase }, { on := 1, ground := .phase }, { on := 2, ground := .phase }, { on := 3, ground := .phase }], guard := none }

set_option maxRecDepth 100000 in
set_option maxHeartbeats 2000000 in
theorem enum_any (sb n : Nat) (al bl : List Nat) (hL : Lists al bl) (op : Bool) (aa ba : Option Addr) (ca cb : Nat) (h1 : 1 ≤ n) (h2 : n ≤ 8) (w : World)
    (hsb : w.heap[sb]? = some (.cells #[.int .i64 n, .slice aa al.length ca, .slice ba bl.length cb, .slice none 0 0] 31 (0, 0))) (hra : Row w aa al) (hrb : Row w ba bl) :
    Calls Ybaf.prog 6 #[stV sb, .agg #[.int .i64 0, .int .i64 (if op then 1 else 0)]] w fun e w' => Noted sb n al.length bl.length aa ba ca cb w w' ∧
      ((al.find? (fun a => hq (pick op al bl) (sub (full n) a)) = none ∧ e = .returned (.tuple #[.agg #[.int .i64 0, .slice none 0 0], .agg #[.int .i64 0, .slice none 0 0], .bool false])) ∨
       (∃ a ga xa gb xb, al.find? (fun a => hq (pick op al bl) (sub (full n) a)) = some a ∧ e = .returned (.tuple #[setV n ga xa, setV n gb xb, .bool true]) ∧ Word w' ga a ∧ Word w' gb (greedy (hq (pick op al bl)) n (sub (full n) a)))) := by
  have mq := m_quorums
  have HF : Hid (∀ (b c q : Nat) (w' : World), q < 2 ^ 64 → St sb n al bl w' → Word w' b q → Calls Ybaf.prog 9 #[stV sb, .int .i64 (if op then 1 else 0), setV n b c] w' (Formed n (hq (pick op al bl)) q w')) := fun b c q w' h64 hS hW => form_any sb n al bl hL op b c q h64 w' hS hW
  have HA : Hid (∀ m ∈ al, m < 2 ^ 64) := hL.ma
  have hla : al.length ≤ 300 := hL.la
  have HSB : Hid (w.heap[sb]? = some (.cells #[.int .i64 n, .slice aa al.length ca, .slice ba bl.length cb, .slice none 0 0] 31 (0, 0))) := hsb
  have HRA : Hid (Row w aa al) := hra
  have HRB : Hid (Row w ba bl) := hrb
  have lsb : sb < w.heap.size := (Array.getElem?_eq_some_iff.1 hsb).1
  clear hL hsb hra hrb
  generalize hq (pick op al bl) = H at *
  generalize (if op = true then (1 : Int) else 0) = oi at *
  refine (callsIn_wide (n := 4)).1 ?_
  refine callsIn_of_wp_marks Ybaf.func6 rfl trivial ?_ rfl
  simp only [Ybaf.ntmps6, List.size_toArray, List.length_cons, List.length_nil, Nat.reduceAdd, Nat.reduceSub, Array.replicate_succ, Array.replicate_zero, List.push_toArray, List.append_toArray, List.nil_append, List.cons_append]
  unfold stV at *
  gi_wp2
  refine ⟨trivial, ?_⟩
  obtain ⟨a0, a1, a2, a3, a4, a5⟩ := heap_alloc5 w (.cells #[.iface 27 (.pointer (some ⟨sb, 0, none⟩))] 44) (.cells #[.int .i64 0, .int .i64 oi] 34) (.cells #[.int .i64 0, .slice none 0 0] 36) (.cells #[.int .i64 0, .slice none 0 0] 36) (.cells #[.bool false] 4)
  have B5 := (((((Below.refl w.heap.size w).alloc (Nat.le_refl _) (.cells #[.iface 27 (.pointer (some ⟨sb, 0, none⟩))] 44)).alloc (by simp) (.cells #[.int .i64 0, .int .i64 oi] 34)).alloc (by simp; omega) (.cells #[.int .i64 0, .slice none 0 0] 36)).alloc (by simp; omega) (.cells #[.int .i64 0, .slice none 0 0] 36)).alloc (by simp; omega) (.cells #[.bool false] 4)
  generalize ((((w.alloc (.cells #[.iface 27 (.pointer (some ⟨sb, 0, none⟩))] 44)).alloc (.cells #[.int .i64 0, .int .i64 oi] 34)).alloc (.cells #[.int .i64 0, .slice none 0 0] 36)).alloc (.cells #[.int .i64 0, .slice none 0 0] 36)).alloc (.cells #[.bool false] 4) = w5 at *
  refine (callsIn_wide.2 (quorums_any sb n al.length bl.length aa ba ca cb w5 ((B5.block sb lsb).trans HSB.out))).mono ?_
  rintro e w6 ⟨ib, nb, g, cap, rfl, q1, q2, q3, q4, q5, q6, q7, q8, q9, q10, q11, q12⟩
  have hsz : w.heap.size + 5 ≤ w6.heap.size := by omega
  have HB0 : Hid (w6.heap[w.heap.size]? = some (.cells #[.iface 27 (.pointer (some ⟨sb, 0, none⟩))] 44 (0, 0))) := (q12 _ (by omega) (by omega)).trans a0
  have HB1 : Hid (w6.heap[w.heap.size + 1]? = some (.cells #[.int .i64 0, .int .i64 oi] 34 (0, 0))) := (q12 _ (by omega) (by omega)).trans a1
  have HB2 : Hid (w6.heap[w.heap.size + 1 + 1]? = some (.cells #[.int .i64 0, .slice none 0 0] 36 (0, 0))) := (q12 _ (by omega) (by omega)).trans a2
  have HB3 : Hid (w6.heap[w.heap.size + 1 + 1 + 1]? = some (.cells #[.int .i64 0, .slice none 0 0] 36 (0, 0))) := (q12 _ (by omega) (by omega)).trans a3
  have HB4 : Hid (w6.heap[w.heap.size + 1 + 1 + 1 + 1]? = some (.cells #[.bool false] 4 (0, 0))) := (q12 _ (by omega) (by omega)).trans a4
  have HKEEP : Hid (∀ k, k < w.heap.size → k ≠ sb → w6.heap[k]? = w.heap[k]?) := fun k hk hne => (q12 k (by omega) hne).trans (B5.block k hk)
  have HN6 : Hid (∃ g cap, w.heap.size + 5 ≤ g ∧ w6.heap[sb]? = some (.cells #[.int .i64 n, .slice aa al.length ca, .slice ba bl.length cb, .slice (some ⟨g, 0, none⟩) 1 cap] 31 (0, 0)) ∧ w6.cell? ⟨g, 0, none⟩ = some (.int .i64 0)) := ⟨g, cap, by omega, q6, q7⟩
  have HK6 : Hid ((∀ k, k < w.heap.size → k ≠ sb → w6.heap[k]? = w.heap[k]?) ∧ w6.os = w.os ∧ w6.tape = w.tape ∧ w6.output = w.output ∧ w.heap.size + 5 ≤ w6.heap.size) := ⟨HKEEP.out, q8.trans B5.os, q9.trans B5.tape, q10.trans B5.output, by omega⟩
  have HROW : Hid (Row w6 aa al) := HRA.out.noted HSB.out HKEEP.out
  have HST : Hid (St sb n al bl w6) := ⟨h1, h2, aa, ca, ba, cb, _, q6, HROW.out, HRB.out.noted HSB.out HKEEP.out⟩
  have HNB : Hid (w6.cell? ⟨nb, 0, none⟩ = some (.int .i64 n)) := (Lib.cell_of_heap q2 0).trans rfl
  have HIB : Hid (w6.cell? ⟨ib, 0, none⟩ = some (.slice aa al.length ca)) := (Lib.cell_of_heap q1 0).trans rfl
  have lnb : nb < w6.heap.size := (Array.getElem?_eq_some_iff.1 q2).1
  clear q1 q2 q3 q4 q5 q6 q7 q8 q9 q10 q11 q12 a0 a1 a2 a3 a4 a5 B5 HSB HRA HRB HKEEP
  gi_wp2
  refine range_own (gf := 39) (lb := #[.pointer (some ⟨ib, 0, none⟩), .pointer (some ⟨nb, 0, none⟩)]) rfl (enters_of Ybaf.func39 (by kernel_rfl) rfl) ?_
  intro fn r hr
  have HRC : Hid (r = rcd fn _ _ _ _ w6.heap.size) := hr
  refine (iter_any 3 (w6.heap.size + 1) n ib nb w6.heap.size h1 h2 aa ca al hla (EJ w6 r H n al) (EX w6 r H n al (w.heap.size + 1 + 1)) ?hJ ?hK ?hY _ ?hib ?h0).mono ?fin
  case hJ => exact fun k W W' h hb => h.keep hb
  case hK => exact fun k W h => ⟨(h.bel.cell (p := ⟨nb, 0, none⟩) lnb).trans HNB.out, HROW.out.below h.bel (Nat.le_refl _), h.bel.size⟩
  case hib => exact Lib.cell?_alloc_some _ (Lib.cell?_alloc_some _ HIB.out)
  case h0 =>
    refine ⟨((Below.refl _ w6).alloc (Nat.le_refl _) _).alloc (by simp) _, heap_alloc2_new w6 _ _, heap_alloc2_fst w6 _ _, fun j hj h => by omega⟩
  case hY =>
    intro k W gq hk hJ hgq hWq
    have HJ : Hid (EJ w6 r H n al k W) := hJ
    have HW : Hid (Word W gq al[k]) := hWq
    have h64 : al[k] < 2 ^ 64 := HA.out _ (List.getElem_mem _)
    refine round_own HRC.out hJ.lrec rfl ?_
    clear hJ hWq hr
    unfold setV at HF ⊢
    gi_wp2
    have hlt : w6.heap.size + 1 < W.heap.size := (Array.getElem?_eq_some_iff.1 HJ.out.lrec).1
    refine ⟨(heap_alloc_old _ _ hlt).trans HJ.out.lrec, ?_⟩
    obtain ⟨Wa, hWa⟩ : ∃ Wa, Wa = W.alloc (.cells #[.int .i64 n, .slice (some ⟨gq, 0, none⟩) 1 1] 36) := ⟨_, rfl⟩
    have hsa : Wa.heap.size = W.heap.size + 1 := by rw [hWa]; simp
    have hJa : EJ w6 r H n al k Wa := by rw [hWa]; exact HJ.out.keep ((Below.refl _ W).alloc (Nat.le_refl _) _)
    have hTa : Wa.heap[W.heap.size]? = some (.cells #[.int .i64 n, .slice (some ⟨gq, 0, none⟩) 1 1] 36 (0, 0)) := by rw [hWa]; exact heap_alloc_new W _
    have hWda : Word Wa gq al[k] := by rw [hWa]; exact HW.out.alloc _
    rw [← hWa]
    clear hWa
    obtain ⟨Wb, hWb⟩ : ∃ Wb, Wb = Wa.putObj (w6.heap.size + 1) (.loop (r .busy none)) := ⟨_, rfl⟩
    have hsb' : W.heap.size + 1 ≤ Wb.heap.size := by rw [hWb, ← hsa]; simp [World.putObj]
    have hgl : gq ≠ w6.heap.size + 1 := by
      intro e
      obtain ⟨cs, e1, _⟩ := hWda
      rw [e, hJa.lrec] at e1
      cases e1
    have HLB : Hid (Wb.heap[w6.heap.size + 1]? = some (.loop (r .busy none))) := by rw [hWb]; exact World.putObj_heap_same (by omega)
    have HDB : Hid (Wb.heap[w6.heap.size]? = some (.deferred (some []))) := by rw [hWb]; exact (World.putObj_heap_other (by omega)).trans hJa.def'
    have HTB : Hid (Wb.heap[W.heap.size]? = some (.cells #[.int .i64 n, .slice (some ⟨gq, 0, none⟩) 1 1] 36 (0, 0))) := by rw [hWb]; exact (World.putObj_heap_other (by omega)).trans hTa
    have HWB : Hid (Word Wb gq al[k]) := by
      obtain ⟨cs, e1, e2⟩ := hWda
      rw [hWb]
      exact ⟨cs, (World.putObj_heap_other hgl).trans e1, e2⟩
    have HEB : Hid (Below w6.heap.size w6 Wb) := by
      rw [hWb]
      exact hJa.bel.trans (belowK_b (w := w6) (Nat.le_refl _) Wa _ _ _ (by omega) hJa.lrec rfl rfl)
    rw [← hWb]
    clear hWb hJa hTa hWda
    obtain ⟨a, ha⟩ : ∃ a, a = al[k] := ⟨_, rfl⟩
    obtain ⟨ok, hok⟩ : ∃ ok, ok = H (sub (full n) a) := ⟨_, rfl⟩
    rw [← ha] at HWB h64
    have HAK : Hid (a = al[k]) := ha
    have HOK : Hid (ok = H (sub (full n) a)) := hok
    clear ha hsa
    have hfs : sub (full n) a < 2 ^ 64 := Nat.lt_of_le_of_lt (sub_le _ _) (full_lt n h2)
    have HC10 : Hid (∀ V, Below Wb.heap.size Wb V → Calls Ybaf.prog 10 #[.agg #[.int .i64 n, .slice (some ⟨gq, 0, none⟩) 1 1]] V fun e V' => (∃ g c', e = .returned (.agg #[.int .i64 n, .slice (some ⟨g, 0, none⟩) 1 c']) ∧ V.heap.size ≤ g ∧ Word V' g (sub (full n) a)) ∧ Below V.heap.size V V') :=
      fun V hb => compl_any n gq 1 a h1 h2 h64 V (HWB.out.below hb HWB.out.lt)
    have HC9 : Hid (∀ V g c', Below Wb.heap.size Wb V → Word V g (sub (full n) a) → Calls Ybaf.prog 9 #[.iface 27 (.pointer (some ⟨sb, 0, none⟩)), .int .i64 oi, .agg #[.int .i64 n, .slice (some ⟨g, 0, none⟩) 1 c']] V fun e V' => Below V.heap.size V V' ∧ ∃ (z : Int) (pa : Option Addr) (ln cp : Nat), e = .returned (.tuple #[.agg #[.int .i64 z, .slice pa ln cp], .bool ok]) ∧
        (ok = true → ∃ gb, z = n ∧ pa = some ⟨gb, 0, none⟩ ∧ ln = 1 ∧ V.heap.size ≤ gb ∧ Word V' gb (greedy H n (sub (full n) a)))) := by
      intro V g c' hb hw
      refine (HF.out g c' _ V hfs (HST.out.below (HEB.out.trans (hb.mono HEB.out.size)) (Nat.le_refl _)) hw).mono ?_
      rintro e V' ⟨hb2, h⟩
      rcases h with ⟨hh, rfl⟩ | ⟨hh, gb, xb, rfl, hgb, hwb⟩
      · rw [← hok] at hh; subst hh
        exact ⟨hb2, _, _, _, _, rfl, fun e => by cases e⟩
      · rw [← hok] at hh; subst hh
        exact ⟨hb2, _, _, _, _, rfl, fun _ => ⟨gb, rfl, rfl, rfl, hgb, hwb⟩⟩
    have HK0 : Hid (∀ V, Below Wb.heap.size Wb V → V.cell? ⟨w.heap.size, 0, none⟩ = some (.iface 27 (.pointer (some ⟨sb, 0, none⟩))) ∧ V.cell? ⟨w.heap.size + 1, 1, none⟩ = some (.int .i64 oi) ∧ V.cell? ⟨W.heap.size, 0, none⟩ = some (.int .i64 n) ∧ V.cell? ⟨W.heap.size, 1, none⟩ = some (.slice (some ⟨gq, 0, none⟩) 1 1)) := fun V hb =>
      ⟨(hb.cell (p := ⟨w.heap.size, 0, none⟩) (by have := HEB.out.size; simp only; omega)).trans ((HEB.out.cell (p := ⟨w.heap.size, 0, none⟩) (by simp only; omega)).trans ((Lib.cell_of_heap HB0.out 0).trans rfl)),
       (hb.cell (p := ⟨w.heap.size + 1, 1, none⟩) (by have := HEB.out.size; simp only; omega)).trans ((HEB.out.cell (p := ⟨w.heap.size + 1, 1, none⟩) (by simp only; omega)).trans ((Lib.cell_of_heap HB1.out 1).trans rfl)),
       (hb.cell (p := ⟨W.heap.size, 0, none⟩) (by simp only; omega)).trans ((Lib.cell_of_heap HTB.out 0).trans rfl),
       (hb.cell (p := ⟨W.heap.size, 1, none⟩) (by simp only; omega)).trans ((Lib.cell_of_heap HTB.out 1).trans rfl)⟩
    clear hok
    gi_wp2
    refine wpIn_mono (Q := fun e a' w' => e = .normal ∧ ∃ (bt : Nat) (z : Int) (pa : Option Addr) (ln cp : Nat) (u15 u16 u17 u18 u19 u20 u21 u22 u23 : Value), a' = { tmps := #[.iface 27 (.pointer (some ⟨sb, 0, none⟩)), .agg #[.int .i64 0, .int .i64 oi], .pointer (some ⟨w.heap.size, 0, none⟩), .pointer (some ⟨w.heap.size + 1, 0, none⟩), .pointer (some ⟨w.heap.size + 1 + 1, 0, none⟩), .pointer (some ⟨w.heap.size + 1 + 1 + 1, 0, none⟩), .pointer (some ⟨w.heap.size + 1 + 1 + 1 + 1, 0, none⟩), .pointer (some ⟨W.heap.size, 0, none⟩), .pointer (some ⟨bt, 0, none⟩), .bool ok, .iface 27 (.pointer (some ⟨sb, 0, none⟩)), .pointer (some ⟨w.heap.size + 1, 0, none⟩), .int .i64 0, .func (.func 39) #[] #[.pointer (some ⟨ib, 0, none⟩), .pointer (some ⟨nb, 0, none⟩)], .agg #[.int .i64 n, .slice (some ⟨gq, 0, none⟩) 1 1], u15, u16, u17, u18, u19, u20, u21, u22, u23, undef, undef, undef, undef, undef], defers := [] } ∧
      Hid (Below Wb.heap.size Wb w' ∧ Wb.heap.size ≤ bt ∧ w'.heap[bt]? = some (.cells #[.int .i64 z, .slice pa ln cp] 36 (0, 0)) ∧ (ok = true → ∃ gb, z = n ∧ pa = some ⟨gb, 0, none⟩ ∧ ln = 1 ∧ gb ≠ bt ∧ Wb.heap.size ≤ gb ∧ Word w' gb (greedy H n (sub (full n) a))))) (region_round (fun V => Below Wb.heap.size Wb V) (by kernel_rfl) (by rfl) (by rintro ⟨a, w, h⟩; cases h.1) ?reg) ?rest
    case reg =>
      have hS0 : Below Wb.heap.size Wb Wb.drew := below_drew (Below.refl _ _)
      refine wpAnyH_take (i := 0) (oi := ro0 _) (v := .iface 27 (.pointer (some ⟨sb, 0, none⟩))) rfl (by kernel_rfl) (by kernel_rfl) (by kernel_rfl) (fun _ _ _ h => by cases h.1) (Or.inl ⟨by rfl, ?_⟩) hS0 ?_
      · intro V hV
        obtain ⟨k0, k1, k2, k3⟩ := HK0.out V hV
        unfold ro0
        go_simp
      refine wpAnyH_take (i := 1) (oi := ro1 _) (v := .pointer (some ⟨w.heap.size + 1, 1, none⟩)) rfl (by kernel_rfl) (by kernel_rfl) (by kernel_rfl) (fun _ _ _ h => by cases h.1) (Or.inl ⟨by rfl, ?_⟩) hS0 ?_
      · intro V hV
        unfold ro1 ro0
        go_simp
      refine wpAnyH_take (i := 2) (oi := ro2 _) (v := .int .i64 oi) rfl (by kernel_rfl) (by kernel_rfl) (by kernel_rfl) (fun _ _ _ h => by cases h.1) (Or.inl ⟨by rfl, ?_⟩) hS0 ?_
      · intro V hV
        obtain ⟨k0, k1, k2, k3⟩ := HK0.out V hV
        unfold ro2 ro1 ro0
        go_simp
      refine wpAnyH_take (i := 3) (oi := ro3 _) (v := .agg #[.int .i64 n, .slice (some ⟨gq, 0, none⟩) 1 1]) rfl (by kernel_rfl) (by kernel_rfl) (by kernel_rfl) (fun _ _ _ h => by cases h.1) (Or.inl ⟨by rfl, ?_⟩) hS0 ?_
      · intro V hV
        obtain ⟨k0, k1, k2, k3⟩ := HK0.out V hV
        unfold ro3 ro2 ro1 ro0
        go_simp
      simp only [ro0, ro1, ro2, ro3, Act.put, List.setIfInBounds_toArray, List.set_cons_zero, List.set_cons_succ]
      refine wpAnyH_ready (rs := [4, 9]) (by kernel_rfl) (by simp) (AllReadyH.cons (o := ro4 _) rfl (fun K hK => ?c4) (AllReadyH.cons (o := ro9 _) rfl (fun K hK => ?c9) AllReadyH.nil))
      case c4 =>
        unfold ro4
        go_simp
        refine (HC10.out _ hS0).mono ?_
        rintro e V1 ⟨⟨g, c', rfl, hg, hw⟩, hb⟩
        have hS1 : Below Wb.heap.size Wb V1 := hS0.trans hb
        have HW1 : Hid (Word V1 g (sub (full n) a)) := hw
        refine hK.out _ _ hS1 (fun _ => ?_)
        clear hK K hw hb
        refine wpAnyH_ready (rs := [5, 9]) (by kernel_rfl) (by simp) (AllReadyH.cons (o := ro5 _) rfl (fun K hK => ?d5) (AllReadyH.cons (o := ro9 _) rfl (fun K hK => ?d9) AllReadyH.nil))
        case d5 =>
          unfold ro5
          go_simp
          refine (HC9.out _ _ _ hS1 HW1.out).mono ?_
          rintro e V2 ⟨hb2, z, pa, ln, cp, rfl, hv⟩
          have hS2 : Below Wb.heap.size Wb V2 := hS1.trans (hb2.mono hS1.size)
          refine hK.out _ _ hS2 (fun _ => ?_)
          clear hK K
          refine wpAnyH_take (i := 6) (oi := ro6 _) (v := .tuple #[.agg #[.int .i64 z, .slice pa ln cp], .bool ok]) rfl (by kernel_rfl) (by kernel_rfl) (by kernel_rfl) (fun _ _ _ h => by cases h.1) (Or.inl ⟨by rfl, ?_⟩) hS2 ?_
          · intro V hV; unfold ro6; go_simp
          refine wpAnyH_take (i := 7) (oi := ro7 _) (v := .agg #[.int .i64 z, .slice pa ln cp]) rfl (by kernel_rfl) (by kernel_rfl) (by kernel_rfl) (fun _ _ _ h => by cases h.1) (Or.inl ⟨by rfl, ?_⟩) hS2 ?_
          · intro V hV; unfold ro7 ro6; go_simp
          refine wpAnyH_take (i := 8) (oi := ro8 _) (v := .bool ok) rfl (by kernel_rfl) (by kernel_rfl) (by kernel_rfl) (fun _ _ _ h => by cases h.1) (Or.inl ⟨by rfl, ?_⟩) hS2 ?_
          · intro V hV; unfold ro8 ro7 ro6; go_simp
          simp only [ro6, ro7, ro8, Act.put, List.setIfInBounds_toArray, List.set_cons_zero, List.set_cons_succ]
          refine wpAnyH_ready (rs := [9]) (by kernel_rfl) (by simp) (AllReadyH.cons (o := ro9 _) rfl (fun K hK => ?_) AllReadyH.nil)
          unfold ro9
          go_simp
          refine hK.out _ _ (hS2.alloc hS2.size _) (fun _ => ?_)
          clear hK K
          refine wpAnyH_ready (rs := [10]) (by kernel_rfl) (by simp) (AllReadyH.cons (o := ro10 _) rfl (fun K hK => ?_) AllReadyH.nil)
          unfold ro10
          go_simp
          have hS3 : Below Wb.heap.size Wb (V2.alloc (.cells #[.int .i64 z, .slice pa ln cp] 36)) := hS2.alloc hS2.size _
          refine hK.out _ _ hS3 (fun _ => ?_)
          clear hK K
          refine wpAnyH_take (i := 11) (oi := ro11 _) (v := .bool ok) rfl (by kernel_rfl) (by kernel_rfl) (by kernel_rfl) (fun _ _ _ h => by cases h.1) (Or.inl ⟨by rfl, ?_⟩) hS3 ?_
          · intro V hV; unfold ro11; go_simp
          simp only [ro11, Act.put, List.setIfInBounds_toArray, List.set_cons_zero, List.set_cons_succ]
          refine wpAnyH_done (by kernel_rfl) ?_ _
          refine ⟨rfl, V2.heap.size, z, pa, ln, cp, _, _, _, _, _, _, _, _, _, rfl, hS3, hS2.size, heap_alloc_new V2 _, fun e => ?_⟩
          obtain ⟨gb, e1, e2, e3, e4, e5⟩ := hv e
          exact ⟨gb, e1, e2, e3, Nat.ne_of_lt e5.lt, by have := hS1.size; omega, e5.alloc _⟩
        case d9 =>
          unfold ro9
          go_simp
          have hS1' : Below Wb.heap.size Wb (V1.alloc (.cells #[.int .i64 0, .slice none 0 0] 36)) := hS1.alloc hS1.size _
          refine hK.out _ _ hS1' (fun _ => ?_)
          clear hK K
          refine wpAnyH_ready (rs := [5]) (by kernel_rfl) (by simp) (AllReadyH.cons (o := ro5 _) rfl (fun K hK => ?_) AllReadyH.nil)
          unfold ro5
          go_simp
          refine (HC9.out _ _ _ hS1' (HW1.out.alloc _)).mono ?_
          rintro e V2 ⟨hb2, z, pa, ln, cp, rfl, hv⟩
          have hS2 : Below Wb.heap.size Wb V2 := hS1'.trans (hb2.mono hS1'.size)
          have HBT : Hid (V2.heap[V1.heap.size]? = some (.cells #[.int .i64 0, .slice none 0 0] 36 (0, 0))) := Below.keeps hb2 (by simp) (heap_alloc_new V1 _)
          have t0 : V2.cell? ⟨V1.heap.size, 0, none⟩ = some (.int .i64 0) := (Lib.cell_of_heap HBT.out 0).trans rfl
          have t1 : V2.cell? ⟨V1.heap.size, 1, none⟩ = some (.slice none 0 0) := (Lib.cell_of_heap HBT.out 1).trans rfl
          have t2 : V2.frozen? ⟨V1.heap.size, 0, none⟩ = false := Lib.frozen_of_heap HBT.out 0
          have t3 : V2.frozen? ⟨V1.heap.size, 1, none⟩ = false := Lib.frozen_of_heap HBT.out 1
          refine hK.out _ _ hS2 (fun _ => ?_)
          clear hK K
          refine wpAnyH_take (i := 6) (oi := ro6 _) (v := .tuple #[.agg #[.int .i64 z, .slice pa ln cp], .bool ok]) rfl (by kernel_rfl) (by kernel_rfl) (by kernel_rfl) (fun _ _ _ h => by cases h.1) (Or.inl ⟨by rfl, ?_⟩) hS2 ?_
          · intro V hV; unfold ro6; go_simp
          refine wpAnyH_take (i := 7) (oi := ro7 _) (v := .agg #[.int .i64 z, .slice pa ln cp]) rfl (by kernel_rfl) (by kernel_rfl) (by kernel_rfl) (fun _ _ _ h => by cases h.1) (Or.inl ⟨by rfl, ?_⟩) hS2 ?_
          · intro V hV; unfold ro7 ro6; go_simp
          refine wpAnyH_take (i := 8) (oi := ro8 _) (v := .bool ok) rfl (by kernel_rfl) (by kernel_rfl) (by kernel_rfl) (fun _ _ _ h => by cases h.1) (Or.inl ⟨by rfl, ?_⟩) hS2 ?_
          · intro V hV; unfold ro8 ro7 ro6; go_simp
          simp only [ro6, ro7, ro8, Act.put, List.setIfInBounds_toArray, List.set_cons_zero, List.set_cons_succ]
          refine wpAnyH_ready (rs := [10]) (by kernel_rfl) (by simp) (AllReadyH.cons (o := ro10 _) rfl (fun K hK => ?_) AllReadyH.nil)
          unfold ro10
          go_simp
          have hS3 : Below Wb.heap.size Wb ((V2.setCell ⟨V1.heap.size, 0, none⟩ (.int .i64 z)).setCell ⟨V1.heap.size, 1, none⟩ (.slice pa ln cp)) := (hS2.setCell (p := ⟨V1.heap.size, 0, none⟩) hS1.size _).setCell (p := ⟨V1.heap.size, 1, none⟩) hS1.size _
          refine hK.out _ _ hS3 (fun _ => ?_)
          clear hK K
          refine wpAnyH_take (i := 11) (oi := ro11 _) (v := .bool ok) rfl (by kernel_rfl) (by kernel_rfl) (by kernel_rfl) (fun _ _ _ h => by cases h.1) (Or.inl ⟨by rfl, ?_⟩) hS3 ?_
          · intro V hV; unfold ro11; go_simp
          simp only [ro11, Act.put, List.setIfInBounds_toArray, List.set_cons_zero, List.set_cons_succ]
          refine wpAnyH_done (by kernel_rfl) ?_ _
          refine ⟨rfl, V1.heap.size, z, pa, ln, cp, _, _, _, _, _, _, _, _, _, rfl, hS3, hS1.size, two_cells HBT.out, fun e => ?_⟩
          obtain ⟨gb, e1, e2, e3, e4, e5⟩ := hv e
          rw [World.size_alloc] at e4
          exact ⟨gb, e1, e2, e3, by omega, by have := hS1.size; omega, Word.other (Word.other e5 (by omega)) (by omega)⟩
      case c9 =>
        unfold ro9
        go_simp
        have hSA : Below Wb.heap.size Wb (Wb.alloc (.cells #[.int .i64 0, .slice none 0 0] 36)).drew := below_drew ((Below.refl _ _).alloc (Nat.le_refl _) _)
        refine hK.out _ _ hSA (fun _ => ?_)
        clear hK K
        refine wpAnyH_ready (rs := [4]) (by kernel_rfl) (by simp) (AllReadyH.cons (o := ro4 _) rfl (fun K hK => ?_) AllReadyH.nil)
        unfold ro4
        go_simp
        refine (HC10.out _ hSA).mono ?_
        rintro e V1 ⟨⟨g, c', rfl, hg, hw⟩, hb⟩
        have hS1 : Below Wb.heap.size Wb V1 := hSA.trans (hb.mono hSA.size)
        have HW1 : Hid (Word V1 g (sub (full n) a)) := hw
        have HBT1 : Hid (V1.heap[Wb.heap.size]? = some (.cells #[.int .i64 0, .slice none 0 0] 36 (0, 0))) := Below.keeps hb (by show Wb.heap.size < (Wb.alloc _).heap.size; simp) (heap_alloc_new Wb _)
        refine hK.out _ _ hS1 (fun _ => ?_)
        clear hK K hw hb
        refine wpAnyH_ready (rs := [5]) (by kernel_rfl) (by simp) (AllReadyH.cons (o := ro5 _) rfl (fun K hK => ?_) AllReadyH.nil)
        unfold ro5
        go_simp
        refine (HC9.out _ _ _ hS1 HW1.out).mono ?_
        rintro e V2 ⟨hb2, z, pa, ln, cp, rfl, hv⟩
        have hS2 : Below Wb.heap.size Wb V2 := hS1.trans (hb2.mono hS1.size)
        have HBT : Hid (V2.heap[Wb.heap.size]? = some (.cells #[.int .i64 0, .slice none 0 0] 36 (0, 0))) := Below.keeps hb2 (Array.getElem?_eq_some_iff.1 HBT1.out).1 HBT1.out
        have lbt : Wb.heap.size < V1.heap.size := (Array.getElem?_eq_some_iff.1 HBT1.out).1
        have t0 : V2.cell? ⟨Wb.heap.size, 0, none⟩ = some (.int .i64 0) := (Lib.cell_of_heap HBT.out 0).trans rfl
        have t1 : V2.cell? ⟨Wb.heap.size, 1, none⟩ = some (.slice none 0 0) := (Lib.cell_of_heap HBT.out 1).trans rfl
        have t2 : V2.frozen? ⟨Wb.heap.size, 0, none⟩ = false := Lib.frozen_of_heap HBT.out 0
        have t3 : V2.frozen? ⟨Wb.heap.size, 1, none⟩ = false := Lib.frozen_of_heap HBT.out 1
        refine hK.out _ _ hS2 (fun _ => ?_)
        clear hK K
        refine wpAnyH_take (i := 6) (oi := ro6 _) (v := .tuple #[.agg #[.int .i64 z, .slice pa ln cp], .bool ok]) rfl (by kernel_rfl) (by kernel_rfl) (by kernel_rfl) (fun _ _ _ h => by cases h.1) (Or.inl ⟨by rfl, ?_⟩) hS2 ?_
        · intro V hV; unfold ro6; go_simp
        refine wpAnyH_take (i := 7) (oi := ro7 _) (v := .agg #[.int .i64 z, .slice pa ln cp]) rfl (by kernel_rfl) (by kernel_rfl) (by kernel_rfl) (fun _ _ _ h => by cases h.1) (Or.inl ⟨by rfl, ?_⟩) hS2 ?_
        · intro V hV; unfold ro7 ro6; go_simp
        refine wpAnyH_take (i := 8) (oi := ro8 _) (v := .bool ok) rfl (by kernel_rfl) (by kernel_rfl) (by kernel_rfl) (fun _ _ _ h => by cases h.1) (Or.inl ⟨by rfl, ?_⟩) hS2 ?_
        · intro V hV; unfold ro8 ro7 ro6; go_simp
        simp only [ro6, ro7, ro8, Act.put, List.setIfInBounds_toArray, List.set_cons_zero, List.set_cons_succ]
        refine wpAnyH_ready (rs := [10]) (by kernel_rfl) (by simp) (AllReadyH.cons (o := ro10 _) rfl (fun K hK => ?_) AllReadyH.nil)
        unfold ro10
        go_simp
        have hS3 : Below Wb.heap.size Wb ((V2.setCell ⟨Wb.heap.size, 0, none⟩ (.int .i64 z)).setCell ⟨Wb.heap.size, 1, none⟩ (.slice pa ln cp)) := (hS2.setCell (p := ⟨Wb.heap.size, 0, none⟩) (Nat.le_refl _) _).setCell (p := ⟨Wb.heap.size, 1, none⟩) (Nat.le_refl _) _
        refine hK.out _ _ hS3 (fun _ => ?_)
        clear hK K
        refine wpAnyH_take (i := 11) (oi := ro11 _) (v := .bool ok) rfl (by kernel_rfl) (by kernel_rfl) (by kernel_rfl) (fun _ _ _ h => by cases h.1) (Or.inl ⟨by rfl, ?_⟩) hS3 ?_
        · intro V hV; unfold ro11; go_simp
        simp only [ro11, Act.put, List.setIfInBounds_toArray, List.set_cons_zero, List.set_cons_succ]
        refine wpAnyH_done (by kernel_rfl) ?_ _
        refine ⟨rfl, Wb.heap.size, z, pa, ln, cp, _, _, _, _, _, _, _, _, _, rfl, hS3, Nat.le_refl _, two_cells HBT.out, fun e => ?_⟩
        obtain ⟨gb, e1, e2, e3, e4, e5⟩ := hv e
        exact ⟨gb, e1, e2, e3, by omega, by omega, Word.other (Word.other e5 (by omega)) (by omega)⟩
    case rest =>
      rintro e a' w' ⟨rfl, bt, z, pa, ln, cp, u15, u16, u17, u18, u19, u20, u21, u22, u23, rfl, HX⟩
      cases ok
      · gi_wp2
        obtain ⟨X1, X2, X3, X4⟩ := HX.out
        have l1 : w6.heap.size + 1 < Wb.heap.size := (Array.getElem?_eq_some_iff.1 HLB.out).1
        have lb : w'.heap[w6.heap.size + 1]? = some (.loop (r .busy none)) := Below.keeps X1 l1 HLB.out
        have ld : w'.heap[w6.heap.size]? = some (.deferred (some [])) := Below.keeps X1 (by omega) HDB.out
        have Y1 : Below w6.heap.size w6 w' := HEB.out.trans (X1.mono HEB.out.size)
        refine ⟨lb, Or.inl ⟨rfl, Y1.trans (belowK_b (w := w6) (Nat.le_refl _) w' _ _ _ (by omega) lb rfl rfl), World.putObj_heap_same (Nat.lt_of_lt_of_le l1 X1.size), (World.putObj_heap_other (by omega)).trans ld, fun j hj hjk => ?_⟩⟩
        by_cases e : j = k
        · subst e
          rw [← HAK.out]; exact HOK.out.symm
        · exact HJ.out.none' j hj (by omega)
      · obtain ⟨X1, X2, X3, X4⟩ := HX.out
        obtain ⟨gb, rfl, rfl, rfl, X5, X6, X7⟩ := X4 rfl
        have l1 : w6.heap.size + 1 < Wb.heap.size := (Array.getElem?_eq_some_iff.1 HLB.out).1
        have hsw6 := HEB.out.size
        have lsw := X1.size
        have HLB2 : Hid (w'.heap[w6.heap.size + 1]? = some (.loop (r .busy none))) := Below.keeps X1 l1 HLB.out
        have HDB2 : Hid (w'.heap[w6.heap.size]? = some (.deferred (some []))) := Below.keeps X1 (by omega) HDB.out
        have HY1 : Hid (Below w6.heap.size w6 w') := HEB.out.trans (X1.mono HEB.out.size)
        have HT2 : Hid (w'.heap[W.heap.size]? = some (.cells #[.int .i64 n, .slice (some ⟨gq, 0, none⟩) 1 1] 36 (0, 0))) := Below.keeps X1 (by omega) HTB.out
        have HBT2 : Hid (w'.heap[bt]? = some (.cells #[.int .i64 n, .slice (some ⟨gb, 0, none⟩) 1 cp] 36 (0, 0))) := X3
        have HWA : Hid (Word w' gq a) := HWB.out.below X1 HWB.out.lt
        have HWG : Hid (Word w' gb (greedy H n (sub (full n) a))) := X7
        have HR2 : Hid (w'.heap[w.heap.size + 1 + 1]? = some (.cells #[.int .i64 0, .slice none 0 0] 36 (0, 0))) := Below.keeps HY1.out (by omega) HB2.out
        have HR3 : Hid (w'.heap[w.heap.size + 1 + 1 + 1]? = some (.cells #[.int .i64 0, .slice none 0 0] 36 (0, 0))) := Below.keeps HY1.out (by omega) HB3.out
        have HR4 : Hid (w'.heap[w.heap.size + 1 + 1 + 1 + 1]? = some (.cells #[.bool false] 4 (0, 0))) := Below.keeps HY1.out (by omega) HB4.out
        have p0 : w'.cell? ⟨w.heap.size + 1 + 1, 0, none⟩ = some (.int .i64 0) := (Lib.cell_of_heap HR2.out 0).trans rfl
        have p1 : w'.cell? ⟨w.heap.size + 1 + 1, 1, none⟩ = some (.slice none 0 0) := (Lib.cell_of_heap HR2.out 1).trans rfl
        have p2 : w'.cell? ⟨w.heap.size + 1 + 1 + 1, 0, none⟩ = some (.int .i64 0) := (Lib.cell_of_heap HR3.out 0).trans rfl
        have p3 : w'.cell? ⟨w.heap.size + 1 + 1 + 1, 1, none⟩ = some (.slice none 0 0) := (Lib.cell_of_heap HR3.out 1).trans rfl
        have p4 : w'.cell? ⟨w.heap.size + 1 + 1 + 1 + 1, 0, none⟩ = some (.bool false) := (Lib.cell_of_heap HR4.out 0).trans rfl
        have r0 : w'.frozen? ⟨w.heap.size + 1 + 1, 0, none⟩ = false := Lib.frozen_of_heap HR2.out 0
        have r1 : w'.frozen? ⟨w.heap.size + 1 + 1, 1, none⟩ = false := Lib.frozen_of_heap HR2.out 1
        have r2 : w'.frozen? ⟨w.heap.size + 1 + 1 + 1, 0, none⟩ = false := Lib.frozen_of_heap HR3.out 0
        have r3 : w'.frozen? ⟨w.heap.size + 1 + 1 + 1, 1, none⟩ = false := Lib.frozen_of_heap HR3.out 1
        have r4 : w'.frozen? ⟨w.heap.size + 1 + 1 + 1 + 1, 0, none⟩ = false := Lib.frozen_of_heap HR4.out 0
        clear X1 X3 X4 X7 HX
        gi_wp2
        refine region_round (fun V => V.heap[W.heap.size]? = some (.cells #[.int .i64 n, .slice (some ⟨gq, 0, none⟩) 1 1] 36 (0, 0)) ∧ V.heap[bt]? = some (.cells #[.int .i64 n, .slice (some ⟨gb, 0, none⟩) 1 cp] 36 (0, 0))) (by kernel_rfl) (by rfl) (by rintro ⟨a, w, h⟩; exact h) ?_
        have hS0 : w'.drew.heap[W.heap.size]? = some (.cells #[.int .i64 n, .slice (some ⟨gq, 0, none⟩) 1 1] 36 (0, 0)) ∧ w'.drew.heap[bt]? = some (.cells #[.int .i64 n, .slice (some ⟨gb, 0, none⟩) 1 cp] 36 (0, 0)) := ⟨HT2.out, HBT2.out⟩
        refine wpAnyH_take (i := 0) (oi := rp0 _) (v := .agg #[.int .i64 n, .slice (some ⟨gq, 0, none⟩) 1 1]) rfl (by kernel_rfl) (by kernel_rfl) (by kernel_rfl) (fun _ _ _ h => h) (Or.inl ⟨by rfl, ?_⟩) hS0 ?_
        · intro V hV
          have k0 : V.cell? ⟨W.heap.size, 0, none⟩ = some (.int .i64 n) := (Lib.cell_of_heap hV.1 0).trans rfl
          have k1 : V.cell? ⟨W.heap.size, 1, none⟩ = some (.slice (some ⟨gq, 0, none⟩) 1 1) := (Lib.cell_of_heap hV.1 1).trans rfl
          unfold rp0
          go_simp
        refine wpAnyH_take (i := 1) (oi := rp1 _) (v := .agg #[.int .i64 n, .slice (some ⟨gb, 0, none⟩) 1 cp]) rfl (by kernel_rfl) (by kernel_rfl) (by kernel_rfl) (fun _ _ _ h => h) (Or.inl ⟨by rfl, ?_⟩) hS0 ?_
        · intro V hV
          have k0 : V.cell? ⟨bt, 0, none⟩ = some (.int .i64 n) := (Lib.cell_of_heap hV.2 0).trans rfl
          have k1 : V.cell? ⟨bt, 1, none⟩ = some (.slice (some ⟨gb, 0, none⟩) 1 cp) := (Lib.cell_of_heap hV.2 1).trans rfl
          unfold rp1 rp0
          go_simp
        simp only [rp0, rp1, Act.put, List.setIfInBounds_toArray, List.set_cons_zero, List.set_cons_succ]
        refine wpAnyH_ready (rs := [2]) (by kernel_rfl) (by simp) (AllReadyH.cons (o := rp2 _) rfl (fun K hK => ?_) AllReadyH.nil)
        unfold rp2
        go_simp
        have O1 : Only (w.heap.size + 1 + 1) w' ((w'.setCell ⟨w.heap.size + 1 + 1, 0, none⟩ (.int .i64 n)).setCell ⟨w.heap.size + 1 + 1, 1, none⟩ (.slice (some ⟨gq, 0, none⟩) 1 1)).drew := (only_two _ _ _ _).drew
        have Q1 : ((w'.setCell ⟨w.heap.size + 1 + 1, 0, none⟩ (.int .i64 n)).setCell ⟨w.heap.size + 1 + 1, 1, none⟩ (.slice (some ⟨gq, 0, none⟩) 1 1)).drew.heap[w.heap.size + 1 + 1]? = some (.cells #[.int .i64 n, .slice (some ⟨gq, 0, none⟩) 1 1] 36 (0, 0)) := two_cells HR2.out
        generalize ((w'.setCell ⟨w.heap.size + 1 + 1, 0, none⟩ (.int .i64 n)).setCell ⟨w.heap.size + 1 + 1, 1, none⟩ (.slice (some ⟨gq, 0, none⟩) 1 1)).drew = X1 at *
        have HO1 : Hid (Only (w.heap.size + 1 + 1) w' X1) := O1
        have HQ1 : Hid (X1.heap[w.heap.size + 1 + 1]? = some (.cells #[.int .i64 n, .slice (some ⟨gq, 0, none⟩) 1 1] 36 (0, 0))) := Q1
        have HR3a : Hid (X1.heap[w.heap.size + 1 + 1 + 1]? = some (.cells #[.int .i64 0, .slice none 0 0] 36 (0, 0))) := O1.keeps (by omega) HR3.out
        have HR4a : Hid (X1.heap[w.heap.size + 1 + 1 + 1 + 1]? = some (.cells #[.bool false] 4 (0, 0))) := O1.keeps (by omega) HR4.out
        refine hK.out _ _ ⟨O1.keeps (by omega) HT2.out, O1.keeps (by omega) HBT2.out⟩ (fun hSa => ?_)
        clear hK K p0 p1 p2 p3 p4 r0 r1 r2 r3 r4 O1 Q1
        have p2 : X1.cell? ⟨w.heap.size + 1 + 1 + 1, 0, none⟩ = some (.int .i64 0) := (Lib.cell_of_heap HR3a.out 0).trans rfl
        have p3 : X1.cell? ⟨w.heap.size + 1 + 1 + 1, 1, none⟩ = some (.slice none 0 0) := (Lib.cell_of_heap HR3a.out 1).trans rfl
        have r2 : X1.frozen? ⟨w.heap.size + 1 + 1 + 1, 0, none⟩ = false := Lib.frozen_of_heap HR3a.out 0
        have r3 : X1.frozen? ⟨w.heap.size + 1 + 1 + 1, 1, none⟩ = false := Lib.frozen_of_heap HR3a.out 1
        refine wpAnyH_ready (rs := [3]) (by kernel_rfl) (by simp) (AllReadyH.cons (o := rp3 _) rfl (fun K hK => ?_) AllReadyH.nil)
        unfold rp3
        go_simp
        have O2 := only_two X1 (w.heap.size + 1 + 1 + 1) (.int .i64 n) (.slice (some ⟨gb, 0, none⟩) 1 cp)
        have Q2 : ((X1.setCell ⟨w.heap.size + 1 + 1 + 1, 0, none⟩ (.int .i64 n)).setCell ⟨w.heap.size + 1 + 1 + 1, 1, none⟩ (.slice (some ⟨gb, 0, none⟩) 1 cp)).heap[w.heap.size + 1 + 1 + 1]? = some (.cells #[.int .i64 n, .slice (some ⟨gb, 0, none⟩) 1 cp] 36 (0, 0)) := two_cells HR3a.out
        generalize (X1.setCell ⟨w.heap.size + 1 + 1 + 1, 0, none⟩ (.int .i64 n)).setCell ⟨w.heap.size + 1 + 1 + 1, 1, none⟩ (.slice (some ⟨gb, 0, none⟩) 1 cp) = X2 at *
        have HO2 : Hid (Only (w.heap.size + 1 + 1 + 1) X1 X2) := O2
        have HQ2 : Hid (X2.heap[w.heap.size + 1 + 1 + 1]? = some (.cells #[.int .i64 n, .slice (some ⟨gb, 0, none⟩) 1 cp] 36 (0, 0))) := Q2
        have HR4b : Hid (X2.heap[w.heap.size + 1 + 1 + 1 + 1]? = some (.cells #[.bool false] 4 (0, 0))) := O2.keeps (by omega) HR4a.out
        refine hK.out _ _ ⟨O2.keeps (by omega) hSa.1, O2.keeps (by omega) hSa.2⟩ (fun hSb => ?_)
        clear hK K p2 p3 r2 r3 O2 Q2 hSa
        have p4 : X2.cell? ⟨w.heap.size + 1 + 1 + 1 + 1, 0, none⟩ = some (.bool false) := (Lib.cell_of_heap HR4b.out 0).trans rfl
        have r4 : X2.frozen? ⟨w.heap.size + 1 + 1 + 1 + 1, 0, none⟩ = false := Lib.frozen_of_heap HR4b.out 0
        refine wpAnyH_ready (rs := [4]) (by kernel_rfl) (by simp) (AllReadyH.cons (o := rp4 _) rfl (fun K hK => ?_) AllReadyH.nil)
        unfold rp4
        go_simp
        have O3 := only_one X2 (w.heap.size + 1 + 1 + 1 + 1) (.bool true)
        have Q3 : (X2.setCell ⟨w.heap.size + 1 + 1 + 1 + 1, 0, none⟩ (.bool true)).heap[w.heap.size + 1 + 1 + 1 + 1]? = some (.cells #[.bool true] 4 (0, 0)) := one_cell HR4b.out
        generalize X2.setCell ⟨w.heap.size + 1 + 1 + 1 + 1, 0, none⟩ (.bool true) = X3 at *
        have HO3 : Hid (Only (w.heap.size + 1 + 1 + 1 + 1) X2 X3) := O3
        have HQ3 : Hid (X3.heap[w.heap.size + 1 + 1 + 1 + 1]? = some (.cells #[.bool true] 4 (0, 0))) := Q3
        refine hK.out _ _ ⟨O3.keeps (by omega) hSb.1, O3.keeps (by omega) hSb.2⟩ (fun _ => ?_)
        clear hK K p4 r4 O3 Q3 hSb
        refine wpAnyH_done (by kernel_rfl) ?_ _
        gi_wp2
        have hko : ∀ k, k ≠ w.heap.size + 1 + 1 → k ≠ w.heap.size + 1 + 1 + 1 → k ≠ w.heap.size + 1 + 1 + 1 + 1 → X3.heap[k]? = w'.heap[k]? := fun k e0 e1 e2 => (HO3.out.block k e2).trans ((HO2.out.block k e1).trans (HO1.out.block k e0))
        have hlb : X3.heap[w6.heap.size + 1]? = some (.loop (r .busy none)) := (hko _ (by omega) (by omega) (by omega)).trans HLB2.out
        have hsx : X3.heap.size = w'.heap.size := HO3.out.size.trans (HO2.out.size.trans HO1.out.size)
        refine ⟨hlb, Or.inr ⟨rfl, EX.of (gq := gq) (gb := gb) (xa := 1) (xb := cp) (a := a) (by omega) hlb ((hko _ (by omega) (by omega) (by omega)).trans HDB2.out) ?_ ?_ ?_ ?_ HQ3.out ?_ ?_ ?_ ?_ ?_ ?_⟩⟩
        · exact HO3.out.word (by omega) (HO2.out.word (by omega) (HO1.out.word (by omega) HWA.out))
        · exact HO3.out.word (by omega) (HO2.out.word (by omega) (HO1.out.word (by omega) HWG.out))
        · exact HO3.out.keeps (by omega) (HO2.out.keeps (by omega) HQ1.out)
        · exact HO3.out.keeps (by omega) HQ2.out
        · rw [HAK.out]
          exact find_at (f := fun a => H (sub (full n) a)) hk HJ.out.none' (by rw [← HAK.out]; exact HOK.out.symm)
        · exact HO3.out.os.trans (HO2.out.os.trans (HO1.out.os.trans HY1.out.os))
        · exact HO3.out.tape.trans (HO2.out.tape.trans (HO1.out.tape.trans HY1.out.tape))
        · exact HO3.out.output.trans (HO2.out.output.trans (HO1.out.output.trans HY1.out.output))
        · rw [hsx]; exact HY1.out.size
        · exact fun k hk e0 e1 e2 => (hko k e0 e1 e2).trans (HY1.out.block k hk)
  case fin =>
    rintro e W ⟨⟨v, rfl⟩, (hJ | hX)⟩
    · refine ⟨⟨_, rfl⟩, Or.inl ⟨hJ.lrec, fun o => ?_⟩⟩
      have l1 : w6.heap.size + 1 < W.heap.size := (Array.getElem?_eq_some_iff.1 hJ.lrec).1
      have Y1 : Below w6.heap.size w6 (W.putObj (w6.heap.size + 1) o) := hJ.bel.trans (belowK_b (w := w6) (Nat.le_refl _) W _ _ _ (by omega) hJ.lrec rfl rfl)
      have hD : (W.putObj (w6.heap.size + 1) o).heap[w6.heap.size]? = some (.deferred (some [])) := (World.putObj_heap_other (by omega)).trans hJ.def'
      have HNO : Hid (al.find? (fun a => H (sub (full n) a)) = none) := find_none (fun j hj => hJ.none' j hj hj)
      generalize W.putObj (w6.heap.size + 1) o = X at *
      have HY1 : Hid (Below w6.heap.size w6 X) := Y1
      have HD : Hid (X.heap[w6.heap.size]? = some (.deferred (some []))) := hD
      have HR2 : Hid (X.heap[w.heap.size + 1 + 1]? = some (.cells #[.int .i64 0, .slice none 0 0] 36 (0, 0))) := Below.keeps HY1.out (by omega) HB2.out
      have HR3 : Hid (X.heap[w.heap.size + 1 + 1 + 1]? = some (.cells #[.int .i64 0, .slice none 0 0] 36 (0, 0))) := Below.keeps HY1.out (by omega) HB3.out
      have HR4 : Hid (X.heap[w.heap.size + 1 + 1 + 1 + 1]? = some (.cells #[.bool false] 4 (0, 0))) := Below.keeps HY1.out (by omega) HB4.out
      have p0 : X.cell? ⟨w.heap.size + 1 + 1, 0, none⟩ = some (.int .i64 0) := (Lib.cell_of_heap HR2.out 0).trans rfl
      have p1 : X.cell? ⟨w.heap.size + 1 + 1, 1, none⟩ = some (.slice none 0 0) := (Lib.cell_of_heap HR2.out 1).trans rfl
      have p2 : X.cell? ⟨w.heap.size + 1 + 1 + 1, 0, none⟩ = some (.int .i64 0) := (Lib.cell_of_heap HR3.out 0).trans rfl
      have p3 : X.cell? ⟨w.heap.size + 1 + 1 + 1, 1, none⟩ = some (.slice none 0 0) := (Lib.cell_of_heap HR3.out 1).trans rfl
      have p4 : X.cell? ⟨w.heap.size + 1 + 1 + 1 + 1, 0, none⟩ = some (.bool false) := (Lib.cell_of_heap HR4.out 0).trans rfl
      have r0 : X.frozen? ⟨w.heap.size + 1 + 1, 0, none⟩ = false := Lib.frozen_of_heap HR2.out 0
      have r1 : X.frozen? ⟨w.heap.size + 1 + 1, 1, none⟩ = false := Lib.frozen_of_heap HR2.out 1
      have r2 : X.frozen? ⟨w.heap.size + 1 + 1 + 1, 0, none⟩ = false := Lib.frozen_of_heap HR3.out 0
      have r3 : X.frozen? ⟨w.heap.size + 1 + 1 + 1, 1, none⟩ = false := Lib.frozen_of_heap HR3.out 1
      have r4 : X.frozen? ⟨w.heap.size + 1 + 1 + 1 + 1, 0, none⟩ = false := Lib.frozen_of_heap HR4.out 0
      clear hJ l1 Y1 hD hr HRC
      gi_wp2
      have O1 := only_two X (w.heap.size + 1 + 1) (.int .i64 0) (.slice none 0 0)
      have Q1 : ((X.setCell ⟨w.heap.size + 1 + 1, 0, none⟩ (.int .i64 0)).setCell ⟨w.heap.size + 1 + 1, 1, none⟩ (.slice none 0 0)).heap[w.heap.size + 1 + 1]? = some (.cells #[.int .i64 0, .slice none 0 0] 36 (0, 0)) := two_cells HR2.out
      generalize (X.setCell ⟨w.heap.size + 1 + 1, 0, none⟩ (.int .i64 0)).setCell ⟨w.heap.size + 1 + 1, 1, none⟩ (.slice none 0 0) = X1 at *
      have O2 := only_two X1 (w.heap.size + 1 + 1 + 1) (.int .i64 0) (.slice none 0 0)
      have Q2 : ((X1.setCell ⟨w.heap.size + 1 + 1 + 1, 0, none⟩ (.int .i64 0)).setCell ⟨w.heap.size + 1 + 1 + 1, 1, none⟩ (.slice none 0 0)).heap[w.heap.size + 1 + 1 + 1]? = some (.cells #[.int .i64 0, .slice none 0 0] 36 (0, 0)) := two_cells (O1.keeps (by omega) HR3.out)
      generalize (X1.setCell ⟨w.heap.size + 1 + 1 + 1, 0, none⟩ (.int .i64 0)).setCell ⟨w.heap.size + 1 + 1 + 1, 1, none⟩ (.slice none 0 0) = X2 at *
      have O3 := only_one X2 (w.heap.size + 1 + 1 + 1 + 1) (.bool false)
      have Q3 : (X2.setCell ⟨w.heap.size + 1 + 1 + 1 + 1, 0, none⟩ (.bool false)).heap[w.heap.size + 1 + 1 + 1 + 1]? = some (.cells #[.bool false] 4 (0, 0)) := one_cell (O2.keeps (by omega) (O1.keeps (by omega) HR4.out))
      generalize X2.setCell ⟨w.heap.size + 1 + 1 + 1 + 1, 0, none⟩ (.bool false) = X3 at *
      have hko : ∀ k, k ≠ w.heap.size + 1 + 1 → k ≠ w.heap.size + 1 + 1 + 1 → k ≠ w.heap.size + 1 + 1 + 1 + 1 → X3.heap[k]? = X.heap[k]? := fun k e0 e1 e2 => (O3.block k e2).trans ((O2.block k e1).trans (O1.block k e0))
      have hD3 : X3.heap[w6.heap.size]? = some (.deferred (some [])) := (hko _ (by omega) (by omega) (by omega)).trans HD.out
      have hsx : X3.heap.size = X.heap.size := O3.size.trans (O2.size.trans O1.size)
      refine ⟨by simp, .inl ⟨_, _, rfl, run_takeDeferred hD3, ?_⟩⟩
      refine ⟨_, results_three rfl rfl rfl ((World.putObj_heap_other (by omega)).trans (O3.keeps (by omega) (O2.keeps (by omega) Q1))) ((World.putObj_heap_other (by omega)).trans (O3.keeps (by omega) Q2)) ((Lib.cell_of_heap ((World.putObj_heap_other (by omega)).trans Q3) 0).trans rfl), ?_, Or.inl ⟨HNO.out, rfl⟩⟩
      refine noted_fin lsb HN6.out HK6.out (fun k hk e0 e1 e2 => ?_) (O3.os.trans (O2.os.trans (O1.os.trans HY1.out.os))) (O3.tape.trans (O2.tape.trans (O1.tape.trans HY1.out.tape))) (O3.output.trans (O2.output.trans (O1.output.trans HY1.out.output))) ?_
      · exact (World.putObj_heap_other (by omega)).trans ((hko k e0 e1 e2).trans (HY1.out.block k hk))
      · have := HY1.out.size
        simp only [World.putObj, Array.size_setIfInBounds]
        omega
    · refine ⟨⟨_, rfl⟩, Or.inr ⟨hX.lrec, fun o => ?_⟩⟩
      clear hr HRC
      have HXX : Hid (EX w6 r H n al (w.heap.size + 1 + 1) W) := hX
      have l1 : w6.heap.size + 1 < W.heap.size := (Array.getElem?_eq_some_iff.1 hX.lrec).1
      clear hX
      gi_wp2
      obtain ⟨a, ga, xa, gb, xb, hf, hWa, hWb, hr0, hr1, hr2⟩ := HXX.out.pair
      have hD3 : (W.putObj (w6.heap.size + 1) o).heap[w6.heap.size]? = some (.deferred (some [])) := (World.putObj_heap_other (by omega)).trans HXX.out.def'
      have nl : ∀ {b q : Nat}, Word W b q → b ≠ w6.heap.size := fun {b q} h e => by
        obtain ⟨cs, e1, _⟩ := h
        rw [e, HXX.out.def'] at e1
        cases e1
      refine ⟨by simp, .inl ⟨_, _, rfl, run_takeDeferred hD3, ?_⟩⟩
      refine ⟨_, results_three rfl rfl rfl ((World.putObj_heap_other (by omega)).trans ((World.putObj_heap_other (by omega)).trans hr0)) ((World.putObj_heap_other (by omega)).trans ((World.putObj_heap_other (by omega)).trans hr1)) ((Lib.cell_of_heap ((World.putObj_heap_other (by omega)).trans ((World.putObj_heap_other (by omega)).trans hr2)) 0).trans rfl), ?_, Or.inr ⟨a, ga, xa, gb, xb, hf, rfl, (hWa.put (hWa.cells HXX.out.lrec)).put (nl hWa), (hWb.put (hWb.cells HXX.out.lrec)).put (nl hWb)⟩⟩
      refine noted_fin lsb HN6.out HK6.out (fun k hk e0 e1 e2 => ?_) HXX.out.os HXX.out.tape HXX.out.output ?_
      · exact (World.putObj_heap_other (by omega)).trans ((World.putObj_heap_other (by omega)).trans (HXX.out.block k hk e0 e1 e2))
      · have := HXX.out.size
        simp only [World.putObj, Array.size_setIfInBounds]
        omega
end Go.Proofs.YbulkdczqFmt
