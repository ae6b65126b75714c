/-
  The script's state in memory: the struct behind p, the row 'used', the slice 'chosen' and its paths, the slice 'model'; what each change leaves of it. No Go text is walked here.
-/
import Derived.Test.YbulkbnosFirsts
namespace Go.Proofs.Ybulkbnos
open Go.RowKit Go.Shelf

/-- Nothing old has turned: as 'grownBy' says it. -/
theorem grown_of_below {w w' : World} (h : Below w.heap.size w w') (row : Option Nat) : w.grownBy w' row := ⟨h.os, h.tape, h.output, h.size, fun k hk _ => h.block k hk⟩
theorem grown_setCell (w : World) (a : Addr) (v : Value) : w.grownBy (w.setCell a v) (some a.block) :=
  ⟨rfl, rfl, rfl, by simp [World.setCell], fun k _ hk => Below.heap_setCell w a v k (fun e => hk (by rw [e]))⟩
theorem lt_of_heap {w : World} {b : Nat} {o : Obj} (h : w.heap[b]? = some o) : b < w.heap.size := by
  by_cases hg : b < w.heap.size
  · exact hg
  · rw [Array.getElem?_eq_none (by omega)] at h; cases h
theorem grown_block {w w' : World} {row : Option Nat} {b : Nat} {o : Obj} (hg : w.grownBy w' row) (h : w.heap[b]? = some o) (hne : row ≠ some b) : w'.heap[b]? = some o :=
  (hg.block b (lt_of_heap h) (fun e => hne e.symm)).trans h
theorem heap_setCell_self {w : World} {b j : Nat} {cs : Array Value} {t : TypeId} {f : Nat × Nat} (h : w.heap[b]? = some (.cells cs t f)) (v : Value) : (w.setCell ⟨b, j, none⟩ v).heap[b]? = some (.cells (cs.setIfInBounds j v) t f) := by
  simp [World.setCell, Array.getElem?_modify, h]

/-- The row 'used': sixteen bools. -/
def UsedAt (w : World) (U : Nat) : Prop := ∃ us : Array Value, w.heap[U]? = some (.cells us 4 (0, 0)) ∧ us.size = 16 ∧ ∀ i, i < 16 → ∃ b, us[i]? = some (.bool b)
theorem UsedAt.grown {w w' : World} {U : Nat} {row : Option Nat} (h : UsedAt w U) (hg : w.grownBy w' row) (hne : row ≠ some U) : UsedAt w' U := by
  obtain ⟨us, h1, h2⟩ := h
  exact ⟨us, grown_block hg h1 hne, h2⟩
theorem UsedAt.set {w : World} {U : Nat} (h : UsedAt w U) (j : Nat) (b : Bool) : UsedAt (w.setCell ⟨U, j, none⟩ (.bool b)) U := by
  obtain ⟨us, h1, h2, h3⟩ := h
  refine ⟨_, heap_setCell_self h1 _, by simp [h2], fun i hi => ?_⟩
  by_cases e : j = i
  · subst e; exact ⟨b, by rw [Array.getElem?_setIfInBounds_self]; simp [h2, hi]⟩
  · rw [Array.getElem?_setIfInBounds_ne (by omega)]; exact h3 i hi
theorem UsedAt.spot {w : World} {U : Nat} (h : UsedAt w U) (j : Nat) (hj : j < 16) : (∃ b, w.cell? ⟨U, j, none⟩ = some (.bool b)) ∧ w.frozen? ⟨U, j, none⟩ = false := by
  obtain ⟨us, h1, h2, h3⟩ := h
  obtain ⟨b, hb⟩ := h3 j hj
  exact ⟨⟨b, by simp [World.cell?, h1, hb]⟩, by simp [World.frozen?, h1]⟩

/-- The struct behind p. -/
def hop (U : Nat) (cv : Value) : Array Value := #[Value.pointer none, Value.int IntKind.i64 0, Value.pointer none, Value.pointer none, Value.slice none 0 0, Value.slice (some ⟨U, 0, none⟩) 16 16, cv, Value.slice none 0 0, Value.slice none 0 0, Value.slice none 0 0, Value.slice none 0 0, Value.int IntKind.i32 0, Value.slice none 0 0, Value.bool false]
def HopAt (w : World) (P U : Nat) (cv : Value) : Prop := w.heap[P]? = some (.cells (hop U cv) 62 (0, 0))
theorem HopAt.grown {w w' : World} {P U : Nat} {cv : Value} {row : Option Nat} (h : HopAt w P U cv) (hg : w.grownBy w' row) (hne : row ≠ some P) : HopAt w' P U cv := grown_block hg h hne
theorem HopAt.set {w : World} {P U : Nat} {cv : Value} (h : HopAt w P U cv) (cv' : Value) : HopAt (w.setCell ⟨P, 6, none⟩ cv') P U cv' := by
  have := heap_setCell_self (j := 6) h cv'
  exact this
theorem HopAt.cells {w : World} {P U : Nat} {cv : Value} (h : HopAt w P U cv) : w.cell? ⟨P, 5, none⟩ = some (.slice (some ⟨U, 0, none⟩) 16 16) ∧ w.cell? ⟨P, 6, none⟩ = some cv ∧ w.frozen? ⟨P, 6, none⟩ = false := by
  unfold HopAt at h
  exact ⟨by simp [World.cell?, h, hop], by simp [World.cell?, h, hop], by simp [World.frozen?, h]⟩

/-- A path: a row of its own, of nodes from 0 to 15, that is not the block 'mb'. -/
def PathAt (w : World) (B : Nat) (mb : Option Nat) (v : Value) (l : List Int) : Prop :=
  ∃ g cap, v = .slice (some ⟨g, 0, none⟩) l.length cap ∧ some g ≠ mb ∧ w.ownsRow B 3 1 v l.length (l.map (Value.int .i64)) ∧ 0 < l.length ∧ ∀ z ∈ l, 0 ≤ z ∧ z ≤ 15

theorem own_block {w : World} {B : Nat} {e : TypeId} {g n cap : Nat} {xs : List Value} (h : w.ownsRow B e 1 (.slice (some ⟨g, 0, none⟩) n cap) n xs) : ∃ cur, w.heap[g]? = some (.cells cur e (0, 0)) := by
  obtain ⟨_, ⟨hv, _⟩ | ⟨g', cap', cur, hv, _, hh, _⟩⟩ := h
  · cases hv
  · injection hv with h1
    injection h1 with h1
    injection h1 with h1
    subst h1
    exact ⟨cur, hh⟩

/-- What may be written without a path being met: a block that holds no ints, or 'mb'. -/
def Off (w : World) (mb row : Option Nat) : Prop := ∀ b, row = some b → some b = mb ∨ ∀ cur f, w.heap[b]? ≠ some (.cells cur 3 f)

theorem off_none (w : World) (mb : Option Nat) : Off w mb none := fun _ h => by cases h
theorem off_mb (w : World) (mb : Option Nat) : Off w mb mb := fun _ h => .inl h.symm
theorem off_type {w : World} {mb : Option Nat} {b : Nat} {cs : Array Value} {t : TypeId} {f : Nat × Nat} (h : w.heap[b]? = some (.cells cs t f)) (ht : t ≠ 3) : Off w mb (some b) := fun b' e => by
  injection e with e
  subst e
  refine .inr fun cur f' h' => ?_
  rw [h] at h'
  injection h' with h'
  injection h' with _ h'
  exact ht h'

theorem PathAt.grown {w w' : World} {B : Nat} {mb row : Option Nat} {v : Value} {l : List Int} (h : PathAt w B mb v l) (hg : w.grownBy w' row) (ho : Off w mb row) : PathAt w' B mb v l := by
  obtain ⟨g, cap, rfl, h1, h2, h3⟩ := h
  refine ⟨g, cap, rfl, h1, h2.kept hg (.inr ?_), h3⟩
  intro e
  obtain ⟨cur, hc⟩ := own_block h2
  rcases ho g e.symm with h | h
  · exact h1 h
  · exact h _ _ hc
theorem PathAt.at {w : World} {B : Nat} {mb : Option Nat} {v : Value} {l : List Int} (h : PathAt w B mb v l) : ∃ g cap, v = .slice (some ⟨g, 0, none⟩) l.length cap ∧ 0 < l.length ∧ ∀ i, i < l.length → w.cell? ⟨g, i, none⟩ = some (.int .i64 (l.getD i 0)) ∧ 0 ≤ l.getD i 0 ∧ l.getD i 0 ≤ 15 := by
  obtain ⟨g, cap, rfl, _, h2, h3, h4⟩ := h
  refine ⟨g, cap, rfl, h3, fun i hi => ?_⟩
  have e : l.getD i 0 = l[i] := by rw [List.getD_eq_getElem?_getD, List.getElem?_eq_getElem hi]; rfl
  rw [e, h2.cellAt i (by omega), List.getElem?_map, List.getElem?_eq_getElem hi]
  exact ⟨rfl, h4 _ (List.getElem_mem hi)⟩
theorem PathAt.cell {w : World} {B : Nat} {mb : Option Nat} {g n cap : Nat} {l : List Int} (h : PathAt w B mb (.slice (some ⟨g, 0, none⟩) n cap) l) (i : Nat) (hi : i < l.length) : w.cell? ⟨g, i, none⟩ = some (.int .i64 (l.getD i 0)) ∧ 0 ≤ l.getD i 0 ∧ l.getD i 0 ≤ 15 := by
  obtain ⟨g', cap', e, _, hc⟩ := h.at
  injection e with e
  injection e with e
  injection e with e
  subst e
  exact hc i hi
/-- The model has moved to a new block. -/
theorem PathAt.moved {w : World} {B : Nat} {mb : Option Nat} {v : Value} {l : List Int} (h : PathAt w B mb v l) (b : Nat) (hb : w.heap.size ≤ b) : PathAt w B (some b) v l := by
  obtain ⟨g, cap, rfl, _, h2, h3⟩ := h
  obtain ⟨cur, hc⟩ := own_block h2
  have := lt_of_heap hc
  exact ⟨g, cap, rfl, by simp; omega, h2, h3⟩

/-- The slice 'chosen' and its paths. -/
def ChosAt (w : World) (B : Nat) (mb : Option Nat) (cv : Value) (PS : List (List Int)) : Prop :=
  ∃ xs, w.ownsRow B 50 1 cv PS.length xs ∧ ∀ j, j < PS.length → ∃ v, xs[j]? = some v ∧ PathAt w B mb v (PS.getD j [])

theorem ChosAt.grown {w w' : World} {B : Nat} {mb row : Option Nat} {cv : Value} {PS : List (List Int)} (h : ChosAt w B mb cv PS) (hg : w.grownBy w' row) (ho : Off w mb row) (hne : cv.ownBlock = none ∨ cv.ownBlock ≠ row) : ChosAt w' B mb cv PS := by
  obtain ⟨xs, h1, h2⟩ := h
  exact ⟨xs, h1.kept hg hne, fun j hj => by obtain ⟨v, hv, hp⟩ := h2 j hj; exact ⟨v, hv, hp.grown hg ho⟩⟩
/-- The block of 'chosen' holds slices. -/
theorem ChosAt.block {w : World} {B : Nat} {mb : Option Nat} {cv : Value} {PS : List (List Int)} (h : ChosAt w B mb cv PS) : ∀ b, cv.ownBlock = some b → ∃ cur, w.heap[b]? = some (.cells cur 50 (0, 0)) := fun b hb => by
  obtain ⟨xs, ⟨_, ⟨rfl, _⟩ | ⟨g, cap, cur, rfl, _, hh, _⟩⟩, _⟩ := h
  · cases hb
  · injection hb with hb
    subst hb
    exact ⟨cur, hh⟩
theorem ChosAt.off {w : World} {B : Nat} {mb : Option Nat} {cv : Value} {PS : List (List Int)} (h : ChosAt w B mb cv PS) : Off w mb cv.ownBlock := fun b hb => by
  obtain ⟨cur, hc⟩ := h.block b hb
  exact off_type hc (by decide) b rfl
/-- A block of another kind is not the block of 'chosen'. -/
theorem ChosAt.ne {w : World} {B : Nat} {mb : Option Nat} {cv : Value} {PS : List (List Int)} (h : ChosAt w B mb cv PS) {b : Nat} {cs : Array Value} {t : TypeId} {f : Nat × Nat} (hb : w.heap[b]? = some (.cells cs t f)) (ht : t ≠ 50) : cv.ownBlock ≠ some b := fun e => by
  obtain ⟨cur, hc⟩ := h.block b e
  rw [hc] at hb
  injection hb with hb
  injection hb with _ hb
  exact ht hb.symm
/-- One path more. -/
theorem ChosAt.push {w w' : World} {B : Nat} {mb : Option Nat} {cv cv' : Value} {PS : List (List Int)} {xs : List Value} {v : Value} {l : List Int} (h1 : w.ownsRow B 50 1 cv PS.length xs) (h2 : ∀ j, j < PS.length → ∃ v, xs[j]? = some v ∧ PathAt w B mb v (PS.getD j [])) (hv : PathAt w B mb v l)
    (ho : w'.ownsRow B 50 1 cv' (PS.length + 1) (xs ++ [v])) (hg : w.grownBy w' cv.ownBlock) (hoff : Off w mb cv.ownBlock) : ChosAt w' B mb cv' (PS ++ [l]) := by
  have hl : xs.length = PS.length := by have := h1.1; omega
  refine ⟨xs ++ [v], by simpa using ho, fun j hj => ?_⟩
  simp at hj
  by_cases h : j < PS.length
  · obtain ⟨u, hu, hp⟩ := h2 j h
    refine ⟨u, by rw [List.getElem?_append_left (by omega)]; exact hu, ?_⟩
    rw [List.getD_eq_getElem?_getD, List.getElem?_append_left h, ← List.getD_eq_getElem?_getD]
    exact hp.grown hg hoff
  · obtain rfl : j = PS.length := by omega
    refine ⟨v, by rw [← hl]; simp, ?_⟩
    have : (PS ++ [l]).getD PS.length [] = l := by simp [List.getD_eq_getElem?_getD]
    rw [this]
    exact hv.grown hg hoff

theorem getD_dropLast (PS : List (List Int)) (j : Nat) (hj : j < PS.length - 1) : PS.dropLast.getD j [] = PS.getD j [] := by
  rw [List.getD_eq_getElem?_getD, List.getD_eq_getElem?_getD, List.getElem?_dropLast, if_pos hj]

/-- One path fewer. -/
theorem ChosAt.pop {w : World} {B : Nat} {mb : Option Nat} {g n cap : Nat} {PS : List (List Int)} (h : ChosAt w B mb (.slice (some ⟨g, 0, none⟩) n cap) PS) (hn : n = PS.length) (h0 : 0 < n) : ChosAt w B mb (.slice (some ⟨g, 0, none⟩) (n - 1) cap) PS.dropLast := by
  subst hn
  obtain ⟨xs, h1, h2⟩ := h
  have hl : xs.length = PS.length := by have := h1.1; omega
  obtain ⟨m, hm⟩ : ∃ m, PS.length = m + 1 := ⟨PS.length - 1, by omega⟩
  refine ⟨xs.take m, ?_, fun j hj => ?_⟩
  · rw [List.length_dropLast, hm, Nat.add_sub_cancel]
    refine ownsRow_pop (last := xs.drop m) (by rw [List.length_take]; omega) ?_
    rw [List.take_append_drop, ← hm]
    exact h1
  · rw [List.length_dropLast] at hj
    obtain ⟨v, hv, hp⟩ := h2 j (by omega)
    refine ⟨v, by rw [List.getElem?_take, if_pos (by omega)]; exact hv, ?_⟩
    rw [getD_dropLast _ _ hj]
    exact hp

/-- The slice 'model'. -/
def ModAt (w : World) (B : Nat) (mv : Value) (ms : List Int) : Prop := w.ownsRow B 3 1 mv ms.length (ms.map (Value.int .i64))
theorem ModAt.block {w : World} {B : Nat} {mv : Value} {ms : List Int} (h : ModAt w B mv ms) : ∀ b, mv.ownBlock = some b → ∃ cur, w.heap[b]? = some (.cells cur 3 (0, 0)) := fun b hb => by
  obtain ⟨_, ⟨rfl, _⟩ | ⟨g, cap, cur, rfl, _, hh, _⟩⟩ := h
  · cases hb
  · injection hb with hb
    subst hb
    exact ⟨cur, hh⟩
theorem ModAt.ne {w : World} {B : Nat} {mv : Value} {ms : List Int} (h : ModAt w B mv ms) {b : Nat} {cs : Array Value} {t : TypeId} {f : Nat × Nat} (hb : w.heap[b]? = some (.cells cs t f)) (ht : t ≠ 3) : mv.ownBlock ≠ some b := fun e => by
  obtain ⟨cur, hc⟩ := h.block b e
  rw [hc] at hb
  injection hb with hb
  injection hb with _ hb
  exact ht hb.symm
theorem ModAt.pop {w : World} {B g n cap : Nat} {ms : List Int} (h : ModAt w B (.slice (some ⟨g, 0, none⟩) n cap) ms) (hn : n = ms.length) (h0 : 0 < n) : ModAt w B (.slice (some ⟨g, 0, none⟩) (n - 1) cap) ms.dropLast := by
  subst hn
  obtain ⟨m, hm⟩ : ∃ m, ms.length = m + 1 := ⟨ms.length - 1, by omega⟩
  unfold ModAt at *
  rw [List.length_dropLast, hm, Nat.add_sub_cancel]
  refine ownsRow_pop (last := (ms.drop m).map (Value.int .i64)) (by rw [List.length_map, List.length_dropLast]; omega) ?_
  rw [List.dropLast_eq_take, hm, Nat.add_sub_cancel, ← List.map_append, List.take_append_drop, ← hm]
  exact h

/-- THE STATE: in world wr, w0 being the first one and B its heap's size. -/
def St (w0 wr : World) (U P : Nat) (cv : Value) (PS : List (List Int)) (mv : Value) (ms : List Int) : Prop :=
  w0.heap.size ≤ U ∧ w0.heap.size ≤ P ∧ UsedAt wr U ∧ HopAt wr P U cv ∧ ChosAt wr w0.heap.size mv.ownBlock cv PS ∧ ModAt wr w0.heap.size mv ms ∧ Below w0.heap.size w0 wr

/-- A change that writes at most the block 'row', which is none of the state's. -/
theorem St.grown {w0 wr w' : World} {U P : Nat} {cv : Value} {PS : List (List Int)} {mv : Value} {ms : List Int} {row : Option Nat} (h : St w0 wr U P cv PS mv ms) (hg : wr.grownBy w' row)
    (hr : row = none) : St w0 w' U P cv PS mv ms := by
  subst hr
  obtain ⟨h1, h2, h3, h4, h5, h6, h7⟩ := h
  exact ⟨h1, h2, h3.grown hg (by simp), h4.grown hg (by simp), h5.grown hg (off_none _ _) (by cases cv.ownBlock <;> simp), World.ownsRow.kept h6 hg (by cases mv.ownBlock <;> simp), h7.grown hg h7.size (fun k hk => by cases hk)⟩
theorem St.later {w0 wr w' : World} {U P : Nat} {cv : Value} {PS : List (List Int)} {mv : Value} {ms : List Int} (h : St w0 wr U P cv PS mv ms) (hb : Below wr.heap.size wr w') : St w0 w' U P cv PS mv ms := h.grown (grown_of_below hb none) rfl

/-- A store into 'used'. -/
theorem St.used {w0 wr : World} {U P : Nat} {cv : Value} {PS : List (List Int)} {mv : Value} {ms : List Int} (h : St w0 wr U P cv PS mv ms) (j : Nat) (b : Bool) : St w0 (wr.setCell ⟨U, j, none⟩ (.bool b)) U P cv PS mv ms := by
  obtain ⟨h1, h2, h3, h4, h5, h6, h7⟩ := h
  obtain ⟨us, hu, _⟩ := id h3
  have hg := grown_setCell wr ⟨U, j, none⟩ (.bool b)
  have hUP : U ≠ P := fun e => by
    subst e
    unfold HopAt at h4
    rw [hu] at h4
    injection h4 with h4
    injection h4 with _ h4
    cases h4
  exact ⟨h1, h2, h3.set j b, h4.grown hg (by simpa using hUP), h5.grown hg (off_type hu (by decide)) (.inr (h5.ne hu (by decide))), World.ownsRow.kept h6 hg (.inr (h6.ne hu (by decide))), h7.setCell h1 _⟩

end Go.Proofs.Ybulkbnos
