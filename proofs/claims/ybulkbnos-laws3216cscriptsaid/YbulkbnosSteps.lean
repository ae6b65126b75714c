/-
  The script's steps: what each leaves of the state. No Go text is walked here.
-/
import Derived.Test.YbulkbnosDrop
namespace Go.Proofs.Ybulkbnos
open Go.RowKit Go.Shelf

/-- Sixteen bools, none set. -/
def unused : Array Value := #[Value.bool false, Value.bool false, Value.bool false, Value.bool false, Value.bool false, Value.bool false, Value.bool false, Value.bool false, Value.bool false, Value.bool false, Value.bool false, Value.bool false, Value.bool false, Value.bool false, Value.bool false, Value.bool false]
theorem make_used (w : World) : (Instr.makeSlice 38 (.int .i64 16) (.int .i64 16)).run Yba.prog w = .ok (.slice (some ⟨w.heap.size, 0, none⟩) 16 16) (w.alloc (.cells unused 4)) := by kernel_rfl

theorem heap_alloc_self (w : World) (o : Obj) : (w.alloc o).heap[w.heap.size]? = some o := by
  show (w.heap.push o)[w.heap.size]? = _
  simp

/-- The state at the start. -/
theorem St.start {w0 wr : World} (hb : Below w0.heap.size w0 wr) :
    St w0 ((wr.alloc (.cells unused 4)).alloc (.cells (hop wr.heap.size (.slice none 0 0)) 62)) wr.heap.size (wr.heap.size + 1) (.slice none 0 0) [] (.slice none 0 0) [] := by
  have hs := hb.size
  have e1 : (wr.alloc (.cells unused 4)).heap.size = wr.heap.size + 1 := by simp
  have h1 := heap_alloc_self wr (.cells unused 4)
  have h2 := heap_alloc_self (wr.alloc (.cells unused 4)) (.cells (hop wr.heap.size (.slice none 0 0)) 62)
  rw [e1] at h2
  have h3 := grown_block (grown_of_below (below_alloc (wr.alloc (.cells unused 4)) (.cells (hop wr.heap.size (.slice none 0 0)) 62)) none) h1 (by simp)
  refine ⟨hs, by omega, ⟨unused, h3, rfl, fun i hi => ?_⟩, h2, ⟨[], World.ownsRow_nil _ _ _ _, fun j hj => absurd hj (by simp)⟩, World.ownsRow_nil _ _ _ _, (hb.alloc hs _).alloc (by omega) _⟩
  refine ⟨false, ?_⟩
  rcases (show i = 0 ∨ i = 1 ∨ i = 2 ∨ i = 3 ∨ i = 4 ∨ i = 5 ∨ i = 6 ∨ i = 7 ∨ i = 8 ∨ i = 9 ∨ i = 10 ∨ i = 11 ∨ i = 12 ∨ i = 13 ∨ i = 14 ∨ i = 15 from by omega) with rfl | rfl | rfl | rfl | rfl | rfl | rfl | rfl | rfl | rfl | rfl | rfl | rfl | rfl | rfl | rfl <;> rfl

theorem firsts_push (PS : List (List Int)) (l : List Int) : firsts (PS ++ [l]) = firsts PS ++ [l.getD 0 0] := by
  unfold firsts
  rw [List.map_append]; rfl
theorem firsts_pop (PS : List (List Int)) : firsts PS.dropLast = (firsts PS).dropLast := by
  unfold firsts
  rw [List.map_dropLast]

/-- What a slice of the call's own looks like. -/
theorem form_of_own {w : World} {B : Nat} {e : TypeId} {v : Value} {n : Nat} {xs : List Value} (h : w.ownsRow B e 1 v n xs) : ∃ ao cap, v = .slice ao n cap ∧ n ≤ cap ∧ (ao = none → n = 0 ∧ cap = 0) ∧ (∀ a, ao = some a → ∃ g, a = ⟨g, 0, none⟩) := by
  obtain ⟨_, ⟨rfl, rfl⟩ | ⟨g, cap, _, rfl, _, _, hc, _⟩⟩ := h
  · exact ⟨none, 0, rfl, by omega, fun _ => ⟨rfl, rfl⟩, fun a h => by cases h⟩
  · exact ⟨some ⟨g, 0, none⟩, cap, rfl, hc, fun h => by (cases h), fun a h => ⟨g, by injection h with h; exact h.symm⟩⟩

theorem own_base {w : World} {B B' : Nat} {e : TypeId} {size n : Nat} {v : Value} {xs : List Value} (h : w.ownsRow B e size v n xs) (hB : B' ≤ B) : w.ownsRow B' e size v n xs := by
  obtain ⟨hl, h1 | ⟨g, cap, cur, hv, hg, h2⟩⟩ := h
  · exact ⟨hl, .inl h1⟩
  · exact ⟨hl, .inr ⟨g, cap, cur, hv, by omega, h2⟩⟩

/-- The model appended to, within its capacity: its own block is written. -/
theorem St.model_fits {w0 wx w2 : World} {U P : Nat} {cv : Value} {PS : List (List Int)} {mg m cap cap' : Nat} {ms : List Int} {z : Int} {o : Obj} (h : St w0 wx U P cv PS (.slice (some ⟨mg, 0, none⟩) m cap) ms) (hm : m = ms.length)
    (ho : w2.ownsRow w0.heap.size 3 1 (.slice (some ⟨mg, 0, none⟩) (m + 1) cap') (m + 1) (ms.map (Value.int .i64) ++ [.int .i64 z])) (hg : (wx.alloc o).grownBy w2 (some mg)) :
    St w0 w2 U P cv PS (.slice (some ⟨mg, 0, none⟩) (m + 1) cap') (ms ++ [z]) := by
  obtain ⟨a1, a2, a3, a4, a5, a6, a7⟩ := h.later (below_alloc wx o)
  obtain ⟨us, hu, _⟩ := id a3
  refine ⟨a1, a2, a3.grown hg (a6.ne hu (by decide)), a4.grown hg (a6.ne a4 (by decide)), a5.grown hg (off_mb _ _) ?_, ?_, a7.grown hg a7.size (fun k hk => ?_)⟩
  · cases hc : cv.ownBlock with
    | none => exact .inl rfl
    | some b =>
      obtain ⟨cur, hcur⟩ := a5.block b hc
      exact .inr (fun e => a6.ne hcur (by decide) e.symm)
  · subst hm
    unfold ModAt
    rw [List.map_append, List.length_append]
    exact ho
  · injection hk with hk
    subst hk
    obtain ⟨_, ⟨hv, _⟩ | ⟨g, _, _, hv, hB, _⟩⟩ := a6
    · cases hv
    · injection hv with h1
      injection h1 with h1
      injection h1 with h1
      subst h1
      exact hB

/-- The model appended to where it must grow: it moves to a new block. -/
theorem St.model_grows {w0 wx w2 : World} {U P : Nat} {cv mv mv' : Value} {PS : List (List Int)} {m : Nat} {ms : List Int} {z : Int} {o : Obj} (h : St w0 wx U P cv PS mv ms) (hm : m = ms.length)
    (ho : w2.ownsRow (wx.alloc o).heap.size 3 1 mv' (m + 1) (ms.map (Value.int .i64) ++ [.int .i64 z])) (hg : (wx.alloc o).grownBy w2 none) :
    St w0 w2 U P cv PS mv' (ms ++ [z]) := by
  have h1 := h.later (below_alloc wx o)
  obtain ⟨a1, a2, a3, a4, a5, a6, a7⟩ := h1.grown hg rfl
  obtain ⟨_, _, _, _, b5, _, b7⟩ := h1
  have hbs := b7.size
  have hmv : ∃ b, mv'.ownBlock = some b ∧ (wx.alloc o).heap.size ≤ b := by
    obtain ⟨_, ⟨_, hn⟩ | ⟨g, _, _, rfl, hB, _⟩⟩ := ho
    · omega
    · exact ⟨g, rfl, hB⟩
  obtain ⟨b, hb, hB⟩ := hmv
  refine ⟨a1, a2, a3, a4, ?_, ?_, a7⟩
  · rw [hb]
    obtain ⟨xs, x1, x2⟩ := b5
    have hc : ChosAt (wx.alloc o) w0.heap.size (some b) cv PS := ⟨xs, x1, fun j hj => by obtain ⟨v, hv, hp⟩ := x2 j hj; exact ⟨v, hv, hp.moved b hB⟩⟩
    exact hc.grown hg (off_none _ _) (by cases cv.ownBlock <;> simp)
  · subst hm
    unfold ModAt
    rw [List.map_append, List.length_append]
    exact own_base ho (by omega)

/-- The model shortened by one. -/
theorem St.model_pop {w0 wx : World} {U P : Nat} {cv : Value} {PS : List (List Int)} {mg m cap : Nat} {ms : List Int} (h : St w0 wx U P cv PS (.slice (some ⟨mg, 0, none⟩) (m + 1) cap) ms) (hm : m + 1 = ms.length) :
    St w0 wx U P cv PS (.slice (some ⟨mg, 0, none⟩) m cap) ms.dropLast := by
  obtain ⟨a1, a2, a3, a4, a5, a6, a7⟩ := h
  have := a6.pop hm (by omega)
  rw [Nat.add_sub_cancel] at this
  exact ⟨a1, a2, a3, a4, a5, this, a7⟩

/-- A path in the making: L numbers from 0 to 15 in block g. -/
def Making (w : World) (B g L : Nat) (zs : List Int) : Prop := zs.length = L ∧ (∀ z ∈ zs, 0 ≤ z ∧ z ≤ 15) ∧ w.ownsRow B 3 1 (.slice (some ⟨g, 0, none⟩) L L) L (zs.map (Value.int .i64))
theorem Making.set {w : World} {B g L : Nat} {zs : List Int} (h : Making w B g L zs) (j : Nat) (z : Int) (hz : 0 ≤ z ∧ z ≤ 15) : Making (w.setCell ⟨g, j, none⟩ (.int .i64 z)) B g L (zs.set j z) := by
  refine ⟨by rw [List.length_set]; exact h.1, fun y hy => ?_, ?_⟩
  · rcases List.mem_or_eq_of_mem_set hy with h' | rfl
    · exact h.2.1 y h'
    · exact hz
  · rw [List.map_set]
    exact (h.2.2.stored j _).1
theorem Making.spot {w : World} {B g L : Nat} {zs : List Int} (h : Making w B g L zs) (j : Nat) (hj : j < L) : (∃ z : Int, w.cell? ⟨g, j, none⟩ = some (.int .i64 z)) ∧ w.frozen? ⟨g, j, none⟩ = false := by
  have hl := h.1
  refine ⟨⟨zs[j]'(by omega), ?_⟩, h.2.2.frozenAt j⟩
  rw [h.2.2.cellAt j (by omega), List.getElem?_map, List.getElem?_eq_getElem (by omega)]
  rfl
theorem making_made {w : World} {B g n : Nat} (h : w.ownsRow B 3 1 (.slice (some ⟨g, 0, none⟩) n n) n (madeCells (Value.int .i64 0).cells (n * 1)).toList) : Making w B g n (List.replicate n 0) := by
  refine ⟨List.length_replicate, fun z hz => by have := (List.mem_replicate.1 hz).2; omega, ?_⟩
  rw [List.map_replicate]
  have e : (madeCells (Value.int .i64 0).cells (n * 1)).toList = List.replicate n (Value.int .i64 0) := by
    rw [Nat.mul_one]
    exact toList_madeCells_one _ _
  rw [← e]
  exact h
theorem Making.path {w0 w1 wx : World} {U P : Nat} {cv mv : Value} {PS : List (List Int)} {ms : List Int} {g L : Nat} {zs : List Int} (h : Making wx w0.heap.size g L zs) (hL : 0 < L) (hs : St w0 w1 U P cv PS mv ms) (hg : w1.heap.size ≤ g) :
    PathAt wx w0.heap.size mv.ownBlock (.slice (some ⟨g, 0, none⟩) L L) zs := by
  obtain ⟨h1, h2, h3⟩ := h
  subst h1
  refine ⟨g, _, rfl, fun e => ?_, h3, hL, h2⟩
  obtain ⟨cur, hc⟩ := hs.2.2.2.2.2.1.block g e.symm
  have := lt_of_heap hc
  omega

/-- The step's variable laid, the path's row made. -/
theorem made_step {wr w2 : World} {B L : Nat} {a b : Value} (hown : w2.ownsRow B 3 1 (.slice (some ⟨(wr.alloc (.cells #[a, b] 69)).heap.size, 0, none⟩) L L) L (madeCells (Value.int .i64 0).cells (L * 1)).toList) (hg : (wr.alloc (.cells #[a, b] 69)).grownBy w2 none) :
    Making w2 B (wr.heap.size + 1) L (List.replicate L 0) ∧ Below wr.heap.size wr w2 ∧ w2.cell? ⟨wr.heap.size, 1, none⟩ = some b := by
  have e : (wr.alloc (.cells #[a, b] 69)).heap.size = wr.heap.size + 1 := by simp
  rw [e] at hown
  refine ⟨making_made hown, (below_alloc wr _).grown hg (by omega) (fun k hk => by cases hk), hg.cell ?_ (by simp)⟩
  simp [go_sem]

theorem addr_add (b o i : Nat) : (⟨b, o, none⟩ : Addr).add i = ⟨b, o + i, none⟩ := by unfold Addr.add; split <;> simp_all

/-- The model's elements, where they lie. -/
theorem mod_cells {w : World} {B : Nat} {ao : Option Addr} {m cap : Nat} {ms : List Int} (h : ModAt w B (.slice ao m cap) ms) (hm : m = ms.length) (o : Obj) : ∀ b, ao = some b → ∀ j u, (ms.map (Value.int .i64))[j]? = some u → (w.alloc o).cell? (b.add j) = some u := fun b hb j u hu => by
  subst hb; subst hm
  have h' := h
  obtain ⟨_, ⟨hv, _⟩ | ⟨g, cap', cur, hv, _⟩⟩ := h
  · cases hv
  · injection hv with h1
    injection h1 with h1
    subst h1
    rw [addr_add, Nat.zero_add]
    have hj : j < ms.length := by
      by_cases hj : j < ms.length
      · exact hj
      · rw [List.getElem?_eq_none (by rw [List.length_map]; omega)] at hu; cases hu
    exact cell_later (below_alloc w o) ((World.ownsRow.cellAt h' j (by omega)).trans hu)

theorem getD_push {PS : List (List Int)} {l : List Int} {n : Nat} (h : ∀ j, j < PS.length → (PS.getD j []).length ≤ n) (hl : l.length ≤ n) : ∀ j, j < (PS ++ [l]).length → ((PS ++ [l]).getD j []).length ≤ n := fun j hj => by
  rw [List.length_append] at hj
  by_cases e : j < PS.length
  · rw [List.getD_eq_getElem?_getD, List.getElem?_append_left e, ← List.getD_eq_getElem?_getD]; exact h j e
  · have : j = PS.length := by simp at hj; omega
    subst this
    rw [List.getD_eq_getElem?_getD, List.getElem?_append_right (by omega)]
    simpa using hl
theorem getD_pop {PS : List (List Int)} {n : Nat} (h : ∀ j, j < PS.length → (PS.getD j []).length ≤ n) : ∀ j, j < PS.dropLast.length → (PS.dropLast.getD j []).length ≤ n := fun j hj => by
  rw [List.length_dropLast] at hj
  rw [getD_dropLast _ _ hj]
  exact h j (by omega)

/-- 'chosen', as starts reads it. -/
theorem St.chos {w0 wr : World} {U P : Nat} {cv : Value} {PS : List (List Int)} {mv : Value} {ms : List Int} (h : St w0 wr U P cv PS mv ms) : ∃ ca cc, cv = .slice ca PS.length cc ∧ Chos wr ca PS := by
  obtain ⟨_, _, _, _, ⟨xs, ho, hx⟩, _, _⟩ := h
  obtain ⟨ca, cc, rfl, _, hn, hs⟩ := form_of_own ho
  refine ⟨ca, cc, rfl, fun j hj => ?_⟩
  obtain ⟨v, hv, hp⟩ := hx j hj
  obtain ⟨g, cap, rfl, h1, h2⟩ := hp.at
  cases hca : ca with
  | none => have := hn hca; omega
  | some a =>
    obtain ⟨cb, rfl⟩ := hs a hca
    subst hca
    exact ⟨cb, g, cap, rfl, (ho.cellAt j (by omega)).trans hv, h1, fun i hi => (h2 i hi).1⟩

/-- slices.Equal of the starts and the model. -/
theorem equal_model (wx : World) (S B L m mcap : Nat) (mo : Option Addr) (fs : List Int) (hL : L = fs.length) (hm : m = fs.length) (hs : L ≤ 1024) (h1 : IRow wx S fs) (h2 : ModAt wx B (.slice mo m mcap) fs) :
    Calls Yba.prog 11 #[.slice (some ⟨S, 0, none⟩) L L, .slice mo m mcap] wx fun e w' => e = .returned (.bool true) ∧ ∃ q, w' = wx.drewN q := by
  subst hL
  by_cases h0 : fs.length = 0
  · rw [h0] at hm ⊢
    subst hm
    refine (Yba.slices_Equal_int_empty (some ⟨S, 0, none⟩) mo 0 0 mcap wx (by omega)).mono fun e w' ⟨he, hw⟩ => ⟨by rw [he]; rfl, 0, by rw [hw]; rfl⟩
  · obtain ⟨mg, rfl⟩ : ∃ mg, mo = some ⟨mg, 0, none⟩ := by
      obtain ⟨_, ⟨hv, hn⟩ | ⟨g, cap, cur, hv, _⟩⟩ := id h2
      · omega
      · injection hv with h1
        exact ⟨g, h1⟩
    subst hm
    refine (Yba.slices_Equal_int S 0 fs.length fs.length mg 0 fs.length mcap fs fs wx (Nat.le_refl _) (Nat.le_refl _) (by omega) (by omega) (fun j hj => by rw [Nat.zero_add]; exact h1.at j hj) (fun j hj => ?_)).mono fun e w' ⟨he, hw⟩ => ⟨by rw [he]; simp, hw⟩
    rw [Nat.zero_add, World.ownsRow.cellAt h2 j (by omega), List.getElem?_map, List.getElem?_eq_getElem hj, List.getD_eq_getElem?_getD, List.getElem?_eq_getElem hj]
    rfl

end Go.Proofs.Ybulkbnos
