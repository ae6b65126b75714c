/-
  (*hopPaths).starts: the first nodes of the paths chosen.
-/
import Derived.Test.YbulkbnosRows
import Derived.Test.YbulkbnosShelf
import Derived.WalkKit
import Derived.WalkSpells
import Derived.WalkLawsBesides
import Derived.Deep.QuietTactic
import Derived.BigQuiet
import Derived.Deep.RegionHeld3
namespace Go.Proofs.Ybulkbnos
open Go.RowKit Go.Shelf

theorem Yba.info3 : (Yba.prog.info? 3).map (fun i => (i.zero, i.size, i.bytes)) = some (some (.int .i64 0), 1, 8) := by kernel_rfl
theorem Yba.info50 : (Yba.prog.info? 50).map (fun i => (i.zero, i.size, i.bytes)) = some (some (.slice none 0 0), 1, 24) := by kernel_rfl

theorem Hid.of {p : Prop} (h : p) : Hid p := h

/-- The paths PS lie in the row cb, each in a row of its own. -/
def Chos (w : World) (ca : Option Addr) (PS : List (List Int)) : Prop :=
  ∀ j, j < PS.length → ∃ cb g cap, ca = some ⟨cb, 0, none⟩ ∧ w.cell? ⟨cb, j, none⟩ = some (.slice (some ⟨g, 0, none⟩) (PS.getD j []).length cap) ∧ 0 < (PS.getD j []).length ∧
    ∀ i, i < (PS.getD j []).length → w.cell? ⟨g, i, none⟩ = some (.int .i64 ((PS.getD j []).getD i 0))

theorem Chos.later {w w' : World} {ca : Option Addr} {PS : List (List Int)} (h : Chos w ca PS) (hb : Below w.heap.size w w') : Chos w' ca PS := fun j hj => by
  obtain ⟨cb, g, cap, e, h1, h2, h3⟩ := h j hj
  exact ⟨cb, g, cap, e, cell_later hb h1, h2, fun i hi => cell_later hb (h3 i hi)⟩

/-- The first nodes. -/
def firsts (PS : List (List Int)) : List Int := PS.map fun l => l.getD 0 0

theorem firsts_getD (PS : List (List Int)) (j : Nat) : (firsts PS).getD j 0 = (PS.getD j []).getD 0 0 := by
  unfold firsts
  rw [List.getD_eq_getElem?_getD, List.getElem?_map, List.getD_eq_getElem?_getD (l := PS)]
  cases PS[j]? <;> rfl

theorem Chos.at {w : World} {ca : Option Addr} {PS : List (List Int)} (h : Chos w ca PS) (j : Nat) (hj : j < PS.length) : ∃ cb g n cap, ca = some ⟨cb, 0, none⟩ ∧ w.cell? ⟨cb, j, none⟩ = some (.slice (some ⟨g, 0, none⟩) n cap) ∧ 0 < n ∧
    w.cell? ⟨g, 0, none⟩ = some (.int .i64 ((firsts PS).getD j 0)) := by
  obtain ⟨cb, g, cap, e, h1, h2, h3⟩ := h j hj
  exact ⟨cb, g, _, cap, e, h1, h2, by rw [firsts_getD]; exact h3 0 h2⟩

/-- A row of numbers of the call's own, known whole, at the head of block S. -/
def IRow (w : World) (S : Nat) (zs : List Int) : Prop := w.ownsRow S 3 1 (.slice (some ⟨S, 0, none⟩) zs.length zs.length) zs.length (zs.map (Value.int .i64))

theorem IRow.at {w : World} {S : Nat} {zs : List Int} (h : IRow w S zs) (j : Nat) (hj : j < zs.length) : w.cell? ⟨S, j, none⟩ = some (.int .i64 (zs.getD j 0)) := by
  have := h.cellAt j (by omega)
  rw [this, List.getElem?_map, List.getElem?_eq_getElem hj, List.getD_eq_getElem?_getD, List.getElem?_eq_getElem hj]
  rfl
theorem IRow.set {w : World} {S : Nat} {zs : List Int} (h : IRow w S zs) (j : Nat) (z : Int) : IRow (w.setCell ⟨S, j, none⟩ (.int .i64 z)) S (zs.set j z) := by
  unfold IRow
  rw [List.length_set, List.map_set]
  exact (h.stored j _).1
theorem irow_made {w : World} {S n : Nat} (h : w.ownsRow S 3 1 (.slice (some ⟨S, 0, none⟩) n n) n (madeCells (Value.int .i64 0).cells (n * 1)).toList) : IRow w S (List.replicate n 0) := by
  unfold IRow
  rw [List.length_replicate, List.map_replicate]
  have e : (madeCells (Value.int .i64 0).cells (n * 1)).toList = List.replicate n (Value.int .i64 0) := by
    rw [Nat.mul_one]
    exact toList_madeCells_one _ _
  rw [← e]
  exact h

theorem getD_set_ne {l : List Int} {i j : Nat} {a : Int} (h : i ≠ j) : (l.set i a).getD j 0 = l.getD j 0 := by
  rw [List.getD_eq_getElem?_getD, List.getD_eq_getElem?_getD, List.getElem?_set_ne h]
theorem getD_set_self {l : List Int} {i : Nat} {a : Int} (h : i < l.length) : (l.set i a).getD i 0 = a := by
  rw [List.getD_eq_getElem?_getD, List.getElem?_set_self h]; rfl
theorem filled {zs fs : List Int} {k : Nat} (h : ∀ j, j < k → zs.getD j 0 = fs.getD j 0) (hk : k < zs.length) : ∀ j, j < k + 1 → (zs.set k (fs.getD k 0)).getD j 0 = fs.getD j 0 := fun j hj => by
  by_cases e : k = j
  · subst e; rw [getD_set_self hk]
  · rw [getD_set_ne e]; exact h j (by omega)
theorem filled_all {zs fs : List Int} {k : Nat} (h : ∀ j, j < k → zs.getD j 0 = fs.getD j 0) (h1 : zs.length ≤ k) (h2 : zs.length = fs.length) : zs = fs := by
  apply List.ext_getElem h2
  intro i hi1 hi2
  have := h i (by omega)
  rwa [List.getD_eq_getElem?_getD, List.getD_eq_getElem?_getD, List.getElem?_eq_getElem hi1, List.getElem?_eq_getElem hi2] at this

set_option maxHeartbeats 1000000 in
theorem starts_any (w : World) (P cc : Nat) (ca : Option Addr) (PS : List (List Int)) (hp : w.cell? ⟨P, 6, none⟩ = some (.slice ca PS.length cc)) (hch : Chos w ca PS) (hm : PS.length ≤ 1024) :
    Calls Yba.prog 10 #[.pointer (some ⟨P, 0, none⟩)] w fun e w' => e = .returned (.slice (some ⟨w.heap.size, 0, none⟩) PS.length PS.length) ∧ IRow w' w.heap.size (firsts PS) ∧ Below w.heap.size w w' := by
  obtain ⟨i0, hi, hz0, hz1, hz2⟩ := info_parts Yba.info3
  have HC : Hid (Chos w ca PS) := hch
  clear hch
  go_enter Yba.func10, Yba.ntmps10
  go_wp2_with (first | (at_make; refine wpList_make_full w rfl _ _ 50 rfl w.heap.size 3 i0 (.int .i64 0) 1 Yba.underlying50 hi hz0 hz1 .i64 .i64 _ _ PS.length rfl rfl rfl rfl (by rw [hz2]; omega) (by unfold maxLen; omega) (Nat.le_refl _) ?_; intro w1 hown hgrow; have HR : Hid (IRow w1 w.heap.size (List.replicate PS.length 0)) := irow_made hown; have hb1 : Below w.heap.size w w1 := (Below.refl _ _).grown hgrow (Nat.le_refl _) (fun _ h => by cases h); have hp1 := cell_later hb1 hp; clear hown hgrow))
  go_loopw [17] (fun i wr => ∃ (k : Nat) (zs : List Int), k ≤ PS.length ∧ i = .int .i64 (k : Int) ∧ zs.length = PS.length ∧ (∀ j, j < k → zs.getD j 0 = (firsts PS).getD j 0) ∧ IRow wr w.heap.size zs ∧ Below w.heap.size w wr) (fun i _ => PS.length - (intOf i).toNat)
  case atStart => exact ⟨0, List.replicate PS.length 0, by omega, rfl, List.length_replicate, fun j hj => absurd hj (by omega), HR.out, hb1⟩
  case round =>
    clear HR hp1 hb1
    obtain ⟨k, zs, hk, rfl, hzn, hpre, hrow, hb⟩ := hrel
    have HR : Hid (IRow wr w.heap.size zs) := hrow
    have HN : Hid (zs.length = PS.length) := hzn
    have HP : Hid (∀ j, j < k → zs.getD j 0 = (firsts PS).getD j 0) := hpre
    clear hrow hzn hpre
    by_cases hlt : k < PS.length
    · have hlt' : (k : Int) < (PS.length : Int) := by omega
      obtain ⟨cb, g, n, cap, rfl, c1, hn, c2⟩ := HC.out.at k hlt
      obtain ⟨x, hx⟩ : ∃ x, x = (firsts PS).getD k 0 := ⟨_, rfl⟩
      rw [← hx] at c2
      have HX : Hid (x = (firsts PS).getD k 0) := hx
      have d1 := cell_later hb c1
      have d2 := cell_later hb c2
      have fz : wr.frozen? ⟨w.heap.size, k, none⟩ = false := HR.out.frozenAt k
      obtain ⟨old, cold⟩ : ∃ old, wr.cell? ⟨w.heap.size, k, none⟩ = some (.int .i64 old) := ⟨_, HR.out.at k (by rw [HN.out]; exact hlt)⟩
      have hn' : (0 : Int) < (n : Int) := by omega
      clear c1 c2 hx
      go_wp2
      go_roundw
      case rel => exact ⟨k + 1, zs.set k x, by omega, by go_num, by rw [List.length_set]; exact HN.out, by rw [HX.out]; exact filled HP.out (by rw [HN.out]; exact hlt), HR.out.set k x, hb.setCell (Nat.le_refl _) _⟩
      case measure => simp [intOf]; omega
    · have hlt' : ¬ (k : Int) < (PS.length : Int) := by omega
      have HE : Hid (zs = firsts PS) := filled_all HP.out (by rw [HN.out]; omega) (by rw [HN.out, firsts, List.length_map])
      go_wp2
      go_ret
      exact ⟨rfl, by rw [← HE.out]; exact HR.out, hb⟩

end Go.Proofs.Ybulkbnos
