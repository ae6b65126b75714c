/-
  zzs3213asum: the plain model: what it sums.
-/
import Derived.Test.YbulkbnncTcp
namespace Go.Proofs.Ybulkbnnc
open Go.RowKit Go.Shelf

theorem W_take_two (l : List Int) (k : Nat) (h : 2 * k + 2 ≤ l.length) : M.W (l.take (2 * k + 2)) = M.W (l.take (2 * k)) + (l.getD (2 * k) 0 * 256 + l.getD (2 * k + 1) 0) := by
  have e : l.take (2 * k + 2) = l.take (2 * k) ++ [l.getD (2 * k) 0, l.getD (2 * k + 1) 0] := by
    show l.take (2 * k + 1 + 1) = _
    rw [List.take_succ_eq_append_getElem (show 2 * k + 1 < l.length by omega), List.take_succ_eq_append_getElem (show 2 * k < l.length by omega)]
    rw [List.getD_eq_getElem?_getD, List.getD_eq_getElem?_getD, List.getElem?_eq_getElem (show 2 * k < l.length by omega), List.getElem?_eq_getElem (show 2 * k + 1 < l.length by omega)]
    simp only [Option.getD_some, List.append_assoc, List.cons_append, List.nil_append]
  rw [e, M.W_append _ _ (by rw [List.length_take]; omega)]
  simp [M.W]

theorem W_take_one (l : List Int) (k : Nat) (h : 2 * k + 1 = l.length) : M.W (l.take (2 * k + 2)) = M.W (l.take (2 * k)) + l.getD (2 * k) 0 * 256 := by
  have e : l.take (2 * k + 2) = l.take (2 * k) ++ [l.getD (2 * k) 0] := by
    rw [List.take_of_length_le (by omega)]
    have := List.take_succ_eq_append_getElem (l := l) (i := 2 * k) (by omega)
    rw [h, List.take_length] at this
    simp [List.getD_eq_getElem?_getD, List.getElem?_eq_getElem (show 2 * k < l.length by omega), ← this]
  rw [e, M.W_append _ _ (by rw [List.length_take]; omega)]
  simp [M.W]

/-- The checksum's own word. -/
def own16 (t : List Int) : Int := t.getD 16 0 * 256 + t.getD 17 0

/-- After k rounds over the segment 't' the sum is S. -/
def Acc (t : List Int) (skip : Bool) (S0 : Int) (k : Nat) (S : Int) : Prop :=
  S = S0 + M.W (t.take (2 * k)) - (if skip && decide (16 < 2 * k) then own16 t else 0)

theorem Acc.start (t : List Int) (skip : Bool) (S0 : Int) : Acc t skip S0 0 S0 := by simp [Acc, M.W]

theorem Acc.range {t : List Int} {skip : Bool} {S0 S : Int} {k : Nat} (h : Acc t skip S0 k S) (ht : M.Oct t) (hl : 18 ≤ t.length) (h0 : 0 ≤ S0) : 0 ≤ S ∧ S ≤ S0 + 65535 * t.length := by
  have g16 := ht.get 16
  have g17 := ht.get 17
  have n0 := M.W_nonneg _ (ht.take (2 * k))
  have n1 := M.W_le _ (ht.take (2 * k))
  have n2 : (t.take (2 * k)).length ≤ t.length := by rw [List.length_take]; omega
  unfold Acc at h
  by_cases hk : skip && decide (16 < 2 * k)
  · rw [if_pos hk] at h
    have hk2 : 16 < 2 * k := by simp at hk; omega
    have e := M.W_split (t.take (2 * k)) 16 (by omega) (by rw [List.length_take]; omega)
    have e2 := M.W_two ((t.take (2 * k)).drop 16) (by rw [List.length_drop, List.length_take]; omega)
    have n3 := M.W_nonneg _ (((ht.take (2 * k)).drop 16).drop 2)
    have n4 := M.W_nonneg _ ((ht.take (2 * k)).take 16)
    have e3 : ((t.take (2 * k)).drop 16).getD 0 0 = t.getD 16 0 := by
      rw [List.getD_eq_getElem?_getD, List.getD_eq_getElem?_getD, List.getElem?_drop, List.getElem?_take, if_pos (by omega)]
    have e4 : ((t.take (2 * k)).drop 16).getD 1 0 = t.getD 17 0 := by
      rw [List.getD_eq_getElem?_getD, List.getD_eq_getElem?_getD, List.getElem?_drop, List.getElem?_take, if_pos (by omega)]
    unfold own16 at h
    rw [e3, e4] at e2
    omega
  · rw [if_neg hk] at h
    omega

theorem Acc.skips {t : List Int} {S0 S : Int} {k : Nat} (h : Acc t true S0 k S) (hk : 2 * k = 16) (hl : 18 ≤ t.length) : Acc t true S0 (k + 1) S := by
  obtain rfl : k = 8 := by omega
  have e : M.W (t.take (2 * 8 + 2)) = M.W (t.take (2 * 8)) + (t.getD 16 0 * 256 + t.getD 17 0) := W_take_two t 8 (by omega)
  unfold Acc at *
  rw [if_neg (by simp)] at h
  rw [if_pos (by simp)]
  unfold own16
  have e2 : (2 * (8 + 1) : Nat) = 2 * 8 + 2 := by omega
  rw [e2, e]
  omega

theorem Acc.two {t : List Int} {skip : Bool} {S0 S : Int} {k : Nat} (h : Acc t skip S0 k S) (hk : skip = true → ¬ 2 * k = 16) (hl : 2 * k + 1 < t.length) : Acc t skip S0 (k + 1) (S + (t.getD (2 * k) 0 * 256 + t.getD (2 * k + 1) 0)) := by
  have e := W_take_two t k (by omega)
  have e1 : (skip && decide (16 < 2 * (k + 1))) = (skip && decide (16 < 2 * k)) := by
    cases skip
    · rfl
    · have := hk rfl
      simp only [Bool.true_and]
      by_cases h' : 16 < 2 * k
      · rw [decide_eq_true h', decide_eq_true (by omega)]
      · rw [decide_eq_false h', decide_eq_false (by omega)]
  unfold Acc at *
  rw [e1, show 2 * (k + 1) = 2 * k + 2 from by omega, e]
  omega

theorem Acc.one {t : List Int} {skip : Bool} {S0 S : Int} {k : Nat} (h : Acc t skip S0 k S) (hk : ¬ 2 * k = 16) (hl : 2 * k + 1 = t.length) : Acc t skip S0 (k + 1) (S + t.getD (2 * k) 0 * 256) := by
  have e := W_take_one t k (by omega)
  have e1 : decide (16 < 2 * (k + 1)) = decide (16 < 2 * k) := by
    by_cases h' : 16 < 2 * k
    · rw [decide_eq_true h', decide_eq_true (by omega)]
    · rw [decide_eq_false h', decide_eq_false (by omega)]
  unfold Acc at *
  rw [e1, show 2 * (k + 1) = 2 * k + 2 from by omega, e]
  omega

theorem Acc.done {t : List Int} {skip : Bool} {S0 S : Int} {k : Nat} (h : Acc t skip S0 k S) (hl : 18 ≤ t.length) (hk : t.length ≤ 2 * k) : S = S0 + M.W (t.take 16) + M.W (t.drop 18) + (if skip then 0 else own16 t) := by
  have e := M.W_split t 16 (by omega) (by omega)
  have e2 := M.W_two (t.drop 16) (by rw [List.length_drop]; omega)
  have e3 : (t.drop 16).getD 0 0 = t.getD 16 0 := by rw [List.getD_eq_getElem?_getD, List.getD_eq_getElem?_getD, List.getElem?_drop]
  have e4 : (t.drop 16).getD 1 0 = t.getD 17 0 := by rw [List.getD_eq_getElem?_getD, List.getD_eq_getElem?_getD, List.getElem?_drop]
  rw [e3, e4, List.drop_drop, show 16 + 2 = 18 from rfl] at e2
  unfold Acc at h
  rw [List.take_of_length_le hk] at h
  cases skip
  · simp only [Bool.false_and] at h
    rw [if_neg (by simp)] at h
    rw [if_neg (by simp)]
    unfold own16
    omega
  · rw [if_pos (by simp; omega)] at h
    rw [if_pos rfl]
    unfold own16 at h
    omega

end Go.Proofs.Ybulkbnnc
