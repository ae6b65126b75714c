/-
  LawS3216CFirsts: its walk.
-/
import Derived.Test.YbulkbnosStarts
namespace Go.Proofs.Ybulkbnos
open Go.RowKit Go.Shelf

/-- The rows that came in: 'RS', a slice each. -/
def RowsIn (w : World) (ao : Option Addr) (RS : List (List Int)) : Prop :=
  ∀ r, r < RS.length → ∃ g o A C, ao = some ⟨g, o, none⟩ ∧ w.cell? ⟨g, o + r, none⟩ = some (.slice A (RS.getD r []).length C) ∧
    (0 < (RS.getD r []).length → ∃ g' o', A = some ⟨g', o', none⟩ ∧ ∀ i, i < (RS.getD r []).length → w.cell? ⟨g', o' + i, none⟩ = some (.int .i64 ((RS.getD r []).getD i 0)))

/-- The rows that are not empty, of the first k. -/
def NE (RS : List (List Int)) (k : Nat) : List (List Int) := (RS.take k).filter fun l => decide (0 < l.length)

theorem take_one {RS : List (List Int)} {k : Nat} (h : k < RS.length) : RS.take (k + 1) = RS.take k ++ [RS.getD k []] := by
  rw [List.take_succ_eq_append_getElem h, List.getD_eq_getElem?_getD, List.getElem?_eq_getElem h]; rfl
theorem NE_empty {RS : List (List Int)} {k : Nat} (h : k < RS.length) (h0 : (RS.getD k []).length = 0) : NE RS (k + 1) = NE RS k := by
  unfold NE
  rw [take_one h, List.filter_append, List.filter_cons, if_neg (by rw [h0]; decide), List.filter_nil, List.append_nil]
theorem NE_row {RS : List (List Int)} {k : Nat} (h : k < RS.length) (h0 : 0 < (RS.getD k []).length) : NE RS (k + 1) = NE RS k ++ [RS.getD k []] := by
  unfold NE
  rw [take_one h, List.filter_append, List.filter_cons, if_pos (decide_eq_true h0), List.filter_nil]
theorem NE_le (RS : List (List Int)) (k : Nat) : (NE RS k).length ≤ k := by
  unfold NE
  have := List.length_filter_le (fun l : List Int => decide (0 < l.length)) (RS.take k)
  have := List.length_take_le k RS
  omega
theorem NE_le' (RS : List (List Int)) (k : Nat) : (NE RS k).length ≤ RS.length := by
  unfold NE
  have := List.length_filter_le (fun l : List Int => decide (0 < l.length)) (RS.take k)
  have := List.length_take_le' k RS
  omega
/-- All of them begin as the first do. -/
theorem NE_prefix (RS : List (List Int)) (k : Nat) : ∃ r, NE RS RS.length = NE RS k ++ r := by
  unfold NE
  refine ⟨(RS.drop k).filter fun l => decide (0 < l.length), ?_⟩
  rw [← List.filter_append, List.take_append_drop, List.take_length]
theorem NE_at {RS : List (List Int)} {k : Nat} (h : k < RS.length) (h0 : 0 < (RS.getD k []).length) : (NE RS k).length < (NE RS RS.length).length ∧ (NE RS RS.length).getD (NE RS k).length [] = RS.getD k [] := by
  obtain ⟨r, hr⟩ := NE_prefix RS (k + 1)
  rw [NE_row h h0] at hr
  rw [hr]
  constructor
  · simp
  · rw [List.getD_eq_getElem?_getD, List.getElem?_append_left (by simp), List.getElem?_append_right (by omega)]
    simp

/-- What is owned stays owned where nothing old has turned. -/
theorem ownsRow_later {w w' : World} {base : Nat} {e : TypeId} {size n : Nat} {v : Value} {xs : List Value} (h : w.ownsRow base e size v n xs) (hb : Below w.heap.size w w') : w'.ownsRow base e size v n xs := by
  obtain ⟨hl, h1 | ⟨g, cap, cur, hv, hB, hh, h2⟩⟩ := h
  · exact ⟨hl, .inl h1⟩
  · have hg : g < w.heap.size := by
      by_cases hg : g < w.heap.size
      · exact hg
      · rw [Array.getElem?_eq_none (by omega)] at hh; cases hh
    exact ⟨hl, .inr ⟨g, cap, cur, hv, hB, (hb.block g hg).trans hh, h2⟩⟩

/-- A path in a row of its own. -/
def Path (w : World) (B : Nat) (v : Value) (l : List Int) : Prop :=
  ∃ g cap, v = .slice (some ⟨g, 0, none⟩) l.length cap ∧ B < g ∧ 0 < l.length ∧ ∀ i, i < l.length → w.cell? ⟨g, i, none⟩ = some (.int .i64 (l.getD i 0))

theorem lt_of_cell {w : World} {a : Addr} {v : Value} (h : w.cell? a = some v) : a.block < w.heap.size := by
  by_cases hg : a.block < w.heap.size
  · exact hg
  · unfold World.cell? at h
    rw [Array.getElem?_eq_none (by omega)] at h; cases h

theorem Path.later {w w' : World} {B : Nat} {v : Value} {l : List Int} (h : Path w B v l) (hb : Below w.heap.size w w') : Path w' B v l := by
  obtain ⟨g, cap, e, h1, h2, h3⟩ := h
  exact ⟨g, cap, e, h1, h2, fun i hi => cell_later hb (h3 i hi)⟩
theorem Path.grown {w w' : World} {B : Nat} {v : Value} {l : List Int} (h : Path w B v l) (hg : w.grownBy w' (some B)) : Path w' B v l := by
  obtain ⟨g, cap, e, h1, h2, h3⟩ := h
  exact ⟨g, cap, e, h1, h2, fun i hi => hg.cell (h3 i hi) (by simp; omega)⟩

/-- The slice of paths that the law gathers: its row is block B, of capacity n. -/
def Gath (w : World) (B n : Nat) (PS : List (List Int)) : Prop :=
  ∃ xs, w.ownsRow B 50 1 (.slice (some ⟨B, 0, none⟩) PS.length n) PS.length xs ∧ ∀ j, j < PS.length → ∃ v, xs[j]? = some v ∧ Path w B v (PS.getD j [])

theorem Gath.chos {w : World} {B n : Nat} {PS : List (List Int)} (h : Gath w B n PS) : Chos w (some ⟨B, 0, none⟩) PS := fun j hj => by
  obtain ⟨xs, ho, hx⟩ := h
  obtain ⟨v, hv, g, cap, rfl, _, h2, h3⟩ := hx j hj
  exact ⟨B, g, cap, rfl, (ho.cellAt j (by omega)).trans hv, h2, h3⟩

theorem Gath.later {w w' : World} {B n : Nat} {PS : List (List Int)} (h : Gath w B n PS) (hb : Below w.heap.size w w') : Gath w' B n PS := by
  obtain ⟨xs, ho, hx⟩ := h
  exact ⟨xs, ownsRow_later ho hb, fun j hj => by obtain ⟨v, hv, hp⟩ := hx j hj; exact ⟨v, hv, hp.later hb⟩⟩

/-- One path more. -/
theorem Gath.push {w w' : World} {B n : Nat} {PS : List (List Int)} {xs : List Value} {v : Value} {l : List Int} (hx : ∀ j, j < PS.length → ∃ v, xs[j]? = some v ∧ Path w B v (PS.getD j [])) (hl : xs.length = PS.length) (hv : Path w B v l)
    (ho : w'.ownsRow B 50 1 (.slice (some ⟨B, 0, none⟩) (PS.length + 1) n) (PS.length + 1) (xs ++ [v])) (hg : w.grownBy w' (some B)) : Gath w' B n (PS ++ [l]) := by
  refine ⟨xs ++ [v], by simpa using ho, fun j hj => ?_⟩
  simp at hj
  by_cases h : j < PS.length
  · obtain ⟨u, hu, hp⟩ := hx j h
    refine ⟨u, by rw [List.getElem?_append_left (by omega)]; exact hu, ?_⟩
    rw [List.getD_eq_getElem?_getD, List.getElem?_append_left h, ← List.getD_eq_getElem?_getD]
    exact hp.grown hg
  · obtain rfl : j = PS.length := by omega
    refine ⟨v, by rw [← hl]; simp, ?_⟩
    have : (PS ++ [l]).getD PS.length [] = l := by simp [List.getD_eq_getElem?_getD]
    rw [this]
    exact hv.grown hg

/-- slices.Clone of a row that is not empty. -/
theorem clone_row (w wx : World) (B g o n c : Nat) (l : List Int) (hn : n = l.length) (h0 : 0 < l.length) (hl : l.length ≤ 1024) (hc : ∀ i, i < l.length → w.cell? ⟨g, o + i, none⟩ = some (.int .i64 (l.getD i 0))) (hb : Below w.heap.size w wx) (hB : B < wx.heap.size) :
    Calls Yba.prog 9 #[.slice (some ⟨g, o, none⟩) n c] wx fun e w' => ∃ g' c', e = .returned (.slice (some ⟨g', 0, none⟩) n c') ∧ Path w' B (.slice (some ⟨g', 0, none⟩) n c') l ∧ Below wx.heap.size wx w' := by
  subst hn
  refine (Yba.slices_Clone_int g o l.length c l wx (Nat.le_refl _) (by omega) (fun j hj => cell_later hb (hc j hj))).mono fun e w' ⟨v', he, ho, hne, hb'⟩ => ?_
  have ho' := ho
  obtain ⟨_, ⟨rfl, _⟩ | ⟨g', cap, cur, rfl, hB', _⟩⟩ := ho
  · exact absurd rfl hne
  · refine ⟨g', cap, he, ⟨g', cap, rfl, by omega, h0, fun i hi => ?_⟩, hb'⟩
    rw [ho'.cellAt i (by omega), List.take_of_length_le (Nat.le_refl _), List.getElem?_map, List.getElem?_eq_getElem hi, List.getD_eq_getElem?_getD, List.getElem?_eq_getElem hi]
    rfl

theorem Gath.lt {w : World} {B n : Nat} {PS : List (List Int)} (h : Gath w B n PS) : B < w.heap.size := by
  obtain ⟨xs, ⟨_, ⟨hv, _⟩ | ⟨g, cap, cur, hv, _, hh, _⟩⟩, _⟩ := h
  · cases hv
  · injection hv with h1
    injection h1 with h1
    injection h1 with h1
    subst h1
    by_cases hg : B < w.heap.size
    · exact hg
    · rw [Array.getElem?_eq_none (by omega)] at hh; cases hh

theorem below_alloc (w : World) (o : Obj) : Below w.heap.size w (w.alloc o) := (Below.refl _ _).alloc (Nat.le_refl _) _

/-- One path more, as the law's text does it: the clone, a new row of one element, the append. -/
theorem gath_step {w wr w2 w3 : World} {B n m : Nat} {PS : List (List Int)} {xs : List Value} {v : Value} {l : List Int} {o : Obj} (hm : m = PS.length) (hl : xs.length = m * 1) (hx : ∀ j, j < PS.length → ∃ v, xs[j]? = some v ∧ Path wr B v (PS.getD j [])) (hb2 : Below wr.heap.size wr w2) (hp : Path w2 B v l)
    (ho : w3.ownsRow B 50 1 (.slice (some ⟨B, 0, none⟩) (m + 1) n) (m + 1) (xs ++ [v])) (hg : (w2.alloc o).grownBy w3 (some B)) (hB : B ≤ w2.heap.size) (hbw : Below B w w2) : Gath w3 B n (PS ++ [l]) ∧ Below B w w3 := by
  subst hm
  refine ⟨Gath.push (fun j hj => ?_) (by omega) (hp.later (below_alloc w2 o)) ho hg, (hbw.alloc hB o).grown hg (by simp; omega) (fun k hk => by injection hk with hk; omega)⟩
  obtain ⟨u, hu, hp'⟩ := hx j hj
  exact ⟨u, hu, (hp'.later hb2).later (below_alloc w2 o)⟩

theorem starts_m (w : World) (P cc m : Nat) (ca : Option Addr) (PS : List (List Int)) (hm : m = PS.length) (hp : w.cell? ⟨P, 6, none⟩ = some (.slice ca m cc)) (hch : Chos w ca PS) (hs : m ≤ 1024) :
    Calls Yba.prog 10 #[.pointer (some ⟨P, 0, none⟩)] w fun e w' => e = .returned (.slice (some ⟨w.heap.size, 0, none⟩) m m) ∧ IRow w' w.heap.size (firsts PS) ∧ Below w.heap.size w w' := by
  subst hm
  exact starts_any w P cc ca PS hp hch hs

theorem IRow.later {w w' : World} {S : Nat} {zs : List Int} (h : IRow w S zs) (hb : Below w.heap.size w w') : IRow w' S zs := ownsRow_later h hb

/-- slices.Equal of a path and the row it was cloned from. -/
theorem equal_true (wx : World) (g g' o' L c c' : Nat) (l : List Int) (hL : L = l.length) (hs : L ≤ 1024) (h1 : ∀ i, i < l.length → wx.cell? ⟨g, i, none⟩ = some (.int .i64 (l.getD i 0))) (h2 : ∀ i, i < l.length → wx.cell? ⟨g', o' + i, none⟩ = some (.int .i64 (l.getD i 0))) :
    Calls Yba.prog 11 #[.slice (some ⟨g, 0, none⟩) L c, .slice (some ⟨g', o', none⟩) L c'] wx fun e w' => e = .returned (.bool true) ∧ ∃ q, w' = wx.drewN q := by
  subst hL
  refine (Yba.slices_Equal_int g 0 l.length c g' o' l.length c' l l wx (Nat.le_refl _) (Nat.le_refl _) (by omega) (by omega) (fun j hj => by rw [Nat.zero_add]; exact h1 j hj) h2).mono fun e w' ⟨he, hw⟩ => ⟨?_, hw⟩
  rw [he]
  simp

/-- What the comparing round reads. -/
theorem third {w3 wr : World} {B S n m j r L : Nat} {PS RS : List (List Int)} (hG : Gath w3 B n PS) (hI : IRow w3 S (firsts PS)) (hPS : PS = NE RS RS.length) (hM : m = PS.length) (hb : Below w3.heap.size w3 wr) (hr : r < RS.length) (hL : L = (RS.getD r []).length) (h0 : 0 < L)
    (hj : j = (NE RS r).length) : j < m ∧ ∃ g2 cap, wr.cell? ⟨B, j, none⟩ = some (.slice (some ⟨g2, 0, none⟩) L cap) ∧ wr.cell? ⟨S, j, none⟩ = some (.int .i64 ((RS.getD r []).getD 0 0)) ∧
      Hid (∀ i, i < (RS.getD r []).length → wr.cell? ⟨g2, i, none⟩ = some (.int .i64 ((RS.getD r []).getD i 0))) := by
  rw [hL] at h0
  obtain ⟨h1, h2⟩ := NE_at hr h0
  rw [← hPS, ← hj] at h1 h2
  obtain ⟨cb, g2, cap, e, c1, _, c3⟩ := hG.chos j h1
  injection e with e
  injection e with e
  subst e
  rw [h2] at c1 c3
  refine ⟨by omega, g2, cap, by rw [hL]; exact cell_later hb c1, ?_, fun i hi => cell_later hb (c3 i hi)⟩
  have := cell_later hb (hI.at j (by rw [firsts, List.length_map]; exact h1))
  rw [firsts_getD, h2] at this
  exact this

theorem xor_one_mod (a : Nat) : (a ^^^ 1) % 2 = 1 - a % 2 := by
  have h := Nat.testBit_xor a 1 0
  rw [Nat.testBit_zero, Nat.testBit_zero, Nat.testBit_zero] at h
  rcases Nat.mod_two_eq_zero_or_one a with ha | ha <;> rcases Nat.mod_two_eq_zero_or_one (a ^^^ 1) with hb | hb <;> rw [ha, hb] at h <;> rw [ha, hb] <;> revert h <;> decide
theorem toNat_ofInt_mod (z : Int) : ((BitVec.ofInt 64 z).toNat : Int) = z % 18446744073709551616 := by
  rw [BitVec.toNat_ofInt]
  omega
/-- 'z ^ 1' is not z. -/
theorem xor_ne (z : Int) : (z == bits BinOp.xor IntKind.i64 z 1) = false := by
  rw [beq_eq_false_iff_ne]
  intro h
  have e : bits BinOp.xor IntKind.i64 z 1 = IntKind.i64.wrap (((BitVec.ofInt 64 z ^^^ BitVec.ofInt 64 1).toNat : Nat) : Int) := rfl
  have h1 : (BitVec.ofInt 64 1).toNat = 1 := by decide
  rw [e, BitVec.toNat_xor, h1, IntKind.wrap_i64] at h
  have h2 := xor_one_mod (BitVec.ofInt 64 z).toNat
  have h3 := toNat_ofInt_mod z
  omega

/-- A cell of another block behind a store. -/
theorem cell_other {w : World} {a b : Addr} {u v : Value} (h : w.cell? a = some u) (hne : a.block ≠ b.block) : (w.setCell b v).cell? a = some u := by
  have := (Below.heap_setCell w b v a.block hne)
  rw [World.cell?_of_block this]
  exact h

theorem RowsIn.at {w : World} {ao : Option Addr} {RS : List (List Int)} (h : RowsIn w ao RS) (r : Nat) (hr : r < RS.length) : ∃ g o A C L, ao = some ⟨g, o, none⟩ ∧ w.cell? ⟨g, o + r, none⟩ = some (.slice A L C) ∧ Hid (L = (RS.getD r []).length) ∧
    Hid (0 < L → ∃ g' o', A = some ⟨g', o', none⟩ ∧ ∀ i, i < (RS.getD r []).length → w.cell? ⟨g', o' + i, none⟩ = some (.int .i64 ((RS.getD r []).getD i 0))) := by
  obtain ⟨g, o, A, C, e, h1, h2⟩ := h r hr
  exact ⟨g, o, A, C, _, e, h1, rfl, h2⟩

set_option maxRecDepth 100000 in
set_option maxHeartbeats 2000000 in
theorem firsts_law (w : World) (ao : Option Addr) (n c : Nat) (RS : List (List Int)) (hR : RowsIn w ao RS) (hn : n = RS.length) (hm : n ≤ 9223372036854775807) :
    Calls Yba.prog 4 #[.slice ao n c] w fun e w' => e = .returned (.bool true) ∧ Below w.heap.size w w' := by
  have HR : Hid (RowsIn w ao RS) := hR
  have HN : Hid (n = RS.length) := hn
  clear hR hn
  obtain ⟨i1, hi1, hy0, hy1, hy2⟩ := info_parts Yba.info50
  by_cases hbig : 1024 < n
  · have hbig' : (1024 : Int) < (n : Int) := by omega
    go_enter Yba.func4, Yba.ntmps4
    go_wp2_with fail
    go_ret
    exact ⟨rfl, Below.refl _ _⟩
  have hbig' : ¬ (1024 : Int) < (n : Int) := by omega
  go_enter Yba.func4, Yba.ntmps4
  go_wp2_with fail
  go_loop [18] (fun i => ∃ k : Nat, k ≤ n ∧ i = .int .i64 (k : Int) ∧ ∀ r, r < k → (RS.getD r []).length ≤ 1024) (fun i => n - (intOf i).toNat)
  case atStart => exact ⟨0, by omega, rfl, fun r hr => absurd hr (by omega)⟩
  case round =>
    obtain ⟨k, hk, rfl, hsm⟩ := hrel
    have HS : Hid (∀ r, r < k → (RS.getD r []).length ≤ 1024) := hsm
    clear hsm
    by_cases hlt : k < n
    · have hlt' : (k : Int) < (n : Int) := by omega
      obtain ⟨g, o, A, C, L, rfl, c1, HL, _⟩ := HR.out.at k (by rw [← HN.out]; exact hlt)
      by_cases hL : 1024 < L
      · have hL' : (1024 : Int) < (L : Int) := by omega
        go_wp2_with fail
        go_ret
        exact ⟨rfl, Below.refl _ _⟩
      · have hL' : ¬ (1024 : Int) < (L : Int) := by omega
        go_wp2_with fail
        go_round
        case rel => exact ⟨k + 1, by omega, by go_num, fun r hr => by
          by_cases e : r = k
          · subst e; rw [← HL.out]; omega
          · exact HS.out r (by omega)⟩
        case measure => simp [intOf]; omega
    · have hlt' : ¬ (k : Int) < (n : Int) := by omega
      have HS' : Hid (∀ r, r < RS.length → (RS.getD r []).length ≤ 1024) := fun r hr => HS.out r (by rw [← HN.out] at hr; omega)
      clear HS
      go_wp2_with (at_make; refine wpList_make_own w rfl _ _ 32 rfl w.heap.size 50 i1 (.slice none 0 0) 1 Yba.underlying32 hi1 hy0 hy1 .i64 .i64 _ n rfl rfl rfl (by rw [hy2]; omega) (by unfold maxLen; omega) (Nat.le_refl _) ?_; intro w1 hown hgrow; have HG : Hid (Gath w1 w.heap.size n []) := ⟨[], hown, fun j hj => absurd hj (by simp)⟩; have hb1 : Below w.heap.size w w1 := (Below.refl _ _).grown hgrow (Nat.le_refl _) (fun _ h => by cases h); clear hown hgrow)
      go_loopw [5, 31] (fun ch i wr => ∃ (k m : Nat), k ≤ n ∧ i = .int .i64 (k : Int) ∧ m = (NE RS k).length ∧ ch = .slice (some ⟨w.heap.size, 0, none⟩) m n ∧ Gath wr w.heap.size n (NE RS k) ∧ Below w.heap.size w wr) (fun _ i _ => n - (intOf i).toNat)
      case atStart => exact ⟨0, 0, by omega, rfl, by simp [NE], rfl, by simpa [NE] using HG.out, hb1⟩
      case round =>
        clear HG hb1 hlt hlt' hk
        obtain ⟨k, m, hk, rfl, hmm, rfl, hG, hb⟩ := hrel
        have HG : Hid (Gath wr w.heap.size n (NE RS k)) := hG
        have HM : Hid (m = (NE RS k).length) := hmm
        have hmk : m ≤ k := by rw [hmm]; exact NE_le RS k
        have hBl := hG.lt
        clear hG hmm
        by_cases hlt : k < n
        · have hlt' : (k : Int) < (n : Int) := by omega
          obtain ⟨g, o, A, C, L, rfl, c1, HL, HA⟩ := HR.out.at k (by rw [← HN.out]; exact hlt)
          have d1 := cell_later hb c1
          by_cases hL : L = 0
          · have HL0 : Hid (L = 0) := hL
            have hL' : ((L : Int) == 0) = true := by simp; omega
            clear hL c1
            go_wp2_with fail
            go_roundw
            case rel => exact ⟨k + 1, m, by omega, by go_num, by rw [NE_empty (by rw [← HN.out]; exact hlt) (by rw [← HL.out, HL0.out])]; exact HM.out, rfl, by rw [NE_empty (by rw [← HN.out]; exact hlt) (by rw [← HL.out, HL0.out])]; exact HG.out, hb⟩
            case measure => simp [intOf]; omega
          · have hL' : ((L : Int) == 0) = false := by simp; omega
            obtain ⟨g', o', rfl, hc⟩ := HA.out (by omega)
            have HC : Hid (∀ i, i < (RS.getD k []).length → w.cell? ⟨g', o' + i, none⟩ = some (.int .i64 ((RS.getD k []).getD i 0))) := hc
            clear hc c1
            obtain ⟨xs, ho, hx⟩ := HG.out
            rw [← HM.out] at ho
            have HX : Hid (∀ j, j < (NE RS k).length → ∃ v, xs[j]? = some v ∧ Path wr w.heap.size v ((NE RS k).getD j [])) := hx
            have HO : Hid (wr.ownsRow w.heap.size 50 1 (.slice (some ⟨w.heap.size, 0, none⟩) m n) m xs) := ho
            clear ho hx
            go_wp2_with fail
            refine (clone_row w wr w.heap.size g' o' L C (RS.getD k []) HL.out (by rw [← HL.out]; omega) (HS'.out k (by rw [← HN.out]; exact hlt)) HC.out hb hBl).mono ?_
            rintro e w2 ⟨g2, c2, rfl, hp2, hb2⟩
            have HP2 := Hid.of hp2
            have HO2 := fun o => Hid.of ((ownsRow_later HO.out hb2).alloc o)
            have hs2 := hb2.size
            clear hp2
            go_wp2_with (at_builtin; refine wpList_append_fits _ rfl (.tmp 38) (.tmp 41) 32 rfl w.heap.size 50 i1 1 Yba.underlying32 hi1 hy1 w.heap.size m n xs rfl (HO2 _).out ⟨w2.heap.size, 0, none⟩ 1 1 [.slice (some ⟨g2, 0, none⟩) L c2] rfl rfl (cell_one_new _ _ _) (by intro u hu; simp at hu; subst hu; rfl) (by omega) ?_; intro w3 hown3 hgrow3)
            have hG3 := gath_step HM.out HO.out.1 HX.out hb2 HP2.out hown3 hgrow3 (by omega) (hb.trans (hb2.mono (by omega)))
            have HNE := Hid.of (NE_row (RS := RS) (k := k) (by rw [← HN.out]; exact hlt) (by rw [← HL.out]; omega))
            clear hown3 hgrow3
            go_roundw
            case rel => exact ⟨k + 1, m + 1, by omega, by go_num, by rw [HNE.out, List.length_append, ← HM.out]; rfl, rfl, by rw [HNE.out]; exact hG3.1, hG3.2⟩
            case measure => simp [intOf]; omega
        · have hlt' : ¬ (k : Int) < (n : Int) := by omega
          obtain ⟨PS, hPS⟩ : ∃ PS, PS = NE RS RS.length := ⟨_, rfl⟩
          have ek : NE RS k = PS := by rw [hPS, ← HN.out]; congr 1; omega
          rw [ek] at HG HM
          have HPS : Hid (PS = NE RS RS.length) := hPS
          have hm10 : m ≤ 1024 := by omega
          clear ek hPS hk hlt hmk
          go_wp2_with fail
          have HG2 := Hid.of (HG.out.later (below_alloc wr (.cells #[Value.pointer none, Value.int IntKind.i64 0, Value.pointer none, Value.pointer none, Value.slice none 0 0, Value.slice none 0 0, Value.slice (some ⟨w.heap.size, 0, none⟩) m n, Value.slice none 0 0, Value.slice none 0 0, Value.slice none 0 0, Value.slice none 0 0, Value.int IntKind.i32 0, Value.slice none 0 0, Value.bool false] 62)))
          have hp2 : (wr.alloc (.cells #[Value.pointer none, Value.int IntKind.i64 0, Value.pointer none, Value.pointer none, Value.slice none 0 0, Value.slice none 0 0, Value.slice (some ⟨w.heap.size, 0, none⟩) m n, Value.slice none 0 0, Value.slice none 0 0, Value.slice none 0 0, Value.slice none 0 0, Value.int IntKind.i32 0, Value.slice none 0 0, Value.bool false] 62)).cell? ⟨wr.heap.size, 6, none⟩ = some (.slice (some ⟨w.heap.size, 0, none⟩) m n) := by simp [go_sem]
          have hb2 : Below w.heap.size w (wr.alloc (.cells #[Value.pointer none, Value.int IntKind.i64 0, Value.pointer none, Value.pointer none, Value.slice none 0 0, Value.slice none 0 0, Value.slice (some ⟨w.heap.size, 0, none⟩) m n, Value.slice none 0 0, Value.slice none 0 0, Value.slice none 0 0, Value.slice none 0 0, Value.int IntKind.i32 0, Value.slice none 0 0, Value.bool false] 62)) := hb.alloc (Nat.le_of_lt hBl) _
          have hz2 : wr.heap.size < (wr.alloc (.cells #[Value.pointer none, Value.int IntKind.i64 0, Value.pointer none, Value.pointer none, Value.slice none 0 0, Value.slice none 0 0, Value.slice (some ⟨w.heap.size, 0, none⟩) m n, Value.slice none 0 0, Value.slice none 0 0, Value.slice none 0 0, Value.slice none 0 0, Value.int IntKind.i32 0, Value.slice none 0 0, Value.bool false] 62)).heap.size := by simp
          generalize wr.alloc (.cells #[Value.pointer none, Value.int IntKind.i64 0, Value.pointer none, Value.pointer none, Value.slice none 0 0, Value.slice none 0 0, Value.slice (some ⟨w.heap.size, 0, none⟩) m n, Value.slice none 0 0, Value.slice none 0 0, Value.slice none 0 0, Value.slice none 0 0, Value.int IntKind.i32 0, Value.slice none 0 0, Value.bool false] 62) = w2 at *
          refine (starts_m w2 wr.heap.size n m _ PS HM.out hp2 HG2.out.chos hm10).mono ?_
          rintro e w3 ⟨rfl, hrow, hb3⟩
          have HRow := Hid.of hrow
          have HG3 := Hid.of (HG2.out.later hb3)
          have hp3 := cell_later hb3 hp2
          have hb3' : Below w.heap.size w w3 := hb2.trans (hb3.mono (by omega))
          have hz3 := hb3.size
          clear hrow hp2 hb2 HG
          go_wp2_with fail
          go_loopw [10, 66] (fun kk i wr => ∃ (r j : Nat), r ≤ n ∧ i = .int .i64 (r : Int) ∧ kk = .int .i64 (j : Int) ∧ j = (NE RS r).length ∧ Below w3.heap.size w3 wr) (fun _ i _ => n - (intOf i).toNat)
          case atStart => exact ⟨0, 0, by omega, rfl, rfl, by simp [NE], Below.refl _ _⟩
          case round =>
            obtain ⟨wo, rfl⟩ : ∃ wo : World, wo = wr := ⟨_, rfl⟩
            clear hlt'
            obtain ⟨r, j, hr, rfl, rfl, hj, hb4⟩ := hrel
            have HJ : Hid (j = (NE RS r).length) := hj
            have hjr : j ≤ r := by rw [hj]; exact NE_le RS r
            clear hj
            have hp4 := cell_later hb4 hp3
            by_cases hlt : r < n
            · have hlt' : (r : Int) < (n : Int) := by omega
              obtain ⟨g, o, A, C, L, rfl, c1, HL, HA⟩ := HR.out.at r (by rw [← HN.out]; exact hlt)
              have hb5 : Below w.heap.size w wo := hb3'.trans (hb4.mono (by omega))
              have d1 := cell_later hb5 c1
              by_cases hL : L = 0
              · have HL0 : Hid (L = 0) := hL
                have hL' : ((L : Int) == 0) = true := by simp; omega
                clear hL c1
                go_wp2_with fail
                go_roundw
                case rel => exact ⟨r + 1, j, by omega, by go_num, rfl, by rw [NE_empty (by rw [← HN.out]; exact hlt) (by rw [← HL.out, HL0.out])]; exact HJ.out, hb4⟩
                case measure => simp [intOf]; omega
              · have hL' : ((L : Int) == 0) = false := by simp; omega
                obtain ⟨g', o', rfl, hc⟩ := HA.out (by omega)
                obtain ⟨hjm, g2, cap, e1, e2, HE⟩ := third HG3.out HRow.out HPS.out HM.out hb4 (by rw [← HN.out]; exact hlt) HL.out (by omega) HJ.out
                have HC : Hid (∀ i, i < (RS.getD r []).length → wo.cell? ⟨g', o' + i, none⟩ = some (.int .i64 ((RS.getD r []).getD i 0))) := fun i hi => cell_later hb5 (hc i hi)
                have e3 := HC.out 0 (by rw [← HL.out]; omega)
                rw [Nat.add_zero] at e3
                have hLs : L ≤ 1024 := by rw [HL.out]; exact HS'.out r (by rw [← HN.out]; exact hlt)
                generalize (RS.getD r []).getD 0 0 = z at e2 e3
                have hjm' : (j : Int) < (m : Int) := by omega
                have hL0 : (0 : Int) < (L : Int) := by omega
                have HNE := Hid.of (NE_row (RS := RS) (k := r) (by rw [← HN.out]; exact hlt) (by rw [← HL.out]; omega))
                clear hc c1 HA
                go_wp2_with fail
                go_quiet ((go_at_call 11; refine Calls.quiet_of (equal_true _ g2 g' o' L cap C (RS.getD r []) HL.out hLs HE.out HC.out)))
                go_wp2_with fail
                go_roundw
                case rel => exact ⟨r + 1, j + 1, by omega, by go_num, by go_num, by rw [HNE.out, List.length_append, ← HJ.out]; rfl, below_drewN hb4 _⟩
                case measure => simp [intOf]; omega
            · have hlt' : ¬ (r : Int) < (n : Int) := by omega
              have hb5 : Below w.heap.size w wo := hb3'.trans (hb4.mono (by omega))
              by_cases hm0 : 0 < m
              · have hm0' : (0 : Int) < (m : Int) := by omega
                obtain ⟨cb, g2, L, cap, e0, c1, hL, c2⟩ := HG2.out.chos.at 0 (by rw [← HM.out]; exact hm0)
                injection e0 with e0
                injection e0 with e0
                subst e0
                have hg2 := lt_of_cell c2
                have c3 := HRow.out.at 0 (by rw [firsts, List.length_map, ← HM.out]; exact hm0)
                have fz : wo.frozen? ⟨w2.heap.size, 0, none⟩ = false := (HRow.out.later hb4).frozenAt 0
                generalize (firsts PS).getD 0 0 = z at c2 c3
                have d1 := cell_later hb4 (cell_later hb3 c1)
                have d2 := cell_later hb4 (cell_later hb3 c2)
                have d3 := cell_later hb4 c3
                have hx := xor_ne z
                have s1 : ∀ v, (wo.setCell ⟨w2.heap.size, 0, none⟩ v).cell? ⟨w.heap.size, 0, none⟩ = some (.slice (some ⟨g2, 0, none⟩) L cap) := fun v => cell_other d1 (by simp; omega)
                have s2 : ∀ v, (wo.setCell ⟨w2.heap.size, 0, none⟩ v).cell? ⟨g2, 0, none⟩ = some (.int .i64 z) := fun v => cell_other d2 (by simp at hg2 ⊢; omega)
                have s3 : ∀ v, (wo.setCell ⟨w2.heap.size, 0, none⟩ v).cell? ⟨wr.heap.size, 6, none⟩ = some (.slice (some ⟨w.heap.size, 0, none⟩) m n) := fun v => cell_other hp4 (by simp; omega)
                have s4 : ∀ v, (wo.setCell ⟨w2.heap.size, 0, none⟩ v).cell? ⟨w2.heap.size, 0, none⟩ = some v := fun v => World.cell?_setCell_same _ _ v d3
                have hL' : (0 : Int) < (L : Int) := by omega
                clear c1 c2 c3 hg2 d1 d2
                go_wp2_with fail
                go_quiet (fail)
                go_wp2_with fail
                go_ret
                exact ⟨rfl, below_drewN (hb5.setCell (by simp; omega) _) _⟩
              · have hm0' : ¬ (0 : Int) < (m : Int) := by omega
                go_wp2_with fail
                go_ret
                exact ⟨rfl, hb5⟩

end Go.Proofs.Ybulkbnos
