/-
  (*hopPaths).choose: its walk.
-/
import Derived.Test.YbulkbnosState
namespace Go.Proofs.Ybulkbnos
open Go.RowKit Go.Shelf

theorem slice_of_own {w : World} {B : Nat} {e : TypeId} {v : Value} {n : Nat} {xs : List Value} (h : w.ownsRow B e 1 v (n + 1) xs) : ∃ g cap, v = .slice (some ⟨g, 0, none⟩) (n + 1) cap := by
  obtain ⟨_, ⟨_, hn⟩ | ⟨g, cap, _, hv, _⟩⟩ := h
  · omega
  · exact ⟨g, cap, hv⟩

/-- 'p.chosen = append(p.chosen, path)': the append has been made, from wx (a new row of one slice laid) to w2. -/
theorem St.push {w0 wx w2 : World} {U P : Nat} {cv cv' : Value} {PS : List (List Int)} {mv : Value} {ms : List Int} {xs : List Value} {v : Value} {l : List Int} (h : St w0 wx U P cv PS mv ms)
    (h1 : wx.ownsRow w0.heap.size 50 1 cv PS.length xs) (h2 : ∀ j, j < PS.length → ∃ v, xs[j]? = some v ∧ PathAt wx w0.heap.size mv.ownBlock v (PS.getD j [])) (hv : PathAt wx w0.heap.size mv.ownBlock v l)
    (ho : w2.ownsRow w0.heap.size 50 1 cv' (PS.length + 1) (xs ++ [v])) (hg : wx.grownBy w2 cv.ownBlock) :
    HopAt w2 P U cv ∧ St w0 (w2.setCell ⟨P, 6, none⟩ cv') U P cv' (PS ++ [l]) mv ms ∧ PathAt (w2.setCell ⟨P, 6, none⟩ cv') w0.heap.size mv.ownBlock v l := by
  obtain ⟨a1, a2, a3, a4, a5, a6, a7⟩ := h
  obtain ⟨us, hu, _⟩ := id a3
  have hP2 : HopAt w2 P U cv := a4.grown hg (a5.ne a4 (by decide))
  have hU2 : UsedAt w2 U := a3.grown hg (a5.ne hu (by decide))
  obtain ⟨us2, hu2, _⟩ := id hU2
  have hC2 : ChosAt w2 w0.heap.size mv.ownBlock cv' (PS ++ [l]) := ChosAt.push h1 h2 hv ho hg a5.off
  have hM2 : ModAt w2 w0.heap.size mv ms := World.ownsRow.kept a6 hg (by
    cases hm : mv.ownBlock with
    | none => exact .inl rfl
    | some b =>
      obtain ⟨cur, hc⟩ := a6.block b hm
      exact .inr (fun e => a5.ne hc (by decide) e.symm))
  have hb2 : Below w0.heap.size w0 w2 := a7.grown hg a7.size (fun k hk => by
    obtain ⟨xs', ⟨_, ⟨rfl, _⟩ | ⟨g, cap, cur, rfl, hB, _⟩⟩, _⟩ := a5
    · cases hk
    · injection hk with hk
      have hk' : g = k := hk
      omega)
  have hs := grown_setCell w2 ⟨P, 6, none⟩ cv'
  have hUP : P ≠ U := fun e => by
    subst e
    unfold HopAt at hP2
    rw [hu2] at hP2
    injection hP2 with h4
    injection h4 with _ h4
    cases h4
  have hoff : Off w2 mv.ownBlock (some P) := off_type hP2 (by decide)
  exact ⟨hP2, ⟨a1, a2, hU2.grown hs (by simpa using hUP), hP2.set cv', hC2.grown hs hoff (.inr (hC2.ne hP2 (by decide))), World.ownsRow.kept hM2 hs (.inr (hM2.ne hP2 (by decide))), hb2.setCell a2 _⟩,
    ((hv.grown hg a5.off).grown hs hoff)⟩

theorem St.push_all {w0 wx w2 : World} {U P : Nat} {cv cv' : Value} {PS : List (List Int)} {mv : Value} {ms : List Int} {xs : List Value} {v : Value} {l : List Int} {o : Obj} (h : St w0 wx U P cv PS mv ms)
    (h1 : wx.ownsRow w0.heap.size 50 1 cv PS.length xs) (h2 : ∀ j, j < PS.length → ∃ v, xs[j]? = some v ∧ PathAt wx w0.heap.size mv.ownBlock v (PS.getD j [])) (hv : PathAt wx w0.heap.size mv.ownBlock v l)
    (ho : w2.ownsRow w0.heap.size 50 1 cv' (PS.length + 1) (xs ++ [v])) (hg : (wx.alloc o).grownBy w2 cv.ownBlock) :
    HopAt w2 P U cv ∧ St w0 (w2.setCell ⟨P, 6, none⟩ cv') U P cv' (PS ++ [l]) mv ms ∧ PathAt (w2.setCell ⟨P, 6, none⟩ cv') w0.heap.size mv.ownBlock v l := by
  have hb := below_alloc wx o
  have hgn := grown_of_below hb none
  exact St.push (h.later hb) (h1.alloc o) (fun j hj => by obtain ⟨u, hu, hp⟩ := h2 j hj; exact ⟨u, hu, hp.grown hgn (off_none _ _)⟩) (hv.grown hgn (off_none _ _)) ho hg

set_option maxRecDepth 100000 in
set_option maxHeartbeats 2000000 in
theorem choose_any (w0 wr : World) (U P : Nat) (cv : Value) (PS : List (List Int)) (mv : Value) (ms : List Int) (hS : St w0 wr U P cv PS mv ms) (g n cap : Nat) (l : List Int) (hn : n = l.length) (hv : PathAt wr w0.heap.size mv.ownBlock (.slice (some ⟨g, 0, none⟩) n cap) l)
    (hl : n ≤ 1024) (hp : PS.length ≤ 1024) :
    Calls Yba.prog 12 #[.pointer (some ⟨P, 0, none⟩), .slice (some ⟨g, 0, none⟩) n cap] wr fun e w' => e = .returned (.tuple #[]) ∧ (∃ cv', St w0 w' U P cv' (PS ++ [l]) mv ms) ∧ PathAt w' w0.heap.size mv.ownBlock (.slice (some ⟨g, 0, none⟩) n cap) l := by
  obtain ⟨i1, hi1, hy0, hy1, hy2⟩ := info_parts Yba.info50
  have HS := Hid.of hS
  have HV := Hid.of hv
  have HN := Hid.of hn
  clear hS hv hn
  go_enter Yba.func12, Yba.ntmps12
  go_wp2_with fail
  go_loopw [8] (fun i wx => ∃ k : Nat, k ≤ n ∧ i = .int .i64 (k : Int) ∧ St w0 wx U P cv PS mv ms ∧ PathAt wx w0.heap.size mv.ownBlock (.slice (some ⟨g, 0, none⟩) n cap) l) (fun i _ => n - (intOf i).toNat)
  case atStart => exact ⟨0, by omega, rfl, HS.out, HV.out⟩
  case round =>
    obtain ⟨wx, rfl⟩ : ∃ wx : World, wx = wr := ⟨_, rfl⟩
    obtain ⟨k, hk, rfl, hS, hv⟩ := hrel
    have HSx := Hid.of hS
    have HVx := Hid.of hv
    clear hS hv
    by_cases hlt : k < n
    · have hlt' : (k : Int) < (n : Int) := by omega
      obtain ⟨c1, z0, z1⟩ := HVx.out.cell k (by rw [← HN.out]; exact hlt)
      obtain ⟨u, hu⟩ : ∃ u : Nat, l.getD k 0 = (u : Int) := ⟨(l.getD k 0).toNat, by omega⟩
      rw [hu] at c1 z1
      have hu16 : u < 16 := by omega
      have hu16' : (u : Int) < 16 := by omega
      obtain ⟨⟨b, c2⟩, f2⟩ := HSx.out.2.2.1.spot u hu16
      have c3 := HSx.out.2.2.2.1.cells.1
      have HU := Hid.of HSx.out.2.2.1
      clear z0 hu
      go_wp2_with fail
      go_roundw
      case rel => exact ⟨k + 1, by omega, by go_num, HSx.out.used u true, by
        obtain ⟨us, hus, _⟩ := HU.out
        exact HVx.out.grown (grown_setCell wx ⟨U, u, none⟩ (.bool true)) (off_type hus (by decide))⟩
      case measure => simp [intOf]; omega
    · have hlt' : ¬ (k : Int) < (n : Int) := by omega
      have c6 := HSx.out.2.2.2.1.cells.2.1
      obtain ⟨xs, ho, hxs⟩ := HSx.out.2.2.2.2.1
      have HO := fun o => Hid.of (ho.alloc o)
      have HX := Hid.of hxs
      have hsz : w0.heap.size ≤ wx.heap.size := HSx.out.2.2.2.2.2.2.size
      have HR := Hid.of ho
      clear ho hxs
      go_wp2_with (at_builtin; refine wpList_append_own _ rfl (.tmp 23) (.tmp 25) 32 rfl w0.heap.size 50 i1 (.slice none 0 0) 1 24 Yba.underlying32 hi1 hy0 hy1 hy2 rfl (by decide) cv PS.length xs rfl (HO _).out ⟨wx.heap.size, 0, none⟩ 1 1 [.slice (some ⟨g, 0, none⟩) n cap] rfl rfl (cell_one_new _ _ _) (by intro u hu; simp at hu; subst hu; rfl) (by unfold maxLen; omega) (by omega) (by simp; omega) ?_; intro cv' w2 hown2 hgrow2 hiff; clear hiff; have HA := Hid.of (St.push_all HSx.out HR.out HX.out HVx.out hown2 hgrow2); have hex := slice_of_own hown2; have d6 := HA.out.1.cells.2.1; have f6 := HA.out.1.cells.2.2; clear hown2 hgrow2; obtain ⟨g2, cap2, hcv⟩ := hex; rw [hcv]; have HCV := Hid.of hcv; clear hcv)
      go_end0
      rw [← HCV.out]
      exact ⟨rfl, ⟨cv', HA.out.2.1⟩, HA.out.2.2⟩

end Go.Proofs.Ybulkbnos
