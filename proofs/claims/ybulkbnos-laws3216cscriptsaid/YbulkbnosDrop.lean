/-
  (*hopPaths).drop: its walk.
-/
import Derived.Test.YbulkbnosChoose
import Derived.RegionTactic
namespace Go.Proofs.Ybulkbnos
open Go.RowKit Go.Shelf

/-- 'chosen' holds something: its value, and its last path. -/
theorem St.last {w0 wr : World} {U P : Nat} {cv : Value} {PS : List (List Int)} {mv : Value} {ms : List Int} {j : Nat} (h : St w0 wr U P cv PS mv ms) (hj : PS.length = j + 1) :
    ∃ cg ccap g cap, cv = .slice (some ⟨cg, 0, none⟩) (j + 1) ccap ∧ 0 < ccap ∧ j + 1 ≤ ccap ∧ wr.cell? ⟨cg, j, none⟩ = some (.slice (some ⟨g, 0, none⟩) (PS.getD j []).length cap) ∧ PathAt wr w0.heap.size mv.ownBlock (.slice (some ⟨g, 0, none⟩) (PS.getD j []).length cap) (PS.getD j []) := by
  obtain ⟨_, _, _, _, ⟨xs, ho, hx⟩, _, _⟩ := h
  rw [hj] at ho
  obtain ⟨v, hv, hp⟩ := hx j (by omega)
  obtain ⟨g, cap, rfl, h1⟩ := id hp
  have ho' := ho
  obtain ⟨_, ⟨_, hn⟩ | ⟨cg, ccap, cur, rfl, _, _, hcap, _⟩⟩ := ho
  · omega
  · exact ⟨cg, ccap, g, cap, rfl, by omega, hcap, (ho'.cellAt j (by omega)).trans hv, hp⟩

/-- 'p.chosen = p.chosen[:len(p.chosen)-1]'. -/
theorem St.pop {w0 wr : World} {U P : Nat} {PS : List (List Int)} {mv : Value} {ms : List Int} {cg j ccap : Nat} (h : St w0 wr U P (.slice (some ⟨cg, 0, none⟩) (j + 1) ccap) PS mv ms) (hj : PS.length = j + 1) :
    St w0 (wr.setCell ⟨P, 6, none⟩ (.slice (some ⟨cg, 0, none⟩) j ccap)) U P (.slice (some ⟨cg, 0, none⟩) j ccap) PS.dropLast mv ms := by
  obtain ⟨a1, a2, a3, a4, a5, a6, a7⟩ := h
  obtain ⟨us, hu, _⟩ := id a3
  have hs := grown_setCell wr ⟨P, 6, none⟩ (.slice (some ⟨cg, 0, none⟩) j ccap)
  have hUP : P ≠ U := fun e => by
    subst e
    unfold HopAt at a4
    rw [hu] at a4
    injection a4 with h4
    injection h4 with _ h4
    cases h4
  have hC : ChosAt wr w0.heap.size mv.ownBlock (.slice (some ⟨cg, 0, none⟩) j ccap) PS.dropLast := by
    have := a5.pop hj.symm (by omega)
    rwa [Nat.add_sub_cancel] at this
  exact ⟨a1, a2, a3.grown hs (by simpa using hUP), a4.set _, hC.grown hs (off_type a4 (by decide)) (.inr (hC.ne a4 (by decide))), World.ownsRow.kept a6 hs (.inr (a6.ne a4 (by decide))), a7.setCell a2 _⟩

set_option maxRecDepth 100000 in
set_option maxHeartbeats 2000000 in
theorem drop_any (w0 wr : World) (U P : Nat) (cv : Value) (PS : List (List Int)) (mv : Value) (ms : List Int) (hS : St w0 wr U P cv PS mv ms) (j : Nat) (hj : PS.length = j + 1) (hp : PS.length ≤ 1025) (hl : (PS.getD j []).length ≤ 1024) :
    Calls Yba.prog 13 #[.pointer (some ⟨P, 0, none⟩)] wr fun e w' => e = .returned (.tuple #[]) ∧ ∃ cv', St w0 w' U P cv' PS.dropLast mv ms := by
  obtain ⟨cg, ccap, g, cap, rfl, hc0, hcc, c1, hpa⟩ := hS.last hj
  obtain ⟨n, hn⟩ : ∃ n, n = (PS.getD j []).length := ⟨_, rfl⟩
  rw [← hn] at c1 hpa hl
  have HN := Hid.of hn
  have HJ := Hid.of hj
  have HS := Hid.of hS
  have HV := Hid.of hpa
  have c6 := hS.2.2.2.1.cells.2.1
  have hj10 : j ≤ 1024 := by omega
  clear hn hj hS hpa hp
  go_enter Yba.func13, Yba.ntmps13
  go_wp2
  go_quiet (fail)
  go_wp2_with fail
  have hbq : Below wr.heap.size wr (wr.drewN nq) := below_drewN (Below.refl _ _) nq
  go_loopw [17] (fun i wx => ∃ k : Nat, k ≤ n ∧ i = .int .i64 (k : Int) ∧ St w0 wx U P (.slice (some ⟨cg, 0, none⟩) (j + 1) ccap) PS mv ms ∧ PathAt wx w0.heap.size mv.ownBlock (.slice (some ⟨g, 0, none⟩) n cap) (PS.getD j [])) (fun i _ => n - (intOf i).toNat)
  case atStart => exact ⟨0, by omega, rfl, HS.out.later hbq, HV.out.grown (grown_of_below hbq none) (off_none _ _)⟩
  case round =>
    clear hbq c1 c6
    obtain ⟨wx, rfl⟩ : ∃ wx : World, wx = wr := ⟨_, rfl⟩
    obtain ⟨k, hk, rfl, hS, hv⟩ := hrel
    have HSx := Hid.of hS
    have HVx := Hid.of hv
    clear hS hv
    by_cases hlt : k < n
    · have hlt' : (k : Int) < (n : Int) := by omega
      obtain ⟨c1, z0, z1⟩ := HVx.out.cell k (by rw [← HN.out]; exact hlt)
      obtain ⟨u, hu⟩ : ∃ u : Nat, (PS.getD j []).getD k 0 = (u : Int) := ⟨((PS.getD j []).getD k 0).toNat, by omega⟩
      rw [hu] at c1 z1
      have hu16 : u < 16 := by omega
      have hu16' : (u : Int) < 16 := by omega
      obtain ⟨⟨b, c2⟩, f2⟩ := HSx.out.2.2.1.spot u hu16
      have c3 := HSx.out.2.2.2.1.cells.1
      have HU := Hid.of HSx.out.2.2.1
      clear z0 hu
      go_wp2_with fail
      go_roundw
      case rel => exact ⟨k + 1, by omega, by go_num, HSx.out.used u false, by
        obtain ⟨us, hus, _⟩ := HU.out
        exact HVx.out.grown (grown_setCell wx ⟨U, u, none⟩ (.bool false)) (off_type hus (by decide))⟩
      case measure => simp [intOf]; omega
    · have hlt' : ¬ (k : Int) < (n : Int) := by omega
      obtain ⟨_, c6, f6⟩ := HSx.out.2.2.2.1.cells
      have q1 : (j : Int) ≤ (ccap : Int) := by omega
      have q2 : ¬ ccap = 0 := by omega
      go_wp2_with fail
      go_region
      go_wp2_with fail
      go_end0
      exact ⟨rfl, _, (HSx.out.pop HJ.out).later (Below.refl _ _).drew⟩

end Go.Proofs.Ybulkbnos
