/-
  LawS3216CScript: its walk.
-/
import Derived.Test.YbulkbnosSteps
namespace Go.Proofs.Ybulkbnos
open Go.RowKit Go.Shelf

/-- The steps that came in. -/
def StepsIn (w : World) (ao : Option Addr) (n : Nat) (ops : Nat → Int) (nodes : Nat → List Int) : Prop :=
  ∀ r, r < n → ∃ g o A C, ao = some ⟨g, o, none⟩ ∧ w.cell? ⟨g, o + r * 2, none⟩ = some (.int .u8 (ops r)) ∧ w.cell? ⟨g, o + r * 2 + 1, none⟩ = some (.slice A (nodes r).length C) ∧ 0 ≤ ops r ∧ ops r ≤ 255 ∧
    (0 < (nodes r).length → ∃ g' o', A = some ⟨g', o', none⟩ ∧ ∀ i, i < (nodes r).length → w.cell? ⟨g', o' + i, none⟩ = some (.int .u8 ((nodes r).getD i 0)) ∧ 0 ≤ (nodes r).getD i 0 ∧ (nodes r).getD i 0 ≤ 255)

theorem StepsIn.at {w : World} {ao : Option Addr} {n : Nat} {ops : Nat → Int} {nodes : Nat → List Int} (h : StepsIn w ao n ops nodes) (r : Nat) (hr : r < n) : ∃ g o A C L x, ao = some ⟨g, o, none⟩ ∧ w.cell? ⟨g, o + r * 2, none⟩ = some (.int .u8 x) ∧ w.cell? ⟨g, o + r * 2 + 1, none⟩ = some (.slice A L C) ∧
    0 ≤ x ∧ x ≤ 255 ∧ Hid (L = (nodes r).length) ∧ Hid (x = ops r) ∧
    Hid (0 < L → ∃ g' o', A = some ⟨g', o', none⟩ ∧ ∀ i, i < (nodes r).length → w.cell? ⟨g', o' + i, none⟩ = some (.int .u8 ((nodes r).getD i 0)) ∧ 0 ≤ (nodes r).getD i 0 ∧ (nodes r).getD i 0 ≤ 255) := by
  obtain ⟨g, o, A, C, e, h1, h2, h3, h4, h5⟩ := h r hr
  exact ⟨g, o, A, C, _, _, e, h1, h2, h3, h4, rfl, rfl, h5⟩

set_option maxRecDepth 100000 in
set_option maxHeartbeats 2000000 in
theorem script_law (w : World) (ao : Option Addr) (n c : Nat) (ops : Nat → Int) (nodes : Nat → List Int) (hR : StepsIn w ao n ops nodes) (hm : n ≤ 9223372036854775807) :
    Calls Yba.prog 5 #[.slice ao n c] w fun e w' => e = .returned (.bool true) ∧ Below w.heap.size w w' := by
  have HR := Hid.of hR
  clear hR
  obtain ⟨i0, hi, hz0, hz1, hz2⟩ := info_parts Yba.info3
  by_cases hbig : 1024 < n
  · have hbig' : (1024 : Int) < (n : Int) := by omega
    go_enter Yba.func5, Yba.ntmps5
    go_wp2_with fail
    go_ret
    exact ⟨rfl, Below.refl _ _⟩
  have hbig' : ¬ (1024 : Int) < (n : Int) := by omega
  go_enter Yba.func5, Yba.ntmps5
  go_wp2_with fail
  go_loopw [18] (fun i wr => ∃ k : Nat, k ≤ n ∧ i = .int .i64 (k : Int) ∧ (∀ r, r < k → (nodes r).length ≤ 1024) ∧ Below w.heap.size w wr) (fun i _ => n - (intOf i).toNat)
  case atStart => exact ⟨0, by omega, rfl, fun r hr => absurd hr (by omega), Below.refl _ _⟩
  case round =>
    obtain ⟨k, hk, rfl, hsm, hb⟩ := hrel
    have HS := Hid.of hsm
    clear hsm
    have hsz := hb.size
    by_cases hlt : k < n
    · have hlt' : (k : Int) < (n : Int) := by omega
      obtain ⟨g, o, A, C, L, x, rfl, c1, c2, hx0, hx1, HL, HX, HA⟩ := HR.out.at k hlt
      have d1 := cell_later hb c1
      have d2 := cell_later hb c2
      clear c1 c2
      by_cases hL : 1024 < L
      · have hL' : (1024 : Int) < (L : Int) := by omega
        go_wp2_with fail
        go_ret
        exact ⟨rfl, hb.alloc hsz _⟩
      · have hL' : ¬ (1024 : Int) < (L : Int) := by omega
        go_wp2_with fail
        go_roundw
        case rel => exact ⟨k + 1, by omega, by go_num, fun r hr => by
          by_cases e : r = k
          · subst e; rw [← HL.out]; omega
          · exact HS.out r (by omega), hb.alloc hsz _⟩
        case measure => simp [intOf]; omega
    · have hlt' : ¬ (k : Int) < (n : Int) := by omega
      have HS' : Hid (∀ r, r < n → (nodes r).length ≤ 1024) := fun r hr => HS.out r (by omega)
      have hmk := make_used
      clear HS
      obtain ⟨wa, rfl⟩ : ∃ wa : World, wa = wr := ⟨_, rfl⟩
      go_wp2_with fail
      clear hmk
      have HSt := Hid.of (St.start hb)
      go_loopw [6, 32] (fun mv i wr => ∃ (k : Nat) (cv : Value) (PS : List (List Int)), k ≤ n ∧ i = .int .i64 (k : Int) ∧ St w wr wa.heap.size (wa.heap.size + 1) cv PS mv (firsts PS) ∧ PS.length ≤ k ∧ ∀ j, j < PS.length → (PS.getD j []).length ≤ 1024) (fun _ i _ => n - (intOf i).toNat)
      case atStart => exact ⟨0, .slice none 0 0, [], by omega, rfl, HSt.out, by simp, fun j hj => absurd hj (by simp)⟩
      case round =>
        clear HSt hk hlt hlt'
        obtain ⟨k, cv, PS, hk, rfl, hS, hPk, hPl⟩ := hrel
        obtain ⟨m, hm1⟩ : ∃ m, m = (firsts PS).length := ⟨_, rfl⟩
        obtain ⟨mo, mcap, hmv, hmc, hmn, hms⟩ := form_of_own (show wr.ownsRow w.heap.size 3 1 u6 (firsts PS).length ((firsts PS).map (Value.int .i64)) from hS.2.2.2.2.2.1)
        rw [← hm1] at hmv hmc hmn
        subst hmv
        have hmP : m ≤ k := by rw [hm1, firsts, List.length_map]; exact hPk
        have HM1 := Hid.of hm1
        have HMN := Hid.of hmn
        have HMS := Hid.of hms
        clear hm1 hmn hms
        have HS := Hid.of hS
        have HP := Hid.of hPl
        have hb := hS.2.2.2.2.2.2
        have hsz := hb.size
        clear hS hPl
        by_cases hlt : k < n
        · have hlt' : (k : Int) < (n : Int) := by omega
          obtain ⟨g, o, A, C, L, x, rfl, c1, c2, hx0, hx1, HL, HX, HA⟩ := HR.out.at k hlt
          have d1 := cell_later hb c1
          have d2 := cell_later hb c2
          clear c1 c2
          by_cases h2 : x % 2 = 0
          · have e2 : (x % 2 == 0) = true := by simp; omega
            by_cases hL0 : 0 < L
            · have hL0' : (0 : Int) < (L : Int) := by omega
              have hL10 : L ≤ 1024 := by rw [HL.out]; exact HS'.out k hlt
              obtain ⟨g', o', rfl, hc⟩ := HA.out hL0
              have HC := Hid.of hc
              clear hc HA h2
              obtain ⟨wb, rfl⟩ : ∃ wb : World, wb = wr := ⟨_, rfl⟩
              go_wp2_with (at_make; refine wpList_make_full _ rfl _ _ 50 rfl w.heap.size 3 i0 (.int .i64 0) 1 Yba.underlying50 hi hz0 hz1 .i64 .i64 _ _ L rfl rfl rfl rfl (by rw [hz2]; omega) (by unfold maxLen; omega) (by simp; omega) ?_; intro w2 hown hgrow; have HM := Hid.of (made_step hown hgrow); have d3 := HM.out.2.2; clear hown hgrow)
              go_loopw [53] (fun i wx => ∃ (j : Nat) (zs : List Int), j ≤ L ∧ i = .int .i64 (j : Int) ∧ Making wx w.heap.size (wb.heap.size + 1) L zs ∧ Below wb.heap.size wb wx) (fun i _ => L - (intOf i).toNat)
              case atStart => exact ⟨0, _, by omega, rfl, HM.out.1, HM.out.2.1⟩
              case round =>
                clear HM d3 d1 d2
                obtain ⟨wx, rfl⟩ : ∃ wx : World, wx = wr := ⟨_, rfl⟩
                obtain ⟨j, zs, hj, rfl, hmk, hbx⟩ := hrel
                have HM := Hid.of hmk
                clear hmk
                by_cases hjl : j < L
                · have hjl' : (j : Int) < (L : Int) := by omega
                  obtain ⟨c1, y0, y1⟩ := HC.out j (by rw [← HL.out]; exact hjl)
                  generalize (nodes k).getD j 0 = y at c1 y0 y1
                  have c2 := cell_later hbx (cell_later hb c1)
                  obtain ⟨⟨old, c3⟩, f3⟩ := HM.out.spot j hjl
                  clear c1
                  go_wp2_with fail
                  go_roundw
                  case rel => exact ⟨j + 1, _, by omega, by go_num, HM.out.set j (y % 16) ⟨by omega, by omega⟩, hbx.setCell (by simp) _⟩
                  case measure => simp [intOf]; omega
                · have hjl' : ¬ (j : Int) < (L : Int) := by omega
                  have HS2 := Hid.of (HS.out.later hbx)
                  have HV := Hid.of (HM.out.path hL0 HS.out (by omega))
                  have HZ := Hid.of HM.out.1
                  go_wp2_with fail
                  refine (choose_any w wx wa.heap.size (wa.heap.size + 1) cv PS _ (firsts PS) HS2.out (wb.heap.size + 1) L L zs HZ.out.symm HV.out hL10 (by omega)).mono ?_
                  rintro e w3 ⟨rfl, ⟨cv3, hS3⟩, hp3⟩
                  have HS3 := Hid.of hS3
                  have c4 := (hp3.cell 0 (by rw [HZ.out]; exact hL0)).1
                  obtain ⟨z, hz⟩ : ∃ z, z = zs.getD 0 0 := ⟨_, rfl⟩
                  rw [← hz] at c4
                  have HZZ := Hid.of hz
                  clear hz hS3 hp3 HV HS2 HM
                  have HFP := Hid.of (firsts_push PS zs)
                  have HPP := Hid.of (getD_push HP.out (show zs.length ≤ 1024 by rw [HZ.out]; exact hL10))
                  by_cases hroom : m + 1 ≤ mcap
                  · obtain ⟨mg, rfl⟩ : ∃ mg, mo = some ⟨mg, 0, none⟩ := by
                      cases hmo : mo with
                      | none => have := HMN.out hmo; omega
                      | some a => obtain ⟨mg, rfl⟩ := HMS.out a hmo; exact ⟨mg, rfl⟩
                    have HO := fun o => Hid.of ((show w3.ownsRow w.heap.size 3 1 (.slice (some ⟨mg, 0, none⟩) m mcap) m ((firsts PS).map (Value.int .i64)) by rw [HM1.out]; have := HS3.out.2.2.2.2.2.1; rw [HM1.out] at this; exact this).alloc o)
                    go_wp2_with (at_builtin; refine wpList_append_fits _ rfl (.tmp 68) (.tmp 72) 50 rfl w.heap.size 3 i0 1 Yba.underlying50 hi hz1 mg m mcap ((firsts PS).map (Value.int .i64)) rfl (HO _).out ⟨w3.heap.size, 0, none⟩ 1 1 [.int .i64 z] rfl rfl (cell_one_new _ _ _) (by intro u hu; simp at hu; subst hu; rfl) hroom ?_; intro w4 hown4 hgrow4; have HS4 := Hid.of (St.model_fits HS3.out HM1.out hown4 hgrow4); clear hown4 hgrow4)
                    go_roundw
                    case rel => exact ⟨k + 1, cv3, PS ++ [zs], by omega, by go_num, by rw [HFP.out, ← HZZ.out]; exact HS4.out, by rw [List.length_append]; exact Nat.succ_le_succ hPk, HPP.out⟩
                    case measure => simp [intOf]; omega
                  · have HOl := fun o => Hid.of (mod_cells HS3.out.2.2.2.2.2.1 HM1.out o)
                    go_wp2_with (at_builtin; refine wpList_append_grows _ rfl (.tmp 68) (.tmp 72) 50 rfl 3 i0 (.int .i64 0) 1 8 Yba.underlying50 hi hz0 hz1 hz2 rfl (by decide) mo m mcap ((firsts PS).map (Value.int .i64)) rfl HMN.out (by rw [List.length_map, ← HM1.out]; omega) (HOl _).out ⟨w3.heap.size, 0, none⟩ 1 1 [.int .i64 z] rfl rfl (cell_one_new _ _ _) (by intro u hu; simp at hu; subst hu; rfl) (by omega) (by unfold maxLen; omega) (by omega) ?_; intro mv4 w4 hown4 hgrow4; have HS4 := Hid.of (St.model_grows HS3.out HM1.out hown4 hgrow4); clear hown4 hgrow4)
                    go_roundw
                    case rel => exact ⟨k + 1, cv3, PS ++ [zs], by omega, by go_num, by rw [HFP.out, ← HZZ.out]; exact HS4.out, by rw [List.length_append]; exact Nat.succ_le_succ hPk, HPP.out⟩
                    case measure => simp [intOf]; omega
            · have hL0' : ¬ (0 : Int) < (L : Int) := by omega
              clear h2
              obtain ⟨co, ccap, hcv, _⟩ := HS.out.chos
              have hba := fun o => (below_alloc wr o)
              have c6 := fun o => cell_later (hba o) HS.out.2.2.2.1.cells.2.1
              rw [hcv] at c6
              by_cases hP0 : PS.length = 0
              · rw [hP0] at c6
                clear hP0 hcv
                go_wp2_with fail
                go_roundw
                case rel => exact ⟨k + 1, cv, PS, by omega, by go_num, HS.out.later (hba _), by omega, HP.out⟩
                case measure => simp [intOf]; omega
              · obtain ⟨j, hj⟩ : ∃ j, PS.length = j + 1 := ⟨PS.length - 1, by omega⟩
                obtain rfl : m = j + 1 := by rw [HM1.out, firsts, List.length_map, hj]
                obtain ⟨mg, rfl⟩ : ∃ mg, mo = some ⟨mg, 0, none⟩ := by
                  cases hmo : mo with
                  | none => have := HMN.out hmo; omega
                  | some a => obtain ⟨mg, rfl⟩ := HMS.out a hmo; exact ⟨mg, rfl⟩
                rw [hj] at c6
                have HJ := Hid.of hj
                have HLJ := Hid.of (HP.out j (by omega))
                have q1 : (j : Int) ≤ (mcap : Int) := by omega
                have q2 : ¬ mcap = 0 := by omega
                have hj10 : j ≤ 1024 := by omega
                clear hP0 hcv hj
                go_wp2_with fail
                refine (drop_any w _ wa.heap.size (wa.heap.size + 1) cv PS _ (firsts PS) (HS.out.later (hba _)) j HJ.out (by rw [HJ.out]; omega) HLJ.out).mono ?_
                rintro e w3 ⟨rfl, cv3, hS3⟩
                have HS3 := Hid.of hS3
                clear hS3 c6
                go_wp2_with fail
                go_roundw
                case rel => exact ⟨k + 1, cv3, PS.dropLast, by omega, by go_num, by rw [firsts_pop]; exact HS3.out.model_pop HM1.out, by rw [List.length_dropLast, HJ.out]; omega, getD_pop HP.out⟩
                case measure => simp [intOf]; omega
          · have e2 : (x % 2 == 0) = false := by simp; omega
            clear h2
            obtain ⟨co, ccap, hcv, _⟩ := HS.out.chos
            have hba := fun o => (below_alloc wr o)
            have c6 := fun o => cell_later (hba o) HS.out.2.2.2.1.cells.2.1
            rw [hcv] at c6
            by_cases hP0 : PS.length = 0
            · rw [hP0] at c6
              clear hP0 hcv
              go_wp2_with fail
              go_roundw
              case rel => exact ⟨k + 1, cv, PS, by omega, by go_num, HS.out.later (hba _), by omega, HP.out⟩
              case measure => simp [intOf]; omega
            · obtain ⟨j, hj⟩ : ∃ j, PS.length = j + 1 := ⟨PS.length - 1, by omega⟩
              obtain rfl : m = j + 1 := by rw [HM1.out, firsts, List.length_map, hj]
              obtain ⟨mg, rfl⟩ : ∃ mg, mo = some ⟨mg, 0, none⟩ := by
                cases hmo : mo with
                | none => have := HMN.out hmo; omega
                | some a => obtain ⟨mg, rfl⟩ := HMS.out a hmo; exact ⟨mg, rfl⟩
              rw [hj] at c6
              have HJ := Hid.of hj
              have HLJ := Hid.of (HP.out j (by omega))
              have q1 : (j : Int) ≤ (mcap : Int) := by omega
              have q2 : ¬ mcap = 0 := by omega
              have hj10 : j ≤ 1024 := by omega
              clear hP0 hcv hj
              go_wp2_with fail
              refine (drop_any w _ wa.heap.size (wa.heap.size + 1) cv PS _ (firsts PS) (HS.out.later (hba _)) j HJ.out (by rw [HJ.out]; omega) HLJ.out).mono ?_
              rintro e w3 ⟨rfl, cv3, hS3⟩
              have HS3 := Hid.of hS3
              clear hS3 c6
              go_wp2_with fail
              go_roundw
              case rel => exact ⟨k + 1, cv3, PS.dropLast, by omega, by go_num, by rw [firsts_pop]; exact HS3.out.model_pop HM1.out, by rw [List.length_dropLast, HJ.out]; omega, getD_pop HP.out⟩
              case measure => simp [intOf]; omega
        · have hlt' : ¬ (k : Int) < (n : Int) := by omega
          obtain ⟨co, ccap, hcv, hch⟩ := HS.out.chos
          have c6 := HS.out.2.2.2.1.cells.2.1
          rw [hcv] at c6
          have HCh := Hid.of hch
          have hPl : PS.length = (firsts PS).length := by rw [firsts, List.length_map]
          have HPL := Hid.of hPl
          obtain ⟨wb, rfl⟩ : ∃ wb : World, wb = wr := ⟨_, rfl⟩
          clear hcv hch hPl
          go_wp2_with fail
          refine (starts_any wb (wa.heap.size + 1) ccap co PS c6 HCh.out (by omega)).mono ?_
          rintro e w3 ⟨rfl, hrow, hb3⟩
          have HRow := Hid.of hrow
          have HM3 := Hid.of (HS.out.later hb3).2.2.2.2.2.1
          have c7 := cell_later hb3 c6
          clear hrow c6
          go_wp2_with (go_at_call 11; refine (equal_model _ wb.heap.size w.heap.size PS.length m mcap mo (firsts PS) HPL.out HM1.out (by omega) HRow.out HM3.out).mono ?_; rintro e w4 ⟨rfl, q, rfl⟩)
          go_ret
          exact ⟨rfl, below_drewN (hb.trans (hb3.mono (by omega))) _⟩

end Go.Proofs.Ybulkbnos
