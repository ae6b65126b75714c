/-
  LawS3213AModel: its walk.
-/
import Derived.Test.YbulkbnncBuild
import Derived.Laws.CopyOwn
namespace Go.Proofs.Ybulkbnnc
open Go.RowKit Go.Shelf

/-- The header's length. -/
def base (v4 : Bool) : Nat := if v4 then 20 else 40

theorem fam_b (v4 : Bool) (w : World) :
    Calls Yba.prog 5 #[.bool v4] w fun e w' => ∃ src dst al : Nat, e = .returned (.pointer (some ⟨w.heap.size, 0, none⟩)) ∧ FamAt w' w.heap.size src dst al ∧ src + al ≤ base v4 ∧ dst + al ≤ base v4 ∧ al % 2 = 0 ∧ 0 < al ∧ al ≤ 16 ∧ Below w.heap.size w w' ∧ w.heap.size < w'.heap.size := by
  refine (fam_any v4 w).mono fun e w' ⟨he, hf, hb, hs⟩ => ?_
  cases v4
  · exact ⟨8, 24, 16, he, hf, by decide, by decide, by decide, by decide, by decide, hb, by omega⟩
  · exact ⟨12, 16, 4, he, hf, by decide, by decide, by decide, by decide, by decide, hb, by omega⟩

theorem build_b (w : World) (a0 : Option Addr) (n c0 : Nat) (l : List Int) (hO : Octs w a0 l) (hn : n = l.length) (hl : l.length ≤ 4096) (x : Int) (hx0 : 0 ≤ x) (hx1 : x ≤ 255) (v4 : Bool) :
    Calls Yba.prog 6 #[.slice a0 n c0, .int .u8 x, .bool v4] w fun e w' => ∃ (off : Nat) (zs : List Int),
      e = .returned (.tuple #[.slice (some ⟨w.heap.size, 0, none⟩) zs.length zs.length, .int .i64 off]) ∧ off + 18 ≤ zs.length ∧ zs.length ≤ 4185 ∧ base v4 ≤ off ∧ Pkt w' w.heap.size zs ∧ Below w.heap.size w w' := by
  subst hn
  refine (build_any w a0 c0 l hO hl x hx0 hx1 v4).mono fun e w' ⟨off, zs, he, h1, h2, h3, hp, hb⟩ => ⟨off, zs, he, by omega, by omega, ?_, hp, hb⟩
  unfold base
  exact h2

/-- A row that is known whole. -/
theorem octs_row {w : World} {h : Nat} {zs : List Int} (hz : M.Oct zs) (hr : w.heap[h]? = some (.cells (zs.map (Value.int .u8)).toArray 5 (0, 0))) : Octs w (some ⟨h, 0, none⟩) zs :=
  ⟨hz, fun _ => ⟨h, 0, rfl, fun i hi => by
    simp [World.cell?, hr, hi, List.getD_eq_getElem?_getD]⟩⟩

theorem splice_all (zs : List Int) (n : Nat) (h : n = zs.length) : splice (List.replicate n (Value.int .u8 0)) 0 (zs.map (Value.int .u8)) = zs.map (Value.int .u8) := by
  subst h
  simp [splice]

theorem row_made {w : World} {B h n : Nat} (hr : w.ownsRow B 5 1 (.slice (some ⟨h, 0, none⟩) n n) n (madeCells (Value.int .u8 0).cells (n * 1)).toList) :
    w.heap[h]? = some (.cells (List.replicate n (Value.int .u8 0)).toArray 5 (0, 0)) := by
  obtain ⟨_, ⟨hv, _⟩ | ⟨g, cap, cur, hv, _, hh, _, _, hsz, htk⟩⟩ := hr
  · cases hv
  · injection hv with h1 _ h3
    injection h1 with h1
    injection h1 with h1
    subst h1; subst h3
    have e : (madeCells (Value.int .u8 0).cells (n * 1)).toList = List.replicate n (Value.int .u8 0) := by
      rw [Nat.mul_one]
      exact toList_madeCells_one _ _
    rw [e, List.take_of_length_le (by rw [Array.length_toList]; omega)] at htk
    rw [hh, ← htk]

theorem copy_pos {w2 w3 : World} {g h : Nat} {zs : List Int} (hp : Octs w2 (some ⟨g, 0, none⟩) zs) (hb : Below w2.heap.size w2 w3) :
    0 < (zs.map (Value.int .u8)).length → (some ⟨h, 0, none⟩ : Option Addr) = some ⟨h, 0, none⟩ ∧ ∃ ad, (some ⟨g, 0, none⟩ : Option Addr) = some ad ∧ ∀ j v, (zs.map (Value.int .u8))[j]? = some v → w3.cell? (ad.add j) = some v := by
  refine fun _ => ⟨rfl, _, rfl, fun j v hv => ?_⟩
  rw [List.getElem?_map] at hv
  by_cases hj : j < zs.length
  · have := hp.at hb j hj
    rw [List.getElem?_eq_getElem hj] at hv
    rw [Lib.add_plain, this, List.getD_eq_getElem?_getD, List.getElem?_eq_getElem hj]
    exact hv
  · rw [List.getElem?_eq_none (by omega)] at hv
    cases hv

theorem one_cells (zs : List Int) : ∀ v ∈ zs.map (Value.int .u8), v.oneCell' = true := fun v hv => by
  obtain ⟨z, _, rfl⟩ := List.mem_map.1 hv
  rfl

theorem size5 : (Yba.prog.info? 5).map (·.size) = some 1 := by kernel_rfl

set_option maxHeartbeats 2000000 in
theorem model_law (w : World) (a0 : Option Addr) (n c0 : Nat) (l : List Int) (hO : Octs w a0 l) (hn : n = l.length) (x : Int) (hx0 : 0 ≤ x) (hx1 : x ≤ 255) (v4 : Bool) :
    Calls Yba.prog 3 #[.slice a0 n c0, .int .u8 x, .bool v4] w fun e w' => e = .returned (.bool true) ∧ Below w.heap.size w w' := by
  have HO : Hid (Octs w a0 l) := hO
  have HN : Hid (n = l.length) := hn
  clear hO hn
  obtain ⟨i0, hi, hz0, hz1, hz2⟩ := info_parts Yba.info5
  by_cases hbig : 4096 < n
  · have hbig' : (4096 : Int) < (n : Int) := by omega
    go_enter Yba.func3, Yba.ntmps3
    go_wp2_with fail
    go_ret
    exact ⟨rfl, Below.refl _ _⟩
  · have hbig' : ¬ (4096 : Int) < (n : Int) := by omega
    go_enter Yba.func3, Yba.ntmps3
    go_wp2_with fail
    refine (fam_b v4 _).mono ?_
    rintro e w1 ⟨src, dst, al, rfl, hf, hsb, hdb, ha2, ha0, ha16, hb1, hz⟩
    have HF : Hid (FamAt w1 w.heap.size src dst al) := hf
    clear hf
    go_wp2_with fail
    refine (build_b _ a0 n c0 l (HO.out.later hb1) HN.out (by rw [← HN.out]; omega) x hx0 hx1 v4).mono ?_
    rintro e w2 ⟨off, zs, rfl, ho18, hzl, hob, hp, hb2⟩
    have HP : Hid (Octs w2 (some ⟨w1.heap.size, 0, none⟩) zs) := hp.octs
    have HF2 : Hid (FamAt w2 w.heap.size src dst al) := HF.out.later hb2
    have hs2 := hb2.size
    have hb2' : Below w.heap.size w w2 := hb1.trans (hb2.mono (Nat.le_of_lt hz))
    clear hp HF
    obtain ⟨fx, hfx⟩ : ∃ fx, fx = M.F (X zs off src dst al) := ⟨_, rfl⟩
    have hf0 : 0 ≤ fx := by rw [hfx]; exact (M.F_range _).1
    have hf1 : fx ≤ 65535 := by rw [hfx]; exact (M.F_range _).2
    have HX : Hid (fx = M.F (X zs off src dst al)) := hfx
    clear hfx
    go_wp2_with (first | (at_make; refine wpList_make_full w2 rfl _ _ 22 rfl w2.heap.size 5 i0 (.int .u8 0) 1 Yba.underlying22 hi hz0 hz1 .i64 .i64 _ _ zs.length rfl rfl rfl rfl (by rw [hz2]; omega) (by unfold maxLen; omega) (Nat.le_refl _) ?_; intro w3 hown hgrow; have HR : Hid (w3.heap[w2.heap.size]? = some (.cells (List.replicate zs.length (Value.int .u8 0)).toArray 5 (0, 0))) := row_made hown; have hb3 : Below w2.heap.size w2 w3 := (Below.refl _ _).grown hgrow (Nat.le_refl _) (fun _ h => by cases h); clear hown hgrow) | (have _t := HR; refine wpList_copy_splice rfl (.tmp 28) (.tmp 29) 22 22 rfl 5 Yba.underlying22 size5 _ _ _ _ _ _ rfl rfl w2.heap.size 0 (List.replicate zs.length (Value.int .u8 0)) 5 HR.out (zs.map (Value.int .u8)) (by simp) (copy_pos HP.out hb3) (by simp) (one_cells zs) w2.heap.size w2 hb3 (Nat.le_refl _) ?_; intro w4 HR4 hb4))
    have HQ4 : Hid (Octs w4 (some ⟨w2.heap.size, 0, none⟩) zs) := octs_row HP.out.1 (by have := HR4.out; rwa [splice_all zs _ rfl] at this)
    have HP4 : Hid (Octs w4 (some ⟨w1.heap.size, 0, none⟩) zs) := HP.out.later hb4
    have HF4 : Hid (FamAt w4 w.heap.size src dst al) := HF2.out.later hb4
    have hb4' : Below w.heap.size w w4 := hb2'.trans (hb4.mono (by omega))
    clear HR4 HR HP HF2 hb3 hb2 hb1 hb2' HO HN
    refine (tcp_any w4 w.heap.size src dst al w1.heap.size 0 _ _ off zs HF4.out HP4.out rfl (by omega) (by omega) ha0 ho18 (Nat.le_refl _) (by omega) (by omega)).mono ?_
    rintro e w5 ⟨he, hb5⟩
    rw [← HX.out] at he
    subst he
    go_wp2_with fail
    refine (model_skip w5 w.heap.size src dst al w1.heap.size 0 _ _ off zs (HF4.out.later hb5) (HP4.out.later hb5) rfl (by omega) (by omega) ha2 ha16 ho18 (Nat.le_refl _) (by omega) (by omega)).mono ?_
    rintro e w6 ⟨he, hb6⟩
    rw [← HX.out] at he
    subst he
    have hb6' : Below w4.heap.size w4 w6 := hb5.trans (hb6.mono hb5.size)
    have e1 : IntKind.u16.wrap fx = fx := u16_wrap_id fx hf0 (by omega)
    have e2 := bits_not16 fx hf0 hf1
    have e3 : IntKind.u16.signed = false := rfl
    go_wp2
    go_loopw [12] (fun i wr => ∃ k : Nat, k ≤ zs.length ∧ i = .int .i64 (k : Int) ∧ Below w4.heap.size w4 wr) (fun i _ => zs.length - (intOf i).toNat)
    case atStart => exact ⟨0, by omega, rfl, hb6'⟩
    case round =>
      clear hb5 hb6 hb6' e1 e2 e3 HX
      obtain ⟨k, hk, rfl, hb⟩ := hrel
      by_cases hlt : k < zs.length
      · have hlt' : (k : Int) < (zs.length : Int) := by omega
        have c1 := HP4.out.at hb k hlt
        have c2 := HQ4.out.at hb k hlt
        rw [Nat.zero_add] at c1 c2
        generalize zs.getD k 0 = z at c1 c2
        go_wp2
        go_quiet (fail)
        go_wp2
        go_roundw
        case rel => exact ⟨k + 1, by omega, by go_num, below_drewN hb _⟩
        case measure => simp [intOf]; omega
      · have hlt' : ¬ (k : Int) < (zs.length : Int) := by omega
        go_wp2
        go_ret
        exact ⟨rfl, hb4'.trans (hb.mono (by have := hb4.size; omega))⟩

end Go.Proofs.Ybulkbnnc
