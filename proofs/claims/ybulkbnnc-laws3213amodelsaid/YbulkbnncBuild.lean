/-
  zzs3213abuild: a packet of octets in memory of its own.
-/
import Derived.Test.YbulkbnncModelWalk
namespace Go.Proofs.Ybulkbnnc
open Go.RowKit Go.Shelf

theorem Yba.info5 : (Yba.prog.info? 5).map (fun i => (i.zero, i.size, i.bytes)) = some (some (.int .u8 0), 1, 1) := by kernel_rfl

theorem xor_u8_range (a b : Int) (ha : 0 ≤ a ∧ a ≤ 255) (hb : 0 ≤ b ∧ b ≤ 255) : 0 ≤ bits .xor .u8 a b ∧ bits .xor .u8 a b ≤ 255 := by
  rw [u8_xor a b ha.1 (by omega) hb.1 (by omega)]
  have : a.toNat ^^^ b.toNat < 2 ^ 8 := Nat.xor_lt_two_pow (by omega) (by omega)
  omega

/-- The packet: octets zs in the block B. -/
def Pkt (w : World) (B : Nat) (zs : List Int) : Prop :=
  M.Oct zs ∧ w.ownsRow B 5 1 (.slice (some ⟨B, 0, none⟩) zs.length zs.length) zs.length (zs.map (Value.int .u8))

theorem Pkt.octs {w : World} {B : Nat} {zs : List Int} (h : Pkt w B zs) : Octs w (some ⟨B, 0, none⟩) zs :=
  ⟨h.1, fun _ => ⟨B, 0, rfl, fun i hi => by
    have := h.2.cellAt i (by omega)
    rw [Nat.zero_add, this, List.getElem?_map, List.getElem?_eq_getElem hi, List.getD_eq_getElem?_getD, List.getElem?_eq_getElem hi]
    rfl⟩⟩

theorem Pkt.set {w : World} {B : Nat} {zs : List Int} (h : Pkt w B zs) (j : Nat) (z : Int) (hz : 0 ≤ z ∧ z ≤ 255) : Pkt (w.setCell ⟨B, j, none⟩ (.int .u8 z)) B (zs.set j z) := by
  refine ⟨fun y hy => ?_, ?_⟩
  · rcases List.mem_or_eq_of_mem_set hy with h' | rfl
    · exact h.1 y h'
    · exact hz
  · rw [List.length_set, List.map_set]
    exact (h.2.stored j _).1

theorem oct_zeros (n : Nat) : M.Oct (List.replicate n 0) := fun z hz => by
  have := (List.mem_replicate.1 hz).2
  omega

theorem pkt_made {w : World} {B n : Nat} (h : w.ownsRow B 5 1 (.slice (some ⟨B, 0, none⟩) n n) n (madeCells (Value.int .u8 0).cells (n * 1)).toList) : Pkt w B (List.replicate n 0) := by
  refine ⟨oct_zeros n, ?_⟩
  rw [List.length_replicate, List.map_replicate]
  have e : (madeCells (Value.int .u8 0).cells (n * 1)).toList = List.replicate n (Value.int .u8 0) := by
    rw [Nat.mul_one]
    exact toList_madeCells_one _ _
  rw [← e]
  exact h

set_option maxHeartbeats 1000000 in
theorem build_empty4 (w : World) (a0 : Option Addr) (c0 : Nat) (l : List Int) (hO : Octs w a0 l) (hl : l.length < 1) (x : Int) (hx0 : 0 ≤ x) (hx1 : x ≤ 255) :
    Calls Yba.prog 6 #[.slice a0 l.length c0, .int .u8 x, .bool true] w fun e w' => ∃ (off : Nat) (zs : List Int),
      e = .returned (.tuple #[.slice (some ⟨w.heap.size, 0, none⟩) zs.length zs.length, .int .i64 off]) ∧ zs.length = off + 18 + l.length ∧ 20 ≤ off ∧ off ≤ 71 ∧ Pkt w' w.heap.size zs ∧ Below w.heap.size w w' := by
  obtain ⟨i0, hi, hz0, hz1, hz2⟩ := info_parts Yba.info5
  have HO : Hid (Octs w a0 l) := hO
  clear hO
  obtain ⟨off, eo⟩ : ∃ off : Nat, (20 : Int) + x % 32 = (off : Int) := ⟨(20 + x % 32).toNat, by omega⟩
  obtain ⟨n, en⟩ : ∃ n : Nat, (off : Int) + 18 + (l.length : Int) = (n : Int) := ⟨off + 18 + l.length, by omega⟩
  go_enter Yba.func6, Yba.ntmps6
  go_wp2_with (at_make; refine wpList_make_full w rfl _ _ 22 rfl w.heap.size 5 i0 (.int .u8 0) 1 Yba.underlying22 hi hz0 hz1 .i64 .i64 _ _ n rfl rfl rfl rfl (by rw [hz2]; omega) (by unfold maxLen; omega) (Nat.le_refl _) ?_; intro w1 hown hgrow)
  have HP : Hid (Pkt w1 w.heap.size (List.replicate n 0)) := pkt_made hown
  have hb1 : Below w.heap.size w w1 := (Below.refl _ _).grown hgrow (Nat.le_refl _) (fun _ h => by cases h)
  clear hown hgrow
  go_loopw [11] (fun i wr => ∃ (k : Nat) (zs : List Int), k ≤ n ∧ i = .int .i64 k ∧ zs.length = n ∧ Pkt wr w.heap.size zs ∧ Below w.heap.size w wr) (fun i _ => n - (intOf i).toNat)
  case atStart => exact ⟨0, List.replicate n 0, by omega, rfl, List.length_replicate, HP.out, hb1⟩
  case round =>
    clear HP hb1
    obtain ⟨k, zs, hk, rfl, hzn, hp, hb⟩ := hrel
    have HP : Hid (Pkt wr w.heap.size zs) := hp
    have HN : Hid (zs.length = n) := hzn
    clear hp hzn
    by_cases hlt : k < n
    · have hlt' : (k : Int) < (n : Int) := by omega
      have fz : wr.frozen? ⟨w.heap.size, k, none⟩ = false := HP.out.2.frozenAt k
      obtain ⟨old, cold⟩ : ∃ old, wr.cell? ⟨w.heap.size, k, none⟩ = some (.int .u8 old) := by
        have := HP.out.octs.at (Below.refl _ _) k (by rw [HN.out]; exact hlt)
        rw [Nat.zero_add] at this
        exact ⟨_, this⟩
      have hl0 : ¬ (0 : Int) < (l.length : Int) := by omega
      go_wp2
      go_roundw
      case rel => exact ⟨k + 1, _, by omega, by go_num, by rw [List.length_set]; exact HN.out, HP.out.set k _ (⟨by omega, by omega⟩), hb.setCell (Nat.le_refl _) _⟩
      case measure => simp [intOf]; omega
    · have hlt' : ¬ (k : Int) < (n : Int) := by omega
      go_wp2
      go_ret2
      exact ⟨off, zs, by rw [HN.out]; rfl, by rw [HN.out]; omega, by omega, by omega, HP.out, hb⟩

set_option maxHeartbeats 1000000 in
theorem build_empty6 (w : World) (a0 : Option Addr) (c0 : Nat) (l : List Int) (hO : Octs w a0 l) (hl : l.length < 1) (x : Int) (hx0 : 0 ≤ x) (hx1 : x ≤ 255) :
    Calls Yba.prog 6 #[.slice a0 l.length c0, .int .u8 x, .bool false] w fun e w' => ∃ (off : Nat) (zs : List Int),
      e = .returned (.tuple #[.slice (some ⟨w.heap.size, 0, none⟩) zs.length zs.length, .int .i64 off]) ∧ zs.length = off + 18 + l.length ∧ 40 ≤ off ∧ off ≤ 71 ∧ Pkt w' w.heap.size zs ∧ Below w.heap.size w w' := by
  obtain ⟨i0, hi, hz0, hz1, hz2⟩ := info_parts Yba.info5
  have HO : Hid (Octs w a0 l) := hO
  clear hO
  obtain ⟨off, eo⟩ : ∃ off : Nat, (40 : Int) + x % 32 = (off : Int) := ⟨(40 + x % 32).toNat, by omega⟩
  obtain ⟨n, en⟩ : ∃ n : Nat, (off : Int) + 18 + (l.length : Int) = (n : Int) := ⟨off + 18 + l.length, by omega⟩
  go_enter Yba.func6, Yba.ntmps6
  go_wp2_with (at_make; refine wpList_make_full w rfl _ _ 22 rfl w.heap.size 5 i0 (.int .u8 0) 1 Yba.underlying22 hi hz0 hz1 .i64 .i64 _ _ n rfl rfl rfl rfl (by rw [hz2]; omega) (by unfold maxLen; omega) (Nat.le_refl _) ?_; intro w1 hown hgrow)
  have HP : Hid (Pkt w1 w.heap.size (List.replicate n 0)) := pkt_made hown
  have hb1 : Below w.heap.size w w1 := (Below.refl _ _).grown hgrow (Nat.le_refl _) (fun _ h => by cases h)
  clear hown hgrow
  go_loopw [11] (fun i wr => ∃ (k : Nat) (zs : List Int), k ≤ n ∧ i = .int .i64 k ∧ zs.length = n ∧ Pkt wr w.heap.size zs ∧ Below w.heap.size w wr) (fun i _ => n - (intOf i).toNat)
  case atStart => exact ⟨0, List.replicate n 0, by omega, rfl, List.length_replicate, HP.out, hb1⟩
  case round =>
    clear HP hb1
    obtain ⟨k, zs, hk, rfl, hzn, hp, hb⟩ := hrel
    have HP : Hid (Pkt wr w.heap.size zs) := hp
    have HN : Hid (zs.length = n) := hzn
    clear hp hzn
    by_cases hlt : k < n
    · have hlt' : (k : Int) < (n : Int) := by omega
      have fz : wr.frozen? ⟨w.heap.size, k, none⟩ = false := HP.out.2.frozenAt k
      obtain ⟨old, cold⟩ : ∃ old, wr.cell? ⟨w.heap.size, k, none⟩ = some (.int .u8 old) := by
        have := HP.out.octs.at (Below.refl _ _) k (by rw [HN.out]; exact hlt)
        rw [Nat.zero_add] at this
        exact ⟨_, this⟩
      have hl0 : ¬ (0 : Int) < (l.length : Int) := by omega
      go_wp2
      go_roundw
      case rel => exact ⟨k + 1, _, by omega, by go_num, by rw [List.length_set]; exact HN.out, HP.out.set k _ (⟨by omega, by omega⟩), hb.setCell (Nat.le_refl _) _⟩
      case measure => simp [intOf]; omega
    · have hlt' : ¬ (k : Int) < (n : Int) := by omega
      go_wp2
      go_ret2
      exact ⟨off, zs, by rw [HN.out]; rfl, by rw [HN.out]; omega, by omega, by omega, HP.out, hb⟩

set_option maxHeartbeats 1000000 in
theorem build_data6 (w : World) (g o c0 : Nat) (l : List Int) (hO : Octs w (some ⟨g, o, none⟩) l) (hl : l.length ≤ 4096) (hl1 : 0 < l.length) (x : Int) (hx0 : 0 ≤ x) (hx1 : x ≤ 255) :
    Calls Yba.prog 6 #[.slice (some ⟨g, o, none⟩) l.length c0, .int .u8 x, .bool false] w fun e w' => ∃ (off : Nat) (zs : List Int),
      e = .returned (.tuple #[.slice (some ⟨w.heap.size, 0, none⟩) zs.length zs.length, .int .i64 off]) ∧ zs.length = off + 18 + l.length ∧ 40 ≤ off ∧ off ≤ 71 ∧ Pkt w' w.heap.size zs ∧ Below w.heap.size w w' := by
  obtain ⟨i0, hi, hz0, hz1, hz2⟩ := info_parts Yba.info5
  have HO : Hid (Octs w (some ⟨g, o, none⟩) l) := hO
  clear hO
  obtain ⟨off, eo⟩ : ∃ off : Nat, (40 : Int) + x % 32 = (off : Int) := ⟨(40 + x % 32).toNat, by omega⟩
  obtain ⟨n, en⟩ : ∃ n : Nat, (off : Int) + 18 + (l.length : Int) = (n : Int) := ⟨off + 18 + l.length, by omega⟩
  go_enter Yba.func6, Yba.ntmps6
  go_wp2_with (at_make; refine wpList_make_full w rfl _ _ 22 rfl w.heap.size 5 i0 (.int .u8 0) 1 Yba.underlying22 hi hz0 hz1 .i64 .i64 _ _ n rfl rfl rfl rfl (by rw [hz2]; omega) (by unfold maxLen; omega) (Nat.le_refl _) ?_; intro w1 hown hgrow)
  have HP : Hid (Pkt w1 w.heap.size (List.replicate n 0)) := pkt_made hown
  have hb1 : Below w.heap.size w w1 := (Below.refl _ _).grown hgrow (Nat.le_refl _) (fun _ h => by cases h)
  clear hown hgrow
  go_loopw [11] (fun i wr => ∃ (k : Nat) (zs : List Int), k ≤ n ∧ i = .int .i64 k ∧ zs.length = n ∧ Pkt wr w.heap.size zs ∧ Below w.heap.size w wr) (fun i _ => n - (intOf i).toNat)
  case atStart => exact ⟨0, List.replicate n 0, by omega, rfl, List.length_replicate, HP.out, hb1⟩
  case round =>
    clear HP hb1
    obtain ⟨k, zs, hk, rfl, hzn, hp, hb⟩ := hrel
    have HP : Hid (Pkt wr w.heap.size zs) := hp
    have HN : Hid (zs.length = n) := hzn
    clear hp hzn
    by_cases hlt : k < n
    · have hlt' : (k : Int) < (n : Int) := by omega
      have fz : wr.frozen? ⟨w.heap.size, k, none⟩ = false := HP.out.2.frozenAt k
      obtain ⟨old, cold⟩ : ∃ old, wr.cell? ⟨w.heap.size, k, none⟩ = some (.int .u8 old) := by
        have := HP.out.octs.at (Below.refl _ _) k (by rw [HN.out]; exact hlt)
        rw [Nat.zero_add] at this
        exact ⟨_, this⟩
      have hl0 : (0 : Int) < (l.length : Int) := by omega
      obtain ⟨p, ep⟩ : ∃ p : Nat, (k : Int) % (l.length : Int) = (p : Int) := ⟨((k : Int) % (l.length : Int)).toNat, by have := Int.emod_nonneg (k : Int) (show (l.length : Int) ≠ 0 by omega); omega⟩
      have hpl : (p : Int) < (l.length : Int) := by rw [← ep]; exact Int.emod_lt_of_pos _ hl0
      have cp := HO.out.at hb p (by omega)
      go_wp2
      go_roundw
      case rel => exact ⟨k + 1, _, by omega, by go_num, by rw [List.length_set]; exact HN.out, HP.out.set k _ (xor_u8_range _ _ ⟨by omega, by omega⟩ (HO.out.1.get p)), hb.setCell (Nat.le_refl _) _⟩
      case measure => simp [intOf]; omega
    · have hlt' : ¬ (k : Int) < (n : Int) := by omega
      go_wp2
      go_ret2
      exact ⟨off, zs, by rw [HN.out]; rfl, by rw [HN.out]; omega, by omega, by omega, HP.out, hb⟩

set_option maxHeartbeats 1000000 in
theorem build_data4 (w : World) (g o c0 : Nat) (l : List Int) (hO : Octs w (some ⟨g, o, none⟩) l) (hl : l.length ≤ 4096) (hl1 : 0 < l.length) (x : Int) (hx0 : 0 ≤ x) (hx1 : x ≤ 255) :
    Calls Yba.prog 6 #[.slice (some ⟨g, o, none⟩) l.length c0, .int .u8 x, .bool true] w fun e w' => ∃ (off : Nat) (zs : List Int),
      e = .returned (.tuple #[.slice (some ⟨w.heap.size, 0, none⟩) zs.length zs.length, .int .i64 off]) ∧ zs.length = off + 18 + l.length ∧ 20 ≤ off ∧ off ≤ 71 ∧ Pkt w' w.heap.size zs ∧ Below w.heap.size w w' := by
  obtain ⟨i0, hi, hz0, hz1, hz2⟩ := info_parts Yba.info5
  have HO : Hid (Octs w (some ⟨g, o, none⟩) l) := hO
  clear hO
  obtain ⟨off, eo⟩ : ∃ off : Nat, (20 : Int) + x % 32 = (off : Int) := ⟨(20 + x % 32).toNat, by omega⟩
  obtain ⟨n, en⟩ : ∃ n : Nat, (off : Int) + 18 + (l.length : Int) = (n : Int) := ⟨off + 18 + l.length, by omega⟩
  go_enter Yba.func6, Yba.ntmps6
  go_wp2_with (at_make; refine wpList_make_full w rfl _ _ 22 rfl w.heap.size 5 i0 (.int .u8 0) 1 Yba.underlying22 hi hz0 hz1 .i64 .i64 _ _ n rfl rfl rfl rfl (by rw [hz2]; omega) (by unfold maxLen; omega) (Nat.le_refl _) ?_; intro w1 hown hgrow)
  have HP : Hid (Pkt w1 w.heap.size (List.replicate n 0)) := pkt_made hown
  have hb1 : Below w.heap.size w w1 := (Below.refl _ _).grown hgrow (Nat.le_refl _) (fun _ h => by cases h)
  clear hown hgrow
  go_loopw [11] (fun i wr => ∃ (k : Nat) (zs : List Int), k ≤ n ∧ i = .int .i64 k ∧ zs.length = n ∧ Pkt wr w.heap.size zs ∧ Below w.heap.size w wr) (fun i _ => n - (intOf i).toNat)
  case atStart => exact ⟨0, List.replicate n 0, by omega, rfl, List.length_replicate, HP.out, hb1⟩
  case round =>
    clear HP hb1
    obtain ⟨k, zs, hk, rfl, hzn, hp, hb⟩ := hrel
    have HP : Hid (Pkt wr w.heap.size zs) := hp
    have HN : Hid (zs.length = n) := hzn
    clear hp hzn
    by_cases hlt : k < n
    · have hlt' : (k : Int) < (n : Int) := by omega
      have fz : wr.frozen? ⟨w.heap.size, k, none⟩ = false := HP.out.2.frozenAt k
      obtain ⟨old, cold⟩ : ∃ old, wr.cell? ⟨w.heap.size, k, none⟩ = some (.int .u8 old) := by
        have := HP.out.octs.at (Below.refl _ _) k (by rw [HN.out]; exact hlt)
        rw [Nat.zero_add] at this
        exact ⟨_, this⟩
      have hl0 : (0 : Int) < (l.length : Int) := by omega
      obtain ⟨p, ep⟩ : ∃ p : Nat, (k : Int) % (l.length : Int) = (p : Int) := ⟨((k : Int) % (l.length : Int)).toNat, by have := Int.emod_nonneg (k : Int) (show (l.length : Int) ≠ 0 by omega); omega⟩
      have hpl : (p : Int) < (l.length : Int) := by rw [← ep]; exact Int.emod_lt_of_pos _ hl0
      have cp := HO.out.at hb p (by omega)
      go_wp2
      go_roundw
      case rel => exact ⟨k + 1, _, by omega, by go_num, by rw [List.length_set]; exact HN.out, HP.out.set k _ (xor_u8_range _ _ ⟨by omega, by omega⟩ (HO.out.1.get p)), hb.setCell (Nat.le_refl _) _⟩
      case measure => simp [intOf]; omega
    · have hlt' : ¬ (k : Int) < (n : Int) := by omega
      go_wp2
      go_ret2
      exact ⟨off, zs, by rw [HN.out]; rfl, by rw [HN.out]; omega, by omega, by omega, HP.out, hb⟩

/-- zzs3213abuild. -/
theorem build_any (w : World) (a0 : Option Addr) (c0 : Nat) (l : List Int) (hO : Octs w a0 l) (hl : l.length ≤ 4096) (x : Int) (hx0 : 0 ≤ x) (hx1 : x ≤ 255) (v4 : Bool) :
    Calls Yba.prog 6 #[.slice a0 l.length c0, .int .u8 x, .bool v4] w fun e w' => ∃ (off : Nat) (zs : List Int),
      e = .returned (.tuple #[.slice (some ⟨w.heap.size, 0, none⟩) zs.length zs.length, .int .i64 off]) ∧ zs.length = off + 18 + l.length ∧ (if v4 then 20 else 40) ≤ off ∧ off ≤ 71 ∧ Pkt w' w.heap.size zs ∧ Below w.heap.size w w' := by
  by_cases h0 : l.length < 1
  · cases v4
    · exact build_empty6 w a0 c0 l hO h0 x hx0 hx1
    · exact build_empty4 w a0 c0 l hO h0 x hx0 hx1
  · obtain ⟨g, o, rfl, _⟩ := hO.2 (by intro e; subst e; simp at h0)
    cases v4
    · exact build_data6 w g o c0 l hO hl (by omega) x hx0 hx1
    · exact build_data4 w g o c0 l hO hl (by omega) x hx0 hx1

end Go.Proofs.Ybulkbnnc
