/-
  writeSets, LawS3223CBytes: the plain law and the walks.
-/
import Derived.Test.YbulkbnsmRows
import Derived.Test.YbulkbnsmShelf
import Derived.WalkKit
import Derived.WalkSpells
import Derived.WalkLawsBesides
import Derived.Laws.IdiomStrings
import Derived.Lib.BufferRead
namespace Go.Proofs.Ybulkbnsm
open Go.RowKit Go.Shelf

theorem Hid.of {p : Prop} (h : p) : Hid p := h

/-! ### The plain law -/
/-- Each number's eight bytes, the least first, one number after another. -/
def bytesOf (l : List Int) : List UInt8 := l.flatMap fun z => Lib.leBytes 8 z.toNat

theorem leBytes_length : ∀ (k v : Nat), (Lib.leBytes k v).length = k
  | 0, _ => rfl
  | k + 1, v => by simp [Lib.leBytes, leBytes_length k]
theorem leBytes_get : ∀ (k v j : Nat), j < k → (Lib.leBytes k v)[j]? = some (v / 256 ^ j % 256).toUInt8
  | 0, _, _, h => absurd h (by omega)
  | k + 1, v, 0, _ => by simp [Lib.leBytes]
  | k + 1, v, j + 1, h => by
    rw [Lib.leBytes, List.getElem?_cons_succ, leBytes_get k (v / 256) j (by omega), Nat.div_div_eq_div_mul, Nat.pow_succ, Nat.mul_comm 256]
theorem bytesOf_length : ∀ (l : List Int), (bytesOf l).length = 8 * l.length
  | [] => rfl
  | z :: r => by
    have := bytesOf_length r
    unfold bytesOf at *
    rw [List.flatMap_cons, List.length_append, this, leBytes_length, List.length_cons]
    omega
theorem bytesOf_snoc (l : List Int) (z : Int) : bytesOf (l ++ [z]) = bytesOf l ++ Lib.leBytes 8 z.toNat := by
  unfold bytesOf
  rw [List.flatMap_append]
  simp
theorem bytesOf_get : ∀ (l : List Int) (i j : Nat), i < l.length → j < 8 → (bytesOf l)[8 * i + j]? = some ((l.getD i 0).toNat / 256 ^ j % 256).toUInt8
  | [], _, _, h, _ => absurd h (by simp)
  | z :: r, 0, j, _, hj => by
    unfold bytesOf
    rw [List.flatMap_cons, List.getElem?_append_left (by rw [leBytes_length]; omega), Nat.mul_zero, Nat.zero_add, leBytes_get 8 _ j hj]
    simp
  | z :: r, i + 1, j, h, hj => by
    have := bytesOf_get r i j (by simp at h; omega) hj
    unfold bytesOf at *
    rw [List.flatMap_cons, List.getElem?_append_right (by rw [leBytes_length]; omega), leBytes_length, show 8 * (i + 1) + j - 8 = 8 * i + j from by omega, this]
    simp

/-- The byte that the law asks for. -/
theorem byte_at (l : List Int) (i j : Nat) (hi : i < l.length) (hj : j < 8) (hz : 0 ≤ l.getD i 0) (s : ByteArray) (hs : s = ⟨(bytesOf l).toArray⟩) (p : Nat) (hp : p = 8 * i + j) (h : p < s.size) :
    ((s[p]'h).toNat : Int) = l.getD i 0 / 256 ^ j % 256 := by
  subst hs; subst hp
  have h1 := bytesOf_get l i j hi hj
  have hlt : 8 * i + j < (bytesOf l).length := by rw [bytesOf_length]; omega
  rw [List.getElem?_eq_getElem hlt] at h1
  injection h1 with h1
  have h2 : (⟨(bytesOf l).toArray⟩ : ByteArray)[8 * i + j]'h = (bytesOf l)[8 * i + j] := rfl
  rw [h2, h1]
  obtain ⟨v, hv⟩ := Int.eq_ofNat_of_zero_le hz
  rw [hv, Int.toNat_natCast]
  have h3 : ((v / 256 ^ j % 256).toUInt8).toNat = v / 256 ^ j % 256 := by
    show (v / 256 ^ j % 256) % 256 = _
    omega
  rw [h3]
  simp

/-! ### The walks -/
theorem Yba.info5 : (Yba.prog.info? 5).map (fun i => (i.zero, i.size, i.bytes)) = some (some (.int .u8 0), 1, 1) := by kernel_rfl

/-- A slice of uint64s: its numbers, and where they lie. -/
def Nums (w : World) (ao : Option Addr) (l : List Int) : Prop :=
  (∀ z ∈ l, 0 ≤ z ∧ z ≤ 18446744073709551615) ∧ (0 < l.length → ∃ g o, ao = some ⟨g, o, none⟩ ∧ ∀ i, i < l.length → w.cell? ⟨g, o + i, none⟩ = some (.int .u64 (l.getD i 0)))
theorem Nums.range {w : World} {ao : Option Addr} {l : List Int} (h : Nums w ao l) (i : Nat) (hi : i < l.length) : 0 ≤ l.getD i 0 ∧ l.getD i 0 ≤ 18446744073709551615 := by
  rw [List.getD_eq_getElem?_getD, List.getElem?_eq_getElem hi]
  exact h.1 _ (List.getElem_mem hi)

theorem take_one {l : List Int} {k : Nat} (h : k < l.length) : l.take (k + 1) = l.take k ++ [l.getD k 0] := by
  rw [List.take_succ_eq_append_getElem h, List.getD_eq_getElem?_getD, List.getElem?_eq_getElem h]; rfl

theorem addr_add (b o i : Nat) : (⟨b, o, none⟩ : Addr).add i = ⟨b, o + i, none⟩ := by unfold Addr.add; split <;> simp_all

/-- 'string(b)' of a slice of the call's own. -/
theorem conv_string {w : World} {B : Nat} {sv : Value} {n : Nat} {bs : List UInt8} (h : w.ownsRow B 5 1 sv n (Lib.byteCells bs)) : (convert 27 9 sv).run Yba.prog w = .ok (.string ⟨bs.toArray⟩) w := by
  have hl : bs.length = n := by have := h.1; rw [Lib.byteCells_length] at this; omega
  have h' := h
  obtain ⟨_, ⟨rfl, h0⟩ | ⟨g, cap, cur, rfl, _⟩⟩ := h
  · obtain rfl : bs = [] := List.eq_nil_of_length_eq_zero (by omega)
    exact Lib.run_convert_nil_bytes w 27 9 5 0 Yba.underlying27 Yba.underlying5 Yba.underlying9
  · subst hl
    refine run_convert_bytes_back w 27 9 5 ⟨g, 0, none⟩ cap bs Yba.underlying27 Yba.underlying5 Yba.underlying9 fun j hj => ?_
    rw [addr_add, Nat.zero_add, h'.cellAt j (by omega)]
    simp [Lib.byteCells, hj]

set_option maxHeartbeats 1000000 in
/-- writeSets. -/
theorem writeSets_any (w : World) (ao : Option Addr) (n c : Nat) (l : List Int) (hN : Nums w ao l) (hn : n = l.length) (hs : n ≤ 1024) :
    Calls Yba.prog 4 #[.slice ao n c] w fun e w' => e = .returned (.string ⟨(bytesOf l).toArray⟩) ∧ Below w.heap.size w w' := by
  obtain ⟨i0, hi, hz0, hz1, hz2⟩ := info_parts Yba.info5
  have HN := Hid.of hN
  have HL := Hid.of hn
  clear hN hn
  obtain ⟨m, hm⟩ : ∃ m : Nat, (8 : Int) * (n : Int) = (m : Int) := ⟨8 * n, by omega⟩
  go_enter Yba.func4, Yba.ntmps4
  go_wp2_with (at_make; refine wpList_make_own w rfl _ _ 27 rfl w.heap.size 5 i0 (.int .u8 0) 1 Yba.underlying27 hi hz0 hz1 .i64 .i64 _ m rfl rfl rfl (by rw [hz2]; omega) (by unfold maxLen; omega) (Nat.le_refl _) ?_; intro w1 hown hgrow; have HO := Hid.of hown; have hb1 : Below w.heap.size w w1 := (Below.refl _ _).grown hgrow (Nat.le_refl _) (fun _ h => by cases h); clear hown hgrow)
  go_loopw [3, 12] (fun sv i wr => ∃ k : Nat, k ≤ n ∧ i = .int .i64 (k : Int) ∧ wr.ownsRow w.heap.size 5 1 sv (8 * k) (Lib.byteCells (bytesOf (l.take k))) ∧ Below w.heap.size w wr) (fun _ i _ => n - (intOf i).toNat)
  case atStart => exact ⟨0, by omega, rfl, by simpa [bytesOf, Lib.byteCells] using HO.out, hb1⟩
  case round =>
    clear HO hb1
    obtain ⟨k, hk, rfl, ho, hb⟩ := hrel
    have HO := Hid.of ho
    have hsz := hb.size
    clear ho
    by_cases hlt : k < n
    · have hlt' : (k : Int) < (n : Int) := by omega
      obtain ⟨g, o, rfl, hc⟩ := HN.out.2 (by rw [← HL.out]; omega)
      have c1 := cell_later hb (hc k (by rw [← HL.out]; exact hlt))
      have hr := HN.out.range k (by rw [← HL.out]; exact hlt)
      obtain ⟨v, hv⟩ := Int.eq_ofNat_of_zero_le hr.1
      have HV := Hid.of hv
      rw [hv] at c1
      have HB : Hid (v < 18446744073709551616) := by show _ < _; omega
      clear hc hr hv
      go_wp2_with fail
      refine (Yba.binary_LE_AppendUint64 w.heap.size (8 * k) v HB.out _ _ wr HO.out hsz (by omega)).mono ?_
      rintro e w2 ⟨sv2, rfl, ho2, hb2⟩
      have HO2 := Hid.of ho2
      clear ho2
      go_wp2_with fail
      go_roundw
      case rel => exact ⟨k + 1, by omega, by go_num, by
        rw [take_one (by rw [← HL.out]; exact hlt), bytesOf_snoc, HV.out, Lib.byteCells_append]
        exact HO2.out, hb.trans hb2⟩
      case measure => simp [intOf]; omega
    · have hlt' : ¬ (k : Int) < (n : Int) := by omega
      have ek : l.take k = l := List.take_of_length_le (by rw [← HL.out]; omega)
      rw [ek] at HO
      have hconv := conv_string HO.out
      clear ek
      go_wp2_with fail
      go_ret
      exact ⟨rfl, hb⟩

set_option maxRecDepth 100000 in
set_option maxHeartbeats 2000000 in
theorem bytes_law (w : World) (ao : Option Addr) (n c : Nat) (l : List Int) (hN : Nums w ao l) (hn : n = l.length) (hmx : n ≤ 9223372036854775807) :
    Calls Yba.prog 3 #[.slice ao n c] w fun e w' => e = .returned (.bool true) ∧ Below w.heap.size w w' := by
  have HN := Hid.of hN
  have HL := Hid.of hn
  clear hN hn
  by_cases hbig : 1024 < n
  · have hbig' : (1024 : Int) < (n : Int) := by omega
    go_enter Yba.func3, Yba.ntmps3
    go_wp2_with fail
    go_ret
    exact ⟨rfl, Below.refl _ _⟩
  have hbig' : ¬ (1024 : Int) < (n : Int) := by omega
  obtain ⟨s, hs⟩ : ∃ s : ByteArray, s = ⟨(bytesOf l).toArray⟩ := ⟨_, rfl⟩
  have hsz : s.size = 8 * n := by
    rw [hs, HL.out, ← bytesOf_length]; rfl
  have HSZ := Hid.of hsz
  have HS := Hid.of hs
  have t1 : ((s.size : Int) != 8 * (n : Int)) = false := by simp; omega
  clear hsz hs
  go_enter Yba.func3, Yba.ntmps3
  go_wp2_with fail
  refine (writeSets_any w ao n c l HN.out HL.out (by omega)).mono ?_
  rintro e w1 ⟨he, hb1⟩
  rw [← HS.out] at he
  subst he
  go_wp2_with fail
  go_loop [5] (fun i => ∃ k : Nat, k ≤ n ∧ i = .int .i64 (k : Int)) (fun i => n - (intOf i).toNat)
  case atStart => exact ⟨0, by omega, rfl⟩
  case round =>
    obtain ⟨k, hk, rfl⟩ := hrel
    by_cases hlt : k < n
    · have hlt' : (k : Int) < (n : Int) := by omega
      obtain ⟨g, o, rfl, hc⟩ := HN.out.2 (by rw [← HL.out]; omega)
      have c1 := cell_later hb1 (hc k (by rw [← HL.out]; exact hlt))
      obtain ⟨z0, z1⟩ := HN.out.range k (by rw [← HL.out]; exact hlt)
      have HB : Hid (∀ (j p : Nat), j < 8 → p = 8 * k + j → ∀ h : p < s.size, ((s[p]'h).toNat : Int) = l.getD k 0 / 256 ^ j % 256) := fun j p hj hp h => byte_at l k j (by rw [← HL.out]; exact hlt) hj z0 s HS.out p hp h
      generalize l.getD k 0 = z at c1 z0 z1 HB
      clear hc
      go_wp2_with fail
      go_loop [7] (fun i => ∃ j : Nat, j ≤ 8 ∧ i = .int .i64 (j : Int)) (fun i => 8 - (intOf i).toNat)
      case atStart => exact ⟨0, by omega, rfl⟩
      case round =>
        obtain ⟨j, hj, rfl⟩ := hrel
        rcases (show j = 0 ∨ j = 1 ∨ j = 2 ∨ j = 3 ∨ j = 4 ∨ j = 5 ∨ j = 6 ∨ j = 7 ∨ j = 8 from by omega) with rfl | rfl | rfl | rfl | rfl | rfl | rfl | rfl | rfl
        · obtain ⟨p, ep⟩ : ∃ p : Nat, 8 * (k : Int) = (p : Int) := ⟨8 * k, by omega⟩
          have hp : p < s.size := by rw [HSZ.out]; omega
          have e1 := HB.out 0 p (by omega) (by omega) hp
          go_wp2_with fail
          go_round
          case rel => exact ⟨1, by omega, rfl⟩
          case measure => decide
        · obtain ⟨p, ep⟩ : ∃ p : Nat, 8 * (k : Int) + 1 = (p : Int) := ⟨8 * k + 1, by omega⟩
          have hp : p < s.size := by rw [HSZ.out]; omega
          have e1 := HB.out 1 p (by omega) (by omega) hp
          go_wp2_with fail
          go_round
          case rel => exact ⟨2, by omega, rfl⟩
          case measure => decide
        · obtain ⟨p, ep⟩ : ∃ p : Nat, 8 * (k : Int) + 2 = (p : Int) := ⟨8 * k + 2, by omega⟩
          have hp : p < s.size := by rw [HSZ.out]; omega
          have e1 := HB.out 2 p (by omega) (by omega) hp
          go_wp2_with fail
          go_round
          case rel => exact ⟨3, by omega, rfl⟩
          case measure => decide
        · obtain ⟨p, ep⟩ : ∃ p : Nat, 8 * (k : Int) + 3 = (p : Int) := ⟨8 * k + 3, by omega⟩
          have hp : p < s.size := by rw [HSZ.out]; omega
          have e1 := HB.out 3 p (by omega) (by omega) hp
          go_wp2_with fail
          go_round
          case rel => exact ⟨4, by omega, rfl⟩
          case measure => decide
        · obtain ⟨p, ep⟩ : ∃ p : Nat, 8 * (k : Int) + 4 = (p : Int) := ⟨8 * k + 4, by omega⟩
          have hp : p < s.size := by rw [HSZ.out]; omega
          have e1 := HB.out 4 p (by omega) (by omega) hp
          go_wp2_with fail
          go_round
          case rel => exact ⟨5, by omega, rfl⟩
          case measure => decide
        · obtain ⟨p, ep⟩ : ∃ p : Nat, 8 * (k : Int) + 5 = (p : Int) := ⟨8 * k + 5, by omega⟩
          have hp : p < s.size := by rw [HSZ.out]; omega
          have e1 := HB.out 5 p (by omega) (by omega) hp
          go_wp2_with fail
          go_round
          case rel => exact ⟨6, by omega, rfl⟩
          case measure => decide
        · obtain ⟨p, ep⟩ : ∃ p : Nat, 8 * (k : Int) + 6 = (p : Int) := ⟨8 * k + 6, by omega⟩
          have hp : p < s.size := by rw [HSZ.out]; omega
          have e1 := HB.out 6 p (by omega) (by omega) hp
          go_wp2_with fail
          go_round
          case rel => exact ⟨7, by omega, rfl⟩
          case measure => decide
        · obtain ⟨p, ep⟩ : ∃ p : Nat, 8 * (k : Int) + 7 = (p : Int) := ⟨8 * k + 7, by omega⟩
          have hp : p < s.size := by rw [HSZ.out]; omega
          have e1 := HB.out 7 p (by omega) (by omega) hp
          go_wp2_with fail
          go_round
          case rel => exact ⟨8, by omega, rfl⟩
          case measure => decide
        · go_wp2_with fail
          go_round
          case rel => exact ⟨k + 1, by omega, by go_num⟩
          case measure => simp [intOf]; omega
    · have hlt' : ¬ (k : Int) < (n : Int) := by omega
      go_wp2_with fail
      go_ret
      exact ⟨rfl, hb1⟩

end Go.Proofs.Ybulkbnsm
