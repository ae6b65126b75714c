/-
  tunnel.sumWords: the sum that it returns, modulo 65535.
-/
import Derived.Test.YbulkbnncLeaf
import Derived.Test.YbulkbnncShelf
import Derived.Deep.RegionHeld3
namespace Go.Proofs.Ybulkbnnc
open Go.RowKit Go.Shelf

/-- A slice's octets: its numbers, and where they lie. -/
def Octs (w : World) (ao : Option Addr) (l : List Int) : Prop :=
  M.Oct l ∧ (l ≠ [] → ∃ g o, ao = some ⟨g, o, none⟩ ∧ ∀ i, i < l.length → w.cell? ⟨g, o + i, none⟩ = some (.int .u8 (l.getD i 0)))

theorem oct_wf {l : List Int} (h : M.Oct l) : ∀ z ∈ l, (Lit.int .u8 z).wf = true := fun z hz => by
  have e1 : IntKind.u8.min = 0 := rfl
  have e2 : IntKind.u8.max = 255 := rfl
  have := h z hz
  simp [Lit.wf, e1, e2]; omega

theorem leZ_le8 (l : List Int) (h : 8 ≤ l.length) : Lib.leZ (l.take 8) = M.le8 l := by
  match l, h with
  | z0 :: z1 :: z2 :: z3 :: z4 :: z5 :: z6 :: z7 :: r, _ =>
    simp only [List.take_succ_cons, List.take_zero, Lib.leZ, M.le8, List.getD_cons_zero, List.getD_cons_succ]
    omega
theorem beZ_two (l : List Int) (h : 2 ≤ l.length) : Lib.beZ (l.take 2) = l.getD 0 0 * 256 + l.getD 1 0 := by
  match l, h with
  | z0 :: z1 :: r, _ =>
    simp only [List.take_succ_cons, List.take_zero, Lib.beZ, Lib.beFromZ, List.getD_cons_zero, List.getD_cons_succ]
    omega

/-- binary.LittleEndian.Uint64 at octets of the first world, called in a later one. -/
theorem le64 (w wx : World) (g o k n c : Nat) (l : List Int) (hO : M.Oct l) (hcell : ∀ i, i < l.length → w.cell? ⟨g, o + i, none⟩ = some (.int .u8 (l.getD i 0)))
    (hk : k + 8 ≤ l.length) (hn : 8 ≤ n) (hb : Below w.heap.size w wx) :
    Calls Yba.prog 14 #[.agg #[], .slice (some ⟨g, o + k, none⟩) n c] wx fun e w' => e = .returned (.int .u64 (M.le8 (l.drop k))) ∧ Below w.heap.size w w' := by
  have h := Yba.binary_LE_Uint64_z ⟨g, o + k, none⟩ n c (l.drop k) wx hn (by simp; omega) (fun i hi => by
    have hi' : k + i < l.length := by simp at hi; omega
    have := cell_later hb (hcell (k + i) hi')
    rw [Lib.add_plain, show o + k + i = o + (k + i) from by omega, this]
    simp [List.getD_eq_getElem?_getD]) (oct_wf (hO.drop k))
  refine h.mono fun e w' ⟨he, hb'⟩ => ⟨?_, ?_⟩
  · rw [he, leZ_le8 _ (by simp; omega)]
  · exact hb.trans (hb'.mono hb.size)

theorem le64_0 (w wx : World) (g o n c : Nat) (l : List Int) (hO : M.Oct l) (hcell : ∀ i, i < l.length → w.cell? ⟨g, o + i, none⟩ = some (.int .u8 (l.getD i 0)))
    (hk : 8 ≤ l.length) (hn : 8 ≤ n) (hb : Below w.heap.size w wx) :
    Calls Yba.prog 14 #[.agg #[], .slice (some ⟨g, o, none⟩) n c] wx fun e w' => e = .returned (.int .u64 (M.le8 l)) ∧ Below w.heap.size w w' :=
  le64 w wx g o 0 n c l hO hcell (by omega) hn hb

theorem be16 (w wx : World) (g o n c : Nat) (l : List Int) (hO : M.Oct l) (hcell : ∀ i, i < l.length → w.cell? ⟨g, o + i, none⟩ = some (.int .u8 (l.getD i 0)))
    (hk : 2 ≤ l.length) (hn : 2 ≤ n) (hb : Below w.heap.size w wx) :
    Calls Yba.prog 16 #[.agg #[], .slice (some ⟨g, o, none⟩) n c] wx fun e w' => e = .returned (.int .u16 (l.getD 0 0 * 256 + l.getD 1 0)) ∧ Below w.heap.size w w' := by
  have h := Yba.binary_BE_Uint16_z ⟨g, o, none⟩ n c l wx hn hk (fun i hi => by
    have := cell_later hb (hcell i hi)
    rw [Lib.add_plain, this]) (oct_wf hO)
  refine h.mono fun e w' ⟨he, hb'⟩ => ⟨?_, ?_⟩
  · rw [he, beZ_two _ hk]
  · exact hb.trans (hb'.mono hb.size)

/-- A uint64. -/
def U64 (x : Int) : Prop := 0 ≤ x ∧ x ≤ 18446744073709551615
/-- A carry. -/
def Bit (x : Int) : Prop := 0 ≤ x ∧ x ≤ 1

/-- bits.Add64 with its results named. -/
theorem addx (A x C : Int) (hA : U64 A) (hx : U64 x) (hC : Bit C) : ∃ A' C', U64 A' ∧ Bit C' ∧ Hid (A' + 18446744073709551616 * C' = A + x + C) ∧
    ∀ w, (callFunc 13 #[.int .u64 A, .int .u64 x, .int .u64 C]).run Yba.prog w = .ok (.value (.tuple #[.int .u64 A', .int .u64 C'])) w := by
  obtain ⟨a0, a1⟩ := hA; obtain ⟨x0, x1⟩ := hx; obtain ⟨c0, c1⟩ := hC
  refine ⟨(A + x + C) % 18446744073709551616, (A + x + C) / 18446744073709551616, ⟨by omega, by omega⟩, ⟨by omega, by omega⟩, show (_ : Int) = _ from by omega, fun w => ?_⟩
  obtain ⟨A, rfl⟩ := Int.eq_ofNat_of_zero_le a0
  obtain ⟨x, rfl⟩ := Int.eq_ofNat_of_zero_le x0
  obtain ⟨C, rfl⟩ := Int.eq_ofNat_of_zero_le c0
  refine (Any7.bits_Add64 Yba.lays25 A x C (by omega) w).trans ?_
  congr 5 <;> omega

/-- A slice's length. -/
def lenOf : Value → Nat
  | .slice _ n _ => n
  | _ => 0

/-- What a round leaves of b, acc, carry: 'l' is what is left of 'zs'. -/
def Left (w : World) (zs : List Int) (ao : Option Addr) (c : Nat) (l : List Int) (A C : Int) : Prop :=
  Octs w ao l ∧ l.length ≤ c ∧ c ≤ 9223372036854775807 ∧ U64 A ∧ Bit C ∧ ((A + C) * 256 + M.W l - M.W zs) % 65535 = 0

theorem Octs.drop {w : World} {g o k : Nat} {l : List Int} (c : Nat) (h : Octs w (some ⟨g, o, none⟩) l) (hc : l.length ≤ c) : Octs w (if c = k then some ⟨g, o, none⟩ else some ⟨g, o + k, none⟩) (l.drop k) := by
  refine ⟨h.1.drop k, fun hne => ?_⟩
  have hl : k < l.length := by
    by_cases hk : k < l.length
    · exact hk
    · exact absurd (List.drop_eq_nil_of_le (by omega)) hne
  obtain ⟨g', o', e, hcell⟩ := h.2 (by intro e; subst e; simp at hl)
  simp at e
  obtain ⟨rfl, rfl⟩ := e
  refine ⟨g, o + k, by rw [if_neg (by omega)], fun i hi => ?_⟩
  have := hcell (k + i) (by simp at hi; omega)
  rw [show o + k + i = o + (k + i) from by omega, this]
  simp [List.getD_eq_getElem?_getD]

theorem add_cong {A x C A' C' r0 r1 t : Int} (h : ((A + C) * 256 + r0 - t) % 65535 = 0) (hx : (x * 256 + r1 - r0) % 65535 = 0) (e : A' + 18446744073709551616 * C' = A + x + C) :
    ((A' + C') * 256 + r1 - t) % 65535 = 0 := by omega

/-- Eight octets more. -/
theorem left_8 {w : World} {zs l : List Int} {g o c : Nat} {A C A1 C1 : Int} (hO : Octs w (some ⟨g, o, none⟩) l) (hlc : l.length ≤ c) (hcm : c ≤ 9223372036854775807) (h8 : 8 ≤ l.length)
    (hA : U64 A1) (hC : Bit C1) (h : ((A + C) * 256 + M.W l - M.W zs) % 65535 = 0) (E1 : A1 + 18446744073709551616 * C1 = A + M.le8 l + C) :
    Left w zs (if c = 8 then some ⟨g, o, none⟩ else some ⟨g, o + 8, none⟩) (c - 8) (l.drop 8) A1 C1 :=
  ⟨hO.drop c hlc, by simp; omega, by omega, hA, hC, add_cong h (M.le8_W l h8) E1⟩

/-- Thirty-two octets more. -/
theorem left_32 {w : World} {zs l : List Int} {g o c : Nat} {A C A1 C1 A2 C2 A3 C3 A4 C4 : Int} (hO : Octs w (some ⟨g, o, none⟩) l) (hlc : l.length ≤ c) (hcm : c ≤ 9223372036854775807) (h32 : 32 ≤ l.length)
    (hA : U64 A4) (hC : Bit C4) (h : ((A + C) * 256 + M.W l - M.W zs) % 65535 = 0) (E1 : A1 + 18446744073709551616 * C1 = A + M.le8 l + C) (E2 : A2 + 18446744073709551616 * C2 = A1 + M.le8 (l.drop 8) + C1)
    (E3 : A3 + 18446744073709551616 * C3 = A2 + M.le8 (l.drop 16) + C2) (E4 : A4 + 18446744073709551616 * C4 = A3 + M.le8 (l.drop 24) + C3) :
    Left w zs (if c = 32 then some ⟨g, o, none⟩ else some ⟨g, o + 32, none⟩) (c - 32) (l.drop 32) A4 C4 := by
  have h1 := add_cong h (M.le8_W l (by omega)) E1
  have h2 := add_cong h1 (M.le8_W (l.drop 8) (by simp; omega)) E2
  rw [List.drop_drop] at h2
  have h3 := add_cong h2 (M.le8_W (l.drop 16) (by simp; omega)) E3
  rw [List.drop_drop] at h3
  have h4 := add_cong h3 (M.le8_W (l.drop 24) (by simp; omega)) E4
  rw [List.drop_drop] at h4
  exact ⟨hO.drop c hlc, by simp; omega, by omega, hA, hC, h4⟩

/-- math/bits.ReverseBytes16, its result named. -/
theorem reverse_y (x : Int) (h0 : 0 ≤ x) (h1 : x ≤ 65535) (w : World) :
    Calls Yba.prog 15 #[.int .u16 x] w fun e w' => ∃ y : Int, e = .returned (.int .u16 y) ∧ 0 ≤ y ∧ y ≤ 65535 ∧ Hid ((y - x * 256) % 65535 = 0) ∧ w' = w :=
  (reverse_any x h0 h1 w).mono fun _ _ ⟨he, hw⟩ => ⟨_, he, (M.rev16 x h0 h1).2.1, (M.rev16 x h0 h1).2.2, (M.rev16 x h0 h1).1, hw⟩

/-- What a round of the last runs leaves. -/
def Left4 (w : World) (zs : List Int) (s : Int) (ao : Option Addr) (c : Nat) (l : List Int) (S : Int) : Prop :=
  Octs w ao l ∧ l.length ≤ c ∧ c ≤ 9223372036854775807 ∧ s ≤ S ∧ S + 65536 * (l.length : Int) ≤ 8589934592 ∧ (S + M.W l - s - M.W zs) % 65535 = 0

theorem left_2 {w : World} {zs l : List Int} {s S : Int} {g o c : Nat} (hO : Octs w (some ⟨g, o, none⟩) l) (hlc : l.length ≤ c) (hcm : c ≤ 9223372036854775807) (h2 : 2 ≤ l.length)
    (hs : s ≤ S) (hS : S + 65536 * (l.length : Int) ≤ 8589934592) (h : (S + M.W l - s - M.W zs) % 65535 = 0) :
    Left4 w zs s (if c = 2 then some ⟨g, o, none⟩ else some ⟨g, o + 2, none⟩) (c - 2) (l.drop 2) (S + (l.getD 0 0 * 256 + l.getD 1 0)) := by
  have g0 := hO.1.get 0
  have g1 := hO.1.get 1
  have e := M.W_two l h2
  exact ⟨hO.drop c hlc, by simp; omega, by omega, by omega, by simp only [List.length_drop]; omega, by omega⟩

theorem cong4 {A C A1 C1 x y r t : Int} (h : ((A + C) * 256 + r - t) % 65535 = 0) (e : A1 + 18446744073709551616 * C1 = A + 0 + C) (hx : (x - (A1 + C1)) % 65535 = 0) (hy : (y - x * 256) % 65535 = 0) (s : Int) :
    (y + s + r - s - t) % 65535 = 0 := by omega

/-- The last octets. -/
theorem last_1 {w : World} {ao : Option Addr} {l : List Int} {S s t : Int} (hO : Octs w ao l) (h1 : l.length = 1) (h : (S + M.W l - s - t) % 65535 = 0) :
    ∃ g o, ao = some ⟨g, o, none⟩ ∧ w.cell? ⟨g, o, none⟩ = some (.int .u8 (l.getD 0 0)) ∧ 0 ≤ l.getD 0 0 ∧ l.getD 0 0 ≤ 255 ∧ Hid ((S + l.getD 0 0 * 256 - s - t) % 65535 = 0) := by
  obtain ⟨g, o, e, hc⟩ := hO.2 (by intro e; subst e; simp at h1)
  have := M.W_one l h1
  exact ⟨g, o, e, hc 0 (by omega), (hO.1.get 0).1, (hO.1.get 0).2, show (_ : Int) = 0 by rw [← this]; exact h⟩

theorem W_none {l : List Int} (h : l.length = 0) : M.W l = 0 := by
  cases l with
  | nil => rfl
  | cons a r => simp at h

set_option maxHeartbeats 2000000 in
theorem sumWords_any (s : Int) (hs0 : 0 ≤ s) (hs1 : s ≤ 4294967295) (ao : Option Addr) (c : Nat) (zs : List Int) (w : World) (hO : Octs w ao zs) (hc : zs.length ≤ c) (hcm : c ≤ 9223372036854775807) :
    Calls Yba.prog 10 #[.int .u32 s, .slice ao zs.length c] w fun e w' => ∃ r : Int, e = .returned (.int .u32 r) ∧ 0 ≤ r ∧ r ≤ 4294967295 ∧ (r - s - M.W zs) % 65535 = 0 ∧ (0 < s → 0 < r) ∧ Below w.heap.size w w' := by
  have HO : Hid (Octs w ao zs) := hO
  clear hO
  go_enter Yba.func10, Yba.ntmps10
  go_wp2
  go_loopw [1, 6, 7] (fun b acc car wr => ∃ (ao : Option Addr) (c : Nat) (l : List Int) (A C : Int), b = .slice ao l.length c ∧ acc = .int .u64 A ∧ car = .int .u64 C ∧ Left w zs ao c l A C ∧ Below w.heap.size w wr) (fun b _ _ _ => lenOf b)
  case atStart => exact ⟨ao, c, zs, 0, 0, rfl, rfl, rfl, ⟨HO.out, hc, hcm, ⟨by omega, by omega⟩, ⟨by omega, by omega⟩, by omega⟩, (Below.refl _ _).alloc (Nat.le_refl _) _⟩
  case round =>
    clear HO hc hcm c ao
    obtain ⟨ao, c, l, A, C, rfl, rfl, rfl, hL, hb⟩ := hrel
    obtain ⟨hO, hlc, hcm, hA, hC, hrel⟩ := hL
    have H : Hid (((A + C) * 256 + M.W l - M.W zs) % 65535 = 0) := hrel
    clear hrel
    by_cases h32 : 32 ≤ l.length
    · obtain ⟨g, o, rfl, hcell⟩ := hO.2 (by intro e; subst e; simp at h32)
      obtain ⟨A1, C1, hA1, hC1, E1, run1⟩ := addx A (M.le8 l) C hA (M.le8_range _ hO.1) hC
      obtain ⟨A2, C2, hA2, hC2, E2, run2⟩ := addx A1 (M.le8 (l.drop 8)) C1 hA1 (M.le8_range _ (hO.1.drop _)) hC1
      obtain ⟨A3, C3, hA3, hC3, E3, run3⟩ := addx A2 (M.le8 (l.drop 16)) C2 hA2 (M.le8_range _ (hO.1.drop _)) hC2
      obtain ⟨A4, C4, hA4, hC4, E4, run4⟩ := addx A3 (M.le8 (l.drop 24)) C3 hA3 (M.le8_range _ (hO.1.drop _)) hC3
      have HL : Hid (Octs w (some ⟨g, o, none⟩) l) := hO
      have HC : Hid (∀ i, i < l.length → w.cell? ⟨g, o + i, none⟩ = some (.int .u8 (l.getD i 0))) := hcell
      have n1 : ¬ c = 8 := by omega
      have n2 : ¬ c = 16 := by omega
      have n3 : ¬ c = 24 := by omega
      have l0 : (8 : Int) ≤ (l.length : Int) := by omega
      have l1 : (16 : Int) ≤ (l.length : Int) := by omega
      have l2 : (24 : Int) ≤ (l.length : Int) := by omega
      have l3 : (32 : Int) ≤ (l.length : Int) := by omega
      clear hO hcell
      go_wp2_with fail
      refine (le64_0 w _ g o _ _ l HL.out.1 HC.out (by omega) (by omega) hb).mono ?_
      rintro e w1 ⟨rfl, hb1⟩
      go_wp2_with fail
      go_region_held3 (fun w' => Below w.heap.size w w') (first | exact hb1.drew | assumption) (first | (go_at_call 14; refine (le64 w _ g o 8 _ _ l HL.out.1 HC.out (by omega) (by omega) ?_).mono ?_; exact hb1.drew; rintro e w2 ⟨rfl, hb2⟩))
      go_wp2_with fail
      go_region_held3 (fun w' => Below w.heap.size w w') (first | exact hb2.drew | assumption) (first | (go_at_call 14; refine (le64 w _ g o 16 _ _ l HL.out.1 HC.out (by omega) (by omega) ?_).mono ?_; exact hb2.drew; rintro e w3 ⟨rfl, hb3⟩))
      go_wp2_with fail
      go_region_held3 (fun w' => Below w.heap.size w w') (first | exact hb3.drew | assumption) (first | (go_at_call 14; refine (le64 w _ g o 24 _ _ l HL.out.1 HC.out (by omega) (by omega) ?_).mono ?_; exact hb3.drew; rintro e w4 ⟨rfl, hb4⟩))
      go_wp2_with fail
      go_roundw
      case rel => exact ⟨_, _, l.drop 32, A4, C4, by rw [List.length_drop], rfl, rfl, left_32 HL.out hlc hcm h32 hA4 hC4 H.out E1.out E2.out E3.out E4.out, hb4⟩
      case measure => simp [lenOf]; omega
    · have HL : Hid (Octs w ao l) := hO
      clear hO
      have h32' : (l.length : Int) < 32 := by omega
      go_wp2
      go_loopw [1, 6, 7] (fun b acc car wr => ∃ (ao : Option Addr) (c : Nat) (l : List Int) (A C : Int), b = .slice ao l.length c ∧ acc = .int .u64 A ∧ car = .int .u64 C ∧ Left w zs ao c l A C ∧ Below w.heap.size w wr) (fun b _ _ _ => lenOf b)
      case atStart => exact ⟨ao, c, l, A, C, rfl, rfl, rfl, ⟨HL.out, hlc, hcm, hA, hC, H.out⟩, hb⟩
      case round =>
        clear HL hlc hcm hA hC H hb h32 h32'
        obtain ⟨ao, c, l, A, C, rfl, rfl, rfl, hL, hb⟩ := hrel
        obtain ⟨hO, hlc, hcm, hA, hC, hrel⟩ := hL
        have H : Hid (((A + C) * 256 + M.W l - M.W zs) % 65535 = 0) := hrel
        clear hrel
        by_cases h8 : 8 ≤ l.length
        · obtain ⟨g, o, rfl, hcell⟩ := hO.2 (by intro e; subst e; simp at h8)
          obtain ⟨A1, C1, hA1, hC1, E1, run1⟩ := addx A (M.le8 l) C hA (M.le8_range _ hO.1) hC
          have HL : Hid (Octs w (some ⟨g, o, none⟩) l) := hO
          have HC : Hid (∀ i, i < l.length → w.cell? ⟨g, o + i, none⟩ = some (.int .u8 (l.getD i 0))) := hcell
          have l0 : (8 : Int) ≤ (l.length : Int) := by omega
          clear hO hcell
          go_wp2_with fail
          refine (le64_0 w _ g o _ _ l HL.out.1 HC.out (by omega) (by omega) hb).mono ?_
          rintro e w1 ⟨rfl, hb1⟩
          go_wp2_with fail
          go_roundw
          case rel => exact ⟨_, _, l.drop 8, A1, C1, by rw [List.length_drop], rfl, rfl, left_8 HL.out hlc hcm h8 hA1 hC1 H.out E1.out, hb1⟩
          case measure => simp [lenOf]; omega
        · have HL : Hid (Octs w ao l) := hO
          clear hO
          have h8' : (l.length : Int) < 8 := by omega
          obtain ⟨A1, C1, hA1, hC1, E1, run1⟩ := addx A 0 C hA ⟨by omega, by omega⟩ hC
          have k0 : 0 ≤ A1 + C1 := by have := hA1.1; have := hC1.1; omega
          have k1 : A1 + C1 ≤ 18446744073709551615 := by have := E1.out; have := hA.2; have := hA1.1; have := hC.2; have := hC1.1; have := hC1.2; have := hA1.2; omega
          go_wp2
          go_loop [6] (fun t => ∃ x : Int, 0 ≤ x ∧ x ≤ 18446744073709551615 ∧ (x - (A1 + C1)) % 65535 = 0 ∧ t = .int .u64 x) (fun t => (intOf t).toNat)
          case atStart => exact ⟨A1 + C1, k0, k1, by omega, rfl⟩
          case round =>
            obtain ⟨x, hx0, hx1, hxr, rfl⟩ := hrel
            have HX : Hid ((x - (A1 + C1)) % 65535 = 0) := hxr
            clear hxr
            by_cases hx : 65535 < x
            · have hba := bits_and16_u64 x hx0 hx1
              go_wp2
              go_round
              case rel => exact ⟨x / 65536 + x % 65536, by omega, by omega, by have := (M.fold16 x hx).1; have := HX.out; omega, by congr 1⟩
              case measure => simp [intOf]; omega
            · have hx2 : x ≤ 65535 := by omega
              go_wp2_with (go_at_call 15; refine (reverse_y _ (by omega) (by omega) _).mono ?_; rintro e w' ⟨y, rfl, hy0, hy1, HY, rfl⟩)
              go_loopw [1, 8] (fun b t wr => ∃ (ao : Option Addr) (c : Nat) (l : List Int) (S : Int), b = .slice ao l.length c ∧ t = .int .u64 S ∧ Left4 w zs s ao c l S ∧ Below w.heap.size w wr) (fun b _ _ => lenOf b)
              case atStart => exact ⟨ao, c, l, y + s, rfl, rfl, ⟨HL.out, hlc, hcm, by omega, by omega, cong4 H.out E1.out HX.out HY.out s⟩, hb⟩
              case round =>
                clear HL hlc hcm hA hC H h8 h8' hA1 hC1 E1 k0 k1 hx0 hx1 HX hx2 hy0 hy1 HY hb hx run1
                obtain ⟨ao, c, l, S, rfl, rfl, hL, hb⟩ := hrel
                obtain ⟨hO, hlc, hcm, hS0, hS1, hrel⟩ := hL
                have H : Hid ((S + M.W l - s - M.W zs) % 65535 = 0) := hrel
                clear hrel
                by_cases h2 : 2 ≤ l.length
                · obtain ⟨g, o, rfl, hcell⟩ := hO.2 (by intro e; subst e; simp at h2)
                  have HL : Hid (Octs w (some ⟨g, o, none⟩) l) := hO
                  have HC : Hid (∀ i, i < l.length → w.cell? ⟨g, o + i, none⟩ = some (.int .u8 (l.getD i 0))) := hcell
                  obtain ⟨z, hz⟩ : ∃ z, z = l.getD 0 0 * 256 + l.getD 1 0 := ⟨_, rfl⟩
                  have hz0 : 0 ≤ z := by have := hO.1.get 0; have := hO.1.get 1; omega
                  have hz1 : z ≤ 65535 := by have := hO.1.get 0; have := hO.1.get 1; omega
                  have HZ : Hid (z = l.getD 0 0 * 256 + l.getD 1 0) := hz
                  have l0 : (2 : Int) ≤ (l.length : Int) := by omega
                  clear hO hcell hz
                  go_wp2_with fail
                  refine (be16 w _ g o _ _ l HL.out.1 HC.out (by omega) (by omega) hb).mono ?_
                  rintro e w1 ⟨rfl, hb1⟩
                  rw [← HZ.out]
                  go_wp2_with fail
                  go_roundw
                  case rel => exact ⟨_, _, l.drop 2, S + z, by rw [List.length_drop], rfl, by rw [HZ.out]; exact left_2 HL.out hlc hcm h2 hS0 hS1 H.out, hb1⟩
                  case measure => simp [lenOf]; omega
                · by_cases h1 : l.length = 1
                  · obtain ⟨g, o, rfl, hcell, hz0, hz1, HZ⟩ := last_1 hO h1 H.out
                    generalize l.getD 0 0 = z at hcell hz0 hz1 HZ
                    have hcell' := cell_later hb hcell
                    have l1 : ((l.length : Int) == 1) = true := by simp; omega
                    have l2 : (l.length : Int) < 2 := by omega
                    have l3 : (0 : Int) < (l.length : Int) := by omega
                    clear hO hcell h1
                    go_wp2
                    go_loop [8] (fun t => ∃ x : Int, 0 ≤ x ∧ x ≤ 18446744073709551615 ∧ (x - s - M.W zs) % 65535 = 0 ∧ (0 < s → 0 < x) ∧ t = .int .u64 x) (fun t => (intOf t).toNat)
                    case atStart => exact ⟨S + z * 256, by omega, by omega, HZ.out, by omega, rfl⟩
                    case round =>
                      obtain ⟨x, hx0, hx1, hxr, hxp, rfl⟩ := hrel
                      have HX : Hid ((x - s - M.W zs) % 65535 = 0) := hxr
                      have HP : Hid (0 < s → 0 < x) := hxp
                      clear hxr hxp
                      by_cases hx : 4294967295 < x
                      · have hba := bits_and32_u64 x hx0 hx1
                        go_wp2
                        go_round
                        case rel => exact ⟨x / 4294967296 + x % 4294967296, by omega, by omega, by have := (M.fold32 x hx).1; have := HX.out; omega, fun _ => (M.fold32 x hx).2.1, by congr 1⟩
                        case measure => simp [intOf]; omega
                      · have hx2 : x ≤ 4294967295 := by omega
                        go_wp2
                        go_ret
                        exact ⟨x, rfl, hx0, hx2, HX.out, HP.out, hb⟩
                  · have l1 : ((l.length : Int) == 1) = false := by simp; omega
                    have l2 : (l.length : Int) < 2 := by omega
                    have HW : Hid (M.W l = 0) := W_none (by omega)
                    clear hO h1
                    go_wp2
                    go_loop [8] (fun t => ∃ x : Int, 0 ≤ x ∧ x ≤ 18446744073709551615 ∧ (x - s - M.W zs) % 65535 = 0 ∧ (0 < s → 0 < x) ∧ t = .int .u64 x) (fun t => (intOf t).toNat)
                    case atStart => exact ⟨S, by omega, by omega, by have := H.out; have := HW.out; omega, by omega, rfl⟩
                    case round =>
                      obtain ⟨x, hx0, hx1, hxr, hxp, rfl⟩ := hrel
                      have HX : Hid ((x - s - M.W zs) % 65535 = 0) := hxr
                      have HP : Hid (0 < s → 0 < x) := hxp
                      clear hxr hxp
                      by_cases hx : 4294967295 < x
                      · have hba := bits_and32_u64 x hx0 hx1
                        go_wp2
                        go_round
                        case rel => exact ⟨x / 4294967296 + x % 4294967296, by omega, by omega, by have := (M.fold32 x hx).1; have := HX.out; omega, fun _ => (M.fold32 x hx).2.1, by congr 1⟩
                        case measure => simp [intOf]; omega
                      · have hx2 : x ≤ 4294967295 := by omega
                        go_wp2
                        go_ret
                        exact ⟨x, rfl, hx0, hx2, HX.out, HP.out, hb⟩

end Go.Proofs.Ybulkbnnc
