/-
  tunnel.checksum, zzs3213afam, math/bits.ReverseBytes16: what each call computes. Small laws on bits.
-/
import Derived.Test.YbulkbnncRows
import Derived.Test.YbulkbnncMath
import Derived.WalkKit
import Derived.WalkSpells
import Derived.WalkLawsBesides
import Derived.Laws.BitsAllLaws
import Derived.Lib.EndianBits
import Derived.Deep.QuietTactic
import Derived.BigQuiet
namespace Go.Proofs.Ybulkbnnc
open Go.RowKit

theorem ret_int {k : IntKind} {a b : Int} (h : a = b) : Ending.returned (.int k a) = .returned (.int k b) := by rw [h]

theorem xor16 (n : Nat) (h : n < 65536) : 65535 ^^^ n = 65535 - n := by
  have e := congrArg BitVec.toNat (BitVec.allOnes_xor (x := BitVec.ofNat 16 n))
  simp only [BitVec.toNat_xor, BitVec.toNat_allOnes, BitVec.toNat_not, BitVec.toNat_ofNat] at e
  rw [Nat.mod_eq_of_lt h] at e
  exact e
theorem and16 (n : Nat) : n &&& 65535 = n % 65536 := Nat.and_two_pow_sub_one_eq_mod n 16
theorem and32 (n : Nat) : n &&& 4294967295 = n % 4294967296 := Nat.and_two_pow_sub_one_eq_mod n 32

theorem bits_and16_u32 (x : Int) (h0 : 0 ≤ x) (h1 : x ≤ 4294967295) : bits .and .u32 x 65535 = x % 65536 := by
  rw [u32_and x 65535 h0 (by omega) (by omega) (by omega), show (65535 : Int).toNat = 65535 from rfl, and16]; omega
theorem bits_and16_u64 (x : Int) (h0 : 0 ≤ x) (h1 : x ≤ 18446744073709551615) : bits .and .u64 x 65535 = x % 65536 := by
  rw [u64_and x 65535 h0 (by omega) (by omega) (by omega), show (65535 : Int).toNat = 65535 from rfl, and16]; omega
theorem bits_and32_u64 (x : Int) (h0 : 0 ≤ x) (h1 : x ≤ 18446744073709551615) : bits .and .u64 x 4294967295 = x % 4294967296 := by
  rw [u64_and x 4294967295 h0 (by omega) (by omega) (by omega), show (4294967295 : Int).toNat = 4294967295 from rfl, and32]; omega
theorem bits_not16 (x : Int) (h0 : 0 ≤ x) (h1 : x ≤ 65535) : bits .xor .u16 IntKind.u16.max x = 65535 - x := by
  rw [show IntKind.u16.max = 65535 from rfl, u16_xor 65535 x (by omega) (by omega) h0 (by omega), show (65535 : Int).toNat = 65535 from rfl, xor16 _ (by omega)]; omega

/-- tunnel.checksum. -/
theorem checksum_any (s : Int) (h0 : 0 ≤ s) (h1 : s ≤ 4294967295) (w : World) :
    Calls Yba.prog 12 #[.int .u32 s] w fun e w' => e = .returned (.int .u16 (65535 - M.F s)) ∧ w' = w := by
  go_enter Yba.func12, Yba.ntmps12
  go_wp2
  go_loop [0] (fun t => ∃ x : Int, 0 ≤ x ∧ x ≤ 4294967295 ∧ M.F x = M.F s ∧ t = .int .u32 x) (fun t => (intOf t).toNat)
  case atStart => exact ⟨s, h0, h1, rfl, rfl⟩
  case round =>
    obtain ⟨x, hx0, hx1, hF, rfl⟩ := hrel
    have HF : Hid (M.F x = M.F s) := hF
    clear hF
    by_cases hc : 65535 < x
    · have hb := bits_and16_u32 x hx0 hx1
      go_wp2
      go_round
      case rel => exact ⟨x / 65536 + x % 65536, by omega, by omega, by rw [M.F_fold x hc, HF.out], by congr 1; omega⟩
      case measure => simp [intOf]; omega
    · have hx2 : x ≤ 65535 := by omega
      have hb := bits_not16 x hx0 hx2
      go_wp2
      go_ret
      exact ⟨ret_int (by rw [← HF.out, M.F_small x hx0 hx2]), rfl⟩

/-- math/bits.ReverseBytes16. -/
theorem reverse_any (x : Int) (h0 : 0 ≤ x) (h1 : x ≤ 65535) (w : World) :
    Calls Yba.prog 15 #[.int .u16 x] w fun e w' => e = .returned (.int .u16 ((x % 256) * 256 + x / 256)) ∧ w' = w := by
  go_enter Yba.func15, Yba.ntmps15
  go_wp2
  go_ret
  refine ⟨ret_int ?_, rfl⟩
  rw [Go.IntKind.wrap_u16, u16_or8 _ _ (by omega) (by omega) (by omega) (by omega) (by omega)]
  omega

/-- What tcpChecksumOf and the model read of a family at block fb. -/
def FamAt (w : World) (fb src dst al : Nat) : Prop :=
  w.cell? ⟨fb, 3, none⟩ = some (.int .i64 src) ∧ w.cell? ⟨fb, 4, none⟩ = some (.int .i64 dst) ∧ w.cell? ⟨fb, 5, none⟩ = some (.int .i64 al)

/-- zzs3213afam. -/
theorem fam_any (v4 : Bool) (w : World) :
    Calls Yba.prog 5 #[.bool v4] w fun e w' => e = .returned (.pointer (some ⟨w.heap.size, 0, none⟩)) ∧ FamAt w' w.heap.size (if v4 then 12 else 8) (if v4 then 16 else 24) (if v4 then 4 else 16) ∧ Below w.heap.size w w' ∧ w'.heap.size = w.heap.size + 1 := by
  cases v4
  all_goals
    go_enter Yba.func5, Yba.ntmps5
    go_wp2
    go_ret
    exact ⟨rfl, ⟨by simp [go_sem], by simp [go_sem], by simp [go_sem]⟩, (Below.refl _ _).alloc (Nat.le_refl _) _, by simp⟩

/-- (*family).addresses. -/
theorem addresses_any (fb src dst al g o n c : Nat) (w : World) (hf : FamAt w fb src dst al) (hs : src + al ≤ n) (hd : dst + al ≤ n) (ha : 0 < al) (hn : n ≤ c) (hc : c ≤ 9223372036854775807) :
    Calls Yba.prog 9 #[.pointer (some ⟨fb, 0, none⟩), .slice (some ⟨g, o, none⟩) n c] w fun e w' => e = .returned (.tuple #[.slice (some ⟨g, o + src, none⟩) al (c - src), .slice (some ⟨g, o + dst, none⟩) al (c - dst)]) ∧ ∃ k, w' = w.drewN k := by
  obtain ⟨f3, f4, f5⟩ := hf
  have e1 : ¬ c = src := by omega
  have e2 : ¬ c = dst := by omega
  go_enter Yba.func9, Yba.ntmps9
  go_wp2
  go_quiet (fail)
  go_wp2
  go_ret2
  refine ⟨?_, nq, rfl⟩
  show Ending.returned (.tuple #[.slice (some ⟨g, o + src, none⟩) (src + al - src) (c - src), .slice (some ⟨g, o + dst, none⟩) (dst + al - dst) (c - dst)]) = _
  rw [show src + al - src = al from by omega, show dst + al - dst = al from by omega]

end Go.Proofs.Ybulkbnnc
