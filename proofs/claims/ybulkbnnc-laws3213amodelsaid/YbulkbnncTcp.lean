/-
  tunnel.pseudoSum, tcpChecksumOf: the checksum that it returns.
-/
import Derived.Test.YbulkbnncSum
namespace Go.Proofs.Ybulkbnnc
open Go.RowKit Go.Shelf

theorem Octs.later {w w' : World} {ao : Option Addr} {l : List Int} (h : Octs w ao l) (hb : Below w.heap.size w w') : Octs w' ao l :=
  ⟨h.1, fun hne => by obtain ⟨g, o, e, hc⟩ := h.2 hne; exact ⟨g, o, e, fun i hi => cell_later hb (hc i hi)⟩⟩

/-- tunnel.sumWords at octets of the first world, called in a later one. -/
theorem sumWords_at (w wx : World) (s : Int) (hs0 : 0 ≤ s) (hs1 : s ≤ 4294967295) (ao : Option Addr) (n c : Nat) (l : List Int) (hO : Octs w ao l) (hn : n = l.length) (hc : n ≤ c) (hcm : c ≤ 9223372036854775807) (hb : Below w.heap.size w wx) :
    Calls Yba.prog 10 #[.int .u32 s, .slice ao n c] wx fun e w' => ∃ r : Int, e = .returned (.int .u32 r) ∧ 0 ≤ r ∧ r ≤ 4294967295 ∧ Hid ((r - s - M.W l) % 65535 = 0) ∧ (0 < s → 0 < r) ∧ Below w.heap.size w w' := by
  subst hn
  refine (sumWords_any s hs0 hs1 ao c l wx (hO.later hb) hc hcm).mono fun e w' ⟨r, he, h0, h1, h2, h3, h4⟩ => ⟨r, he, h0, h1, h2, h3, hb.trans (h4.mono hb.size)⟩

/-- tunnel.pseudoSum. -/
theorem pseudoSum_at (w wx : World) (n : Nat) (hn : n ≤ 65535) (sa da : Option Addr) (ns cs nd cd : Nat) (ls ld : List Int) (hs : Octs w sa ls) (hd : Octs w da ld) (es : ns = ls.length) (ed : nd = ld.length)
    (hcs : ns ≤ cs) (hcd : nd ≤ cd) (hms : cs ≤ 9223372036854775807) (hmd : cd ≤ 9223372036854775807) (hb : Below w.heap.size w wx) :
    Calls Yba.prog 11 #[.slice sa ns cs, .slice da nd cd, .int .u8 6, .int .i64 n] wx fun e w' => ∃ r : Int, e = .returned (.int .u32 r) ∧ 0 < r ∧ r ≤ 4294967295 ∧ Hid ((r - (n + 6) - M.W ls - M.W ld) % 65535 = 0) ∧ Below w.heap.size w w' := by
  have HS : Hid (Octs w sa ls) := hs
  have HD : Hid (Octs w da ld) := hd
  have ES : Hid (ns = ls.length) := es
  have ED : Hid (nd = ld.length) := ed
  clear hs hd es ed
  go_enter Yba.func11, Yba.ntmps11
  go_wp2_with fail
  refine (sumWords_at w _ _ ?_ ?_ sa _ _ ls HS.out ES.out hcs hms hb).mono ?_
  · omega
  · omega
  rintro e w1 ⟨r1, rfl, h10, h11, H1, hp1, hb1⟩
  go_wp2_with fail
  refine (sumWords_at w _ _ ?_ ?_ da _ _ ld HD.out ED.out hcd hmd hb1).mono ?_
  · omega
  · omega
  rintro e w2 ⟨r2, rfl, h20, h21, H2, hp2, hb2⟩
  go_wp2
  go_ret
  exact ⟨r2, rfl, hp2 (hp1 (by omega)), h21, show (_ : Int) = 0 by have := H1.out; have := H2.out; omega, hb2⟩

/-- What the checksum is taken of, summed: the segment's length and protocol, the two addresses, the segment's octets but for the checksum's own. -/
def X (zs : List Int) (off src dst al : Nat) : Int :=
  ((zs.length - off : Nat) : Int) + 6 + M.W ((zs.drop src).take al) + M.W ((zs.drop dst).take al) + M.W ((zs.drop off).take 16) + M.W ((zs.drop off).drop 18)

theorem X_pos (zs : List Int) (hz : M.Oct zs) (off src dst al : Nat) : 0 < X zs off src dst al := by
  have h1 := M.W_nonneg _ ((hz.drop src).take al)
  have h2 := M.W_nonneg _ ((hz.drop dst).take al)
  have h3 := M.W_nonneg _ ((hz.drop off).take 16)
  have h4 := M.W_nonneg _ ((hz.drop off).drop 18)
  unfold X; omega

theorem Octs.skip {w : World} {g o k : Nat} {l : List Int} (h : Octs w (some ⟨g, o, none⟩) l) : Octs w (some ⟨g, o + k, none⟩) (l.drop k) := by
  have := h.drop (k := k) (l.length + k + 1) (by omega)
  rwa [if_neg (by omega)] at this
theorem Octs.upto {w : World} {g o k : Nat} {l : List Int} (h : Octs w (some ⟨g, o, none⟩) l) : Octs w (some ⟨g, o, none⟩) (l.take k) := by
  refine ⟨h.1.take k, fun hne => ?_⟩
  obtain ⟨g', o', e, hcell⟩ := h.2 (by intro e; subst e; simp at hne)
  simp at e
  obtain ⟨rfl, rfl⟩ := e
  refine ⟨g, o, rfl, fun i hi => ?_⟩
  rw [hcell i (by simp at hi; omega)]
  simp at hi
  rw [List.getD_eq_getElem?_getD, List.getD_eq_getElem?_getD, List.getElem?_take, if_pos (by omega)]

theorem X_of {zs : List Int} {n off src dst al : Nat} {r1 r2 r3 : Int} (hl : n = zs.length) (h1 : 0 < r1)
    (H1 : (r1 - (((n - off : Nat) : Int) + 6) - M.W ((zs.drop src).take al) - M.W ((zs.drop dst).take al)) % 65535 = 0) (H2 : (r2 - r1 - M.W ((zs.drop off).take 16)) % 65535 = 0)
    (H3 : (r3 - r2 - M.W ((zs.drop off).drop 18)) % 65535 = 0) (hp2 : 0 < r1 → 0 < r2) (hp3 : 0 < r2 → 0 < r3) (hX : 0 < X zs off src dst al) : M.F r3 = M.F (X zs off src dst al) := by
  refine M.F_cong _ _ (hp3 (hp2 h1)) hX ?_
  unfold X
  rw [← hl]
  omega

set_option maxHeartbeats 1000000 in
/-- tunnel.tcpChecksumOf. -/
theorem tcp_any (w : World) (fb src dst al g o n c off : Nat) (zs : List Int) (hf : FamAt w fb src dst al) (hO : Octs w (some ⟨g, o, none⟩) zs) (hl : n = zs.length)
    (hs : src + al ≤ n) (hd : dst + al ≤ n) (ha : 0 < al) (hof : off + 18 ≤ n) (hn : n ≤ c) (hc : c ≤ 9223372036854775807) (hsm : n ≤ 65535) :
    Calls Yba.prog 7 #[.pointer (some ⟨fb, 0, none⟩), .slice (some ⟨g, o, none⟩) n c, .int .i64 off] w fun e w' => e = .returned (.int .u16 (65535 - M.F (X zs off src dst al))) ∧ Below w.heap.size w w' := by
  have HSrc : Hid (Octs w (some ⟨g, o + src, none⟩) ((zs.drop src).take al)) := hO.skip.upto
  have HDst : Hid (Octs w (some ⟨g, o + dst, none⟩) ((zs.drop dst).take al)) := hO.skip.upto
  have HA : Hid (Octs w (some ⟨g, o + off, none⟩) ((zs.drop off).take 16)) := hO.skip.upto
  have HB : Hid (Octs w (if c - off = 18 then some ⟨g, o + off, none⟩ else some ⟨g, o + off + 18, none⟩) ((zs.drop off).drop 18)) := Octs.drop (c - off) hO.skip (by simp; omega)
  have HB1 : Hid (c - off = 18 → Octs w (some ⟨g, o + off, none⟩) ((zs.drop off).drop 18)) := fun e => by have := HB.out; rwa [if_pos e] at this
  have HB2 : Hid (¬ c - off = 18 → Octs w (some ⟨g, o + off + 18, none⟩) ((zs.drop off).drop 18)) := fun e => by have := HB.out; rwa [if_neg e] at this
  clear HB
  have HP : Hid (0 < X zs off src dst al) := X_pos zs hO.1 off src dst al
  have HF : Hid (FamAt w fb src dst al) := hf
  have EL : Hid (n = zs.length) := hl
  have n1 : ¬ c = off := by omega
  have q1 : (off : Int) ≤ (n : Int) := by omega
  have q2 : (16 : Int) ≤ ((n - off : Nat) : Int) := by omega
  have q3 : (18 : Int) ≤ ((n - off : Nat) : Int) := by omega
  have q4 : (16 : Int) ≤ ((c - off : Nat) : Int) := by omega
  clear hO hf hl
  go_enter Yba.func7, Yba.ntmps7
  go_wp2_with (go_at_call 9; refine (addresses_any fb src dst al g o n c _ HF.out hs hd ha hn hc).mono ?_; rintro e w' ⟨rfl, k, rfl⟩)
  have hb0 : Below w.heap.size w (w.drewN k) := below_drewN (Below.refl _ _) k
  have hb1 : Below w.heap.size w (w.drewN k).drew := hb0.drew
  go_region_held3 (fun w' => Below w.heap.size w w') (first | exact hb1 | assumption) (first | (go_at_call 11; refine (pseudoSum_at w _ (n - off) ?_ _ _ _ _ _ _ _ _ HSrc.out HDst.out ?_ ?_ ?_ ?_ ?_ ?_ hb1).mono ?_; (first | omega); (simp [← EL.out]; omega); (simp [← EL.out]; omega); omega; omega; omega; omega; rintro e w1 ⟨r1, rfl, h10, h11, H1, hb2⟩) | (go_at_call 10; refine (sumWords_at w _ _ ?_ ?_ _ _ _ _ HA.out ?_ ?_ ?_ (by assumption)).mono ?_; omega; omega; (simp [← EL.out]; omega); omega; omega; rintro e w2 ⟨r2, rfl, h20, h21, H2, hp2, hb3⟩))
  go_wp2_with fail
  · refine (sumWords_at w _ _ h20 h21 _ _ _ _ (HB1.out (by assumption)) ?_ ?_ ?_ hb3).mono ?_
    · simp [← EL.out]; omega
    · omega
    · omega
    rintro e w3 ⟨r3, rfl, h30, h31, H3, hp3, hb4⟩
    go_wp2_with (go_at_call 12; refine (checksum_any _ h30 h31 _).mono ?_; rintro e w' ⟨rfl, rfl⟩)
    go_ret
    exact ⟨ret_int (by rw [X_of EL.out h10 H1.out H2.out H3.out hp2 hp3 HP.out]), hb4⟩
  · refine (sumWords_at w _ _ h20 h21 _ _ _ _ (HB2.out (by assumption)) ?_ ?_ ?_ hb3).mono ?_
    · simp [← EL.out]; omega
    · omega
    · omega
    rintro e w3 ⟨r3, rfl, h30, h31, H3, hp3, hb4⟩
    go_wp2_with (go_at_call 12; refine (checksum_any _ h30 h31 _).mono ?_; rintro e w' ⟨rfl, rfl⟩)
    go_ret
    exact ⟨ret_int (by rw [X_of EL.out h10 H1.out H2.out H3.out hp2 hp3 HP.out]), hb4⟩

end Go.Proofs.Ybulkbnnc
