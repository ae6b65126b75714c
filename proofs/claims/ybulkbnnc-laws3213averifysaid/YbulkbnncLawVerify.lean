/-
  LawS3213AVerify: its walk.
-/
import Derived.Test.YbulkbnncLawModel
namespace Go.Proofs.Ybulkbnnc
open Go.RowKit Go.Shelf

/-- Hidden from the walk. -/
theorem Hid.of {p : Prop} (h : p) : Hid p := h

/-- A part of the packet that a store doesn't meet. -/
theorem part_set (zs : List Int) (j : Nat) (a : Int) (s n : Nat) (h : j < s ∨ s + n ≤ j) : ((zs.set j a).drop s).take n = (zs.drop s).take n := by
  apply List.ext_getElem?
  intro i
  rw [List.getElem?_take, List.getElem?_take]
  split
  · rw [List.getElem?_drop, List.getElem?_drop, List.getElem?_set_ne (by omega)]
  · rfl
theorem rest_set (zs : List Int) (j : Nat) (a : Int) (s : Nat) (h : j < s) : (zs.set j a).drop s = zs.drop s := by
  apply List.ext_getElem?
  intro i
  rw [List.getElem?_drop, List.getElem?_drop, List.getElem?_set_ne (by omega)]

/-- The checksum's own octets are not summed. -/
theorem X_set (zs : List Int) (off src dst al j : Nat) (a : Int) (hj : j = off + 16 ∨ j = off + 17) (hs : src + al ≤ off) (hd : dst + al ≤ off) : X (zs.set j a) off src dst al = X zs off src dst al := by
  unfold X
  rw [List.length_set, part_set _ _ _ _ _ (by omega), part_set _ _ _ _ _ (by omega), part_set _ _ _ _ _ (by omega), List.drop_drop, List.drop_drop, rest_set _ _ _ _ (by omega)]

theorem own16_set (zs : List Int) (off : Nat) (a b : Int) (h : off + 18 ≤ zs.length) : own16 (((zs.set (off + 16) a).set (off + 17) b).drop off) = a * 256 + b := by
  have e1 : (((zs.set (off + 16) a).set (off + 17) b).drop off).getD 16 0 = a := by
    rw [List.getD_eq_getElem?_getD, List.getElem?_drop, List.getElem?_set_ne (by omega), List.getElem?_set_self (by omega)]; rfl
  have e2 : (((zs.set (off + 16) a).set (off + 17) b).drop off).getD 17 0 = b := by
    rw [List.getD_eq_getElem?_getD, List.getElem?_drop, List.getElem?_set_self (by rw [List.length_set]; omega)]; rfl
  unfold own16
  rw [e1, e2]

/-- The two octets at p, q hold something, and may be written. -/
theorem Pkt.spot {w : World} {B : Nat} {zs : List Int} (h : Pkt w B zs) (j : Nat) (hj : j < zs.length) : ∃ z : Int, w.cell? ⟨B, j, none⟩ = some (.int .u8 z) ∧ w.frozen? ⟨B, j, none⟩ = false := by
  have := h.octs.at (Below.refl _ _) j hj
  rw [Nat.zero_add] at this
  exact ⟨_, this, h.2.frozenAt j⟩

theorem FamAt.below {w w' : World} {B fb src dst al : Nat} (h : FamAt w fb src dst al) (hb : Below B w w') (hfb : fb < B) : FamAt w' fb src dst al :=
  ⟨(hb.cell (p := ⟨fb, 3, none⟩) hfb).trans h.1, (hb.cell (p := ⟨fb, 4, none⟩) hfb).trans h.2.1, (hb.cell (p := ⟨fb, 5, none⟩) hfb).trans h.2.2⟩

theorem Pkt.later {w w' : World} {B : Nat} {zs : List Int} (h : Pkt w B zs) (hb : Below w.heap.size w w') : Pkt w' B zs := by
  refine ⟨h.1, ?_⟩
  obtain ⟨hl, h1 | ⟨g, cap, cur, hv, hB, hh, h2⟩⟩ := h.2
  · exact ⟨hl, .inl h1⟩
  · have hg : g < w.heap.size := by
      by_cases hg : g < w.heap.size
      · exact hg
      · rw [Array.getElem?_eq_none (by omega)] at hh; cases hh
    exact ⟨hl, .inr ⟨g, cap, cur, hv, hB, (hb.block g hg).trans hh, h2⟩⟩

/-- Two octets stored into the packet. -/
theorem Pkt.two {w : World} {B : Nat} {zs : List Int} (h : Pkt w B zs) (p q : Nat) (a b : Int) (ha : 0 ≤ a ∧ a ≤ 255) (hb : 0 ≤ b ∧ b ≤ 255) :
    Pkt ((w.setCell ⟨B, p, none⟩ (.int .u8 a)).setCell ⟨B, q, none⟩ (.int .u8 b)) B ((zs.set p a).set q b) := (h.set p a ha).set q b hb
theorem below_two {w : World} {B p q : Nat} (u v : Value) : Below B w ((w.setCell ⟨B, p, none⟩ u).setCell ⟨B, q, none⟩ v) :=
  ((Below.refl B w).setCell (p := ⟨B, p, none⟩) (Nat.le_refl B) u).setCell (p := ⟨B, q, none⟩) (Nat.le_refl B) v

/-- The checksum written in: what is summed, and its own word. -/
theorem X_two (zs : List Int) (off src dst al p q : Nat) (a b : Int) (hp : p = off + 16) (hq : q = off + 17) (hs : src + al ≤ off) (hd : dst + al ≤ off) : X ((zs.set p a).set q b) off src dst al = X zs off src dst al := by
  rw [X_set _ _ _ _ _ _ _ (.inr hq) hs hd, X_set _ _ _ _ _ _ _ (.inl hp) hs hd]

theorem sum_two (zs : List Int) (hz : M.Oct zs) (off src dst al p q : Nat) (g : Int) (hp : p = off + 16) (hq : q = off + 17) (hs : src + al ≤ off) (hd : dst + al ≤ off) (hl : off + 18 ≤ zs.length) (hg : g = 65535 - M.F (X zs off src dst al)) :
    M.F (X ((zs.set p (g / 256)).set q (g % 256)) off src dst al + own16 (((zs.set p (g / 256)).set q (g % 256)).drop off)) = 65535 := by
  rw [X_two zs off src dst al p q _ _ hp hq hs hd]
  subst hp; subst hq
  rw [own16_set zs off _ _ hl, show g / 256 * 256 + g % 256 = g from by omega, hg]
  exact M.F_verify _ (X_pos zs hz off src dst al)

set_option maxHeartbeats 2000000 in
theorem verify_law (w : World) (a0 : Option Addr) (n c0 : Nat) (l : List Int) (hO : Octs w a0 l) (hn : n = l.length) (x : Int) (hx0 : 0 ≤ x) (hx1 : x ≤ 255) (v4 : Bool) (junk : Int) (hj0 : 0 ≤ junk) (hj1 : junk ≤ 65535) :
    Calls Yba.prog 4 #[.slice a0 n c0, .int .u8 x, .bool v4, .int .u16 junk] w fun e w' => e = .returned (.bool true) ∧ Below w.heap.size w w' := by
  have HO : Hid (Octs w a0 l) := hO
  have HN : Hid (n = l.length) := hn
  clear hO hn
  by_cases hbig : 4096 < n
  · have hbig' : (4096 : Int) < (n : Int) := by omega
    go_enter Yba.func4, Yba.ntmps4
    go_wp2_with fail
    go_ret
    exact ⟨rfl, Below.refl _ _⟩
  · have hbig' : ¬ (4096 : Int) < (n : Int) := by omega
    go_enter Yba.func4, Yba.ntmps4
    go_wp2_with fail
    refine (fam_b v4 _).mono ?_
    rintro e w1 ⟨src, dst, al, rfl, hf, hsb, hdb, ha2, ha0, ha16, hb1, hz⟩
    have HF : Hid (FamAt w1 w.heap.size src dst al) := hf
    clear hf
    go_wp2_with fail
    refine (build_b _ a0 n c0 l (HO.out.later hb1) HN.out (by rw [← HN.out]; omega) x hx0 hx1 v4).mono ?_
    rintro e w2 ⟨off, zs, rfl, ho18, hzl, hob, hp, hb2⟩
    obtain ⟨p, ep⟩ : ∃ p : Nat, (off : Int) + 16 = (p : Int) := ⟨off + 16, by omega⟩
    obtain ⟨q, eq⟩ : ∃ q : Nat, (off : Int) + 17 = (q : Int) := ⟨off + 17, by omega⟩
    have lp : (p : Int) < (zs.length : Int) := by omega
    have lq : (q : Int) < (zs.length : Int) := by omega
    have npq : ¬ p = q := by omega
    have nqp : ¬ q = p := by omega
    obtain ⟨z16, c16, f16⟩ := hp.spot p (by omega)
    obtain ⟨z17, c17, f17⟩ := hp.spot q (by omega)
    have HP : Hid (Pkt w2 w1.heap.size zs) := hp
    have HF2 : Hid (FamAt w2 w.heap.size src dst al) := HF.out.later hb2
    have hs2 := hb2.size
    have hb2' : Below w.heap.size w w2 := hb1.trans (hb2.mono (Nat.le_of_lt hz))
    clear hp HF HO HN
    go_wp2_with fail
    have HP3 := Hid.of (HP.out.two p q (junk / 256) (junk % 256) ⟨by omega, by omega⟩ ⟨by omega, by omega⟩)
    have hb3 : Below w1.heap.size w2 _ := below_two (w := w2) (B := w1.heap.size) (p := p) (q := q) (.int .u8 (junk / 256)) (.int .u8 (junk % 256))
    have HF3 := Hid.of (HF2.out.below hb3 hz)
    clear c16 f16 c17 f17 HP HF2
    generalize ((w2.setCell ⟨w1.heap.size, p, none⟩ (Value.int .u8 (junk / 256))).setCell ⟨w1.heap.size, q, none⟩ (Value.int .u8 (junk % 256))) = w3 at *
    obtain ⟨zs1, hz1⟩ : ∃ zs1, zs1 = (zs.set p (junk / 256)).set q (junk % 256) := ⟨_, rfl⟩
    have hl1 : zs.length = zs1.length := by rw [hz1, List.length_set, List.length_set]
    rw [← hz1] at HP3
    clear hz1
    have HL : Hid (zs.length = zs1.length) := hl1
    clear hl1
    obtain ⟨got, hgot⟩ : ∃ got, got = 65535 - M.F (X zs1 off src dst al) := ⟨_, rfl⟩
    have hg0 : 0 ≤ got := by have := M.F_range (X zs1 off src dst al); omega
    have hg1 : got ≤ 65535 := by have := M.F_range (X zs1 off src dst al); omega
    have HG : Hid (got = 65535 - M.F (X zs1 off src dst al)) := hgot
    clear hgot
    refine (tcp_any w3 w.heap.size src dst al w1.heap.size 0 _ _ off zs1 HF3.out HP3.out.octs HL.out (by omega) (by omega) ha0 ho18 (Nat.le_refl _) (by omega) (by omega)).mono ?_
    rintro e w4 ⟨he, hb4⟩
    rw [← HG.out] at he
    subst he
    have HP4 := Hid.of (HP3.out.later hb4)
    have HF4 := Hid.of (HF3.out.later hb4)
    obtain ⟨z16, c16, f16⟩ := HP4.out.spot p (by rw [← HL.out]; omega)
    obtain ⟨z17, c17, f17⟩ := HP4.out.spot q (by rw [← HL.out]; omega)
    go_wp2_with fail
    have HP5 := Hid.of (HP4.out.two p q (got / 256) (got % 256) ⟨by omega, by omega⟩ ⟨by omega, by omega⟩)
    have hb5 : Below w1.heap.size w4 _ := below_two (w := w4) (B := w1.heap.size) (p := p) (q := q) (.int .u8 (got / 256)) (.int .u8 (got % 256))
    have HF5 := Hid.of (HF4.out.below hb5 hz)
    clear c16 f16 c17 f17
    generalize ((w4.setCell ⟨w1.heap.size, p, none⟩ (Value.int .u8 (got / 256))).setCell ⟨w1.heap.size, q, none⟩ (Value.int .u8 (got % 256))) = w5 at *
    have HV := Hid.of (sum_two zs1 HP3.out.1 off src dst al p q got (by omega) (by omega) (by omega) (by omega) (by rw [← HL.out]; omega) HG.out)
    have HX := Hid.of (X_two zs1 off src dst al p q (got / 256) (got % 256) (by omega) (by omega) (by omega) (by omega))
    have HL2 : Hid (zs.length = ((zs1.set p (got / 256)).set q (got % 256)).length) := by show _ = _; rw [List.length_set, List.length_set]; exact HL.out
    refine (model_whole w5 w.heap.size src dst al w1.heap.size 0 _ _ off _ HF5.out HP5.out.octs HL2.out (by omega) (by omega) ha2 ha16 ho18 (Nat.le_refl _) (by omega) (by omega)).mono ?_
    rintro e w6 ⟨he, hb6⟩
    rw [HV.out] at he
    subst he
    go_wp2_with fail
    refine (tcp_any w6 w.heap.size src dst al w1.heap.size 0 _ _ off _ (HF5.out.later hb6) (HP5.out.later hb6).octs HL2.out (by omega) (by omega) ha0 ho18 (Nat.le_refl _) (by omega) (by omega)).mono ?_
    rintro e w7 ⟨he, hb7⟩
    rw [HX.out, ← HG.out] at he
    subst he
    go_wp2
    go_ret
    have s4 := hb4.size
    have s3 := hb3.size
    have s5 := hb5.size
    have s6 := hb6.size
    exact ⟨by simp, (((((hb2'.trans (hb3.mono (by omega))).trans (hb4.mono (by omega))).trans (hb5.mono (by omega))).trans (hb6.mono (by omega))).trans (hb7.mono (by omega)))⟩

end Go.Proofs.Ybulkbnnc
