/-
  zzs3213asum: the plain model: its walk.
-/
import Derived.Test.YbulkbnncModel
namespace Go.Proofs.Ybulkbnnc
open Go.RowKit Go.Shelf

theorem or_join (a b : Int) (ha : 0 ≤ a ∧ a ≤ 255) (hb : 0 ≤ b ∧ b ≤ 255) : bits .or .u64 (a * 256) b = a * 256 + b :=
  bits_join .u64 64 (by decide) wraps_u64 8 (a * 256) b (by omega) (by omega) (by omega) (by omega) (by omega) (by omega)

/-- An octet of the packet. -/
theorem Octs.at {w wx : World} {g o : Nat} {zs : List Int} (h : Octs w (some ⟨g, o, none⟩) zs) (hb : Below w.heap.size w wx) (i : Nat) (hi : i < zs.length) :
    wx.cell? ⟨g, o + i, none⟩ = some (.int .u8 (zs.getD i 0)) := by
  obtain ⟨g', o', e, hc⟩ := h.2 (by intro e; subst e; simp at hi)
  simp at e
  obtain ⟨rfl, rfl⟩ := e
  exact cell_later hb (hc i hi)

theorem wrap_u64_id (x : Int) (h0 : 0 ≤ x) (h1 : x ≤ 18446744073709551615) : IntKind.u64.wrap x = x := u64_wrap_id x h0 (by omega)

/-- Two octets of the packet, and the word that they make. -/
theorem Octs.pair {w wx : World} {g o : Nat} {zs : List Int} (h : Octs w (some ⟨g, o, none⟩) zs) (hb : Below w.heap.size w wx) (i j : Nat) (hi : i < zs.length) (hj : j < zs.length) :
    ∃ a b v : Int, wx.cell? ⟨g, o + i, none⟩ = some (.int .u8 a) ∧ wx.cell? ⟨g, o + j, none⟩ = some (.int .u8 b) ∧ IntKind.u64.wrap a = a ∧ IntKind.u64.wrap b = b ∧ IntKind.u64.wrap (a * 256) = a * 256 ∧
      bits .or .u64 (a * 256) b = v ∧ 0 ≤ v ∧ v ≤ 65535 ∧ Hid (v = zs.getD i 0 * 256 + zs.getD j 0) := by
  have ga := h.1.get i
  have gb := h.1.get j
  exact ⟨_, _, _, h.at hb i hi, h.at hb j hj, wrap_u64_id _ (by omega) (by omega), wrap_u64_id _ (by omega) (by omega), wrap_u64_id _ (by omega) (by omega), or_join _ _ ga gb, by omega, by omega, rfl⟩

theorem Octs.lone {w wx : World} {g o : Nat} {zs : List Int} (h : Octs w (some ⟨g, o, none⟩) zs) (hb : Below w.heap.size w wx) (i : Nat) (hi : i < zs.length) :
    ∃ a : Int, wx.cell? ⟨g, o + i, none⟩ = some (.int .u8 a) ∧ IntKind.u64.wrap a = a ∧ IntKind.u64.wrap (a * 256) = a * 256 ∧ 0 ≤ a ∧ a ≤ 255 ∧ Hid (a = zs.getD i 0) := by
  have ga := h.1.get i
  exact ⟨_, h.at hb i hi, wrap_u64_id _ (by omega) (by omega), wrap_u64_id _ (by omega) (by omega), by omega, by omega, rfl⟩

theorem FamAt.later {w wx : World} {fb src dst al : Nat} (h : FamAt w fb src dst al) (hb : Below w.heap.size w wx) : FamAt wx fb src dst al :=
  ⟨cell_later hb h.1, cell_later hb h.2.1, cell_later hb h.2.2⟩

theorem getD_part (zs : List Int) (src al j : Nat) (h : j < al) : ((zs.drop src).take al).getD j 0 = zs.getD (src + j) 0 := by
  rw [List.getD_eq_getElem?_getD, List.getD_eq_getElem?_getD, List.getElem?_take, if_pos h, List.getElem?_drop]

/-- A round over the addresses. -/
theorem addr_step {zs : List Int} {n src dst al k p p1 q q1 : Nat} {S S1 S2 v u : Int} (hl : n = zs.length) (hs : src + al ≤ n) (hd : dst + al ≤ n) (ha : al % 2 = 0) (hlt : 2 * k < al)
    (hS : S = M.W (((zs.drop src).take al).take (2 * k)) + M.W (((zs.drop dst).take al).take (2 * k))) (ep : (src : Int) + 2 * (k : Int) = (p : Int)) (ep1 : (p : Int) + 1 = (p1 : Int)) (eq : (dst : Int) + 2 * (k : Int) = (q : Int)) (eq1 : (q : Int) + 1 = (q1 : Int))
    (hv : v = zs.getD p 0 * 256 + zs.getD p1 0) (hu : u = zs.getD q 0 * 256 + zs.getD q1 0) (h1 : S1 = S + v) (h2 : S2 = S1 + u) :
    S2 = M.W (((zs.drop src).take al).take (2 * (k + 1))) + M.W (((zs.drop dst).take al).take (2 * (k + 1))) := by
  have e1 := W_take_two ((zs.drop src).take al) k (by simp; omega)
  have e2 := W_take_two ((zs.drop dst).take al) k (by simp; omega)
  rw [getD_part _ _ _ _ (by omega), getD_part _ _ _ _ (by omega)] at e1 e2
  obtain rfl : p = src + 2 * k := by omega
  obtain rfl : p1 = src + 2 * k + 1 := by omega
  obtain rfl : q = dst + 2 * k := by omega
  obtain rfl : q1 = dst + 2 * k + 1 := by omega
  rw [show 2 * (k + 1) = 2 * k + 2 from by omega, e1, e2]
  simp only [← Nat.add_assoc] at *
  omega

set_option maxRecDepth 100000 in
set_option maxHeartbeats 2000000 in
theorem model_skip (w : World) (fb src dst al g o n c off : Nat) (zs : List Int) (hf : FamAt w fb src dst al) (hO : Octs w (some ⟨g, o, none⟩) zs) (hl : n = zs.length)
    (hs : src + al ≤ n) (hd : dst + al ≤ n) (ha : al % 2 = 0) (ha' : al ≤ 16) (hof : off + 18 ≤ n) (hn : n ≤ c) (hc : c ≤ 9223372036854775807) (hsm : n ≤ 65535) :
    Calls Yba.prog 8 #[.pointer (some ⟨fb, 0, none⟩), .slice (some ⟨g, o, none⟩) n c, .int .i64 off, .bool true] w fun e w' =>
      e = .returned (.int .u64 (M.F (X zs off src dst al ))) ∧ Below w.heap.size w w' := by
  have HO : Hid (Octs w (some ⟨g, o, none⟩) zs) := hO
  have HF : Hid (FamAt w fb src dst al) := hf
  have EL : Hid (n = zs.length) := hl
  clear hO hf hl
  go_enter Yba.func8, Yba.ntmps8
  go_wp2
  go_loopw [9, 10] (fun t i wr => ∃ (k : Nat) (S : Int), 2 * k ≤ al ∧ i = .int .i64 (2 * (k : Int)) ∧ t = .int .u64 S ∧ S = M.W (((zs.drop src).take al).take (2 * k)) + M.W (((zs.drop dst).take al).take (2 * k)) ∧ Below w.heap.size w wr) (fun _ i _ => al - (intOf i).toNat)
  case atStart => exact ⟨0, 0, by omega, rfl, rfl, by simp [M.W], Below.refl _ _⟩
  case round =>
    obtain ⟨k, S, hk, rfl, rfl, hS, hb⟩ := hrel
    have HS : Hid (S = M.W (((zs.drop src).take al).take (2 * k)) + M.W (((zs.drop dst).take al).take (2 * k))) := hS
    clear hS
    obtain ⟨hS0, hSb⟩ : 0 ≤ S ∧ S ≤ 4294967295 := by
      have o1 := ((HO.out.1.drop src).take al).take (2 * k)
      have o2 := ((HO.out.1.drop dst).take al).take (2 * k)
      have a1 := M.W_nonneg _ o1
      have a2 := M.W_nonneg _ o2
      have a3 := M.W_le _ o1
      have a4 := M.W_le _ o2
      have a5 : (((zs.drop src).take al).take (2 * k)).length ≤ 16 := by simp; omega
      have a6 : (((zs.drop dst).take al).take (2 * k)).length ≤ 16 := by simp; omega
      have := HS.out
      omega
    obtain ⟨f3, f4, f5⟩ := HF.out.later hb
    by_cases hlt : 2 * k < al
    · have hlt' : 2 * (k : Int) < (al : Int) := by omega
      obtain ⟨p, ep⟩ : ∃ p : Nat, (src : Int) + 2 * (k : Int) = (p : Int) := ⟨src + 2 * k, by omega⟩
      obtain ⟨p1, ep1⟩ : ∃ p1 : Nat, (p : Int) + 1 = (p1 : Int) := ⟨p + 1, by omega⟩
      obtain ⟨q, eq⟩ : ∃ q : Nat, (dst : Int) + 2 * (k : Int) = (q : Int) := ⟨dst + 2 * k, by omega⟩
      obtain ⟨q1, eq1⟩ : ∃ q1 : Nat, (q : Int) + 1 = (q1 : Int) := ⟨q + 1, by omega⟩
      have wp : IntKind.i64.wrap (p : Int) = p := by rw [IntKind.wrap_i64]; omega
      have wp1 : IntKind.i64.wrap (p1 : Int) = p1 := by rw [IntKind.wrap_i64]; omega
      have wq : IntKind.i64.wrap (q : Int) = q := by rw [IntKind.wrap_i64]; omega
      have wq1 : IntKind.i64.wrap (q1 : Int) = q1 := by rw [IntKind.wrap_i64]; omega
      have lp : (p : Int) < (n : Int) := by omega
      have lp1 : (p1 : Int) < (n : Int) := by omega
      have lq : (q : Int) < (n : Int) := by omega
      have lq1 : (q1 : Int) < (n : Int) := by omega
      obtain ⟨za, zb, v, cp, cp1, wa, wb, wab, hv, hv0, hv1, HV⟩ := HO.out.pair hb p p1 (by rw [← EL.out]; omega) (by rw [← EL.out]; omega)
      obtain ⟨ya, yb, u, cq, cq1, wya, wyb, wyab, hu, hu0, hu1, HU⟩ := HO.out.pair hb q q1 (by rw [← EL.out]; omega) (by rw [← EL.out]; omega)
      obtain ⟨S1, hS1, HS1⟩ : ∃ S1, IntKind.u64.wrap (S + v) = S1 ∧ Hid (S1 = S + v) := ⟨S + v, wrap_u64_id _ (by omega) (by omega), rfl⟩
      obtain ⟨S2, hS2, HS2⟩ : ∃ S2, IntKind.u64.wrap (S1 + u) = S2 ∧ Hid (S2 = S1 + u) := ⟨S1 + u, by have := HS1.out; exact wrap_u64_id _ (by omega) (by omega), rfl⟩
      go_wp2
      go_quiet (fail)
      go_wp2
      go_quiet (fail)
      go_wp2
      go_roundw
      case rel => exact ⟨k + 1, S2, by omega, by congr 1, rfl, addr_step EL.out hs hd ha hlt HS.out ep ep1 eq eq1 HV.out HU.out HS1.out HS2.out, below_drewN hb _⟩
      case measure => simp [intOf]; omega
    · have hlt' : ¬ 2 * (k : Int) < (al : Int) := by omega
      have HA : Hid (S + (6 + ((n - off : Nat) : Int)) = ((zs.length - off : Nat) : Int) + 6 + M.W ((zs.drop src).take al) + M.W ((zs.drop dst).take al)) := by
        have := HS.out
        rw [List.take_of_length_le (l := (zs.drop src).take al) (i := 2 * k) (by simp; omega), List.take_of_length_le (l := (zs.drop dst).take al) (i := 2 * k) (by simp; omega)] at this
        have e := EL.out
        show _ = _
        rw [← e]
        omega
      have HT : Hid (Octs w (some ⟨g, o + off, none⟩) (zs.drop off)) := HO.out.skip
      have n1 : ¬ c = off := by omega
      have q1 : (off : Int) ≤ (n : Int) := by omega
      have u1 : IntKind.u64.wrap ((n - off : Nat) : Int) = ((n - off : Nat) : Int) := wrap_u64_id _ (by omega) (by omega)
      go_wp2
      go_loop [9, 12] (fun t i => ∃ (k p : Nat) (T : Int), p = 2 * k ∧ i = .int .i64 (p : Int) ∧ t = .int .u64 T ∧ p ≤ n - off + 1 ∧ Acc (zs.drop off) true (S + (6 + ((n - off : Nat) : Int))) k T) (fun _ i => n - off + 2 - (intOf i).toNat)
      case atStart => exact ⟨0, 0, _, rfl, rfl, rfl, by omega, Acc.start _ _ _⟩
      case round =>
        clear HS f3 f4 f5 HF u1 hk
        obtain ⟨j, p, T, ep, rfl, rfl, hp, hAcc⟩ := hrel
        have HP : Hid (p = 2 * j) := ep
        have HAcc : Hid (Acc (zs.drop off) true (S + (6 + ((n - off : Nat) : Int))) j T) := hAcc
        have tl : (zs.drop off).length = n - off := by rw [List.length_drop, EL.out]
        obtain ⟨hT0, hT1⟩ := hAcc.range HT.out.1 (by omega) (by omega)
        rw [tl] at hT1
        have TL : Hid ((zs.drop off).length = n - off) := tl
        clear ep hAcc tl
        by_cases hlt : p < n - off
        · have hlt' : (p : Int) < ((n - off : Nat) : Int) := by omega
          obtain ⟨p1, ep1⟩ : ∃ p1 : Nat, (p : Int) + 1 = (p1 : Int) := ⟨p + 1, by omega⟩
          by_cases h16 : p = 16
          · have h16' : ((p : Int) == 16) = true := by simp; omega
            have H16 : Hid (p = 16) := h16
            clear h16
            go_wp2
            go_round
            case rel => exact ⟨j + 1, p + 2, T, by have := HP.out; omega, by go_num, rfl, by omega, HAcc.out.skips (by have := HP.out; have := H16.out; omega) (by rw [TL.out]; omega)⟩
            case measure => simp [intOf]; omega
          have h16' : ((p : Int) == 16) = false := by simp; omega
          by_cases hlt1 : p1 < n - off
          · have hlt1' : (p1 : Int) < ((n - off : Nat) : Int) := by omega
            obtain ⟨za, zb, v, cp, cp1, wa, wb, wab, hv, hv0, hv1, HV⟩ := HT.out.pair hb p p1 (by rw [TL.out]; omega) (by rw [TL.out]; omega)
            go_wp2
            go_round
            case rel => exact ⟨j + 1, p + 2, T + v, by have := HP.out; omega, by go_num, rfl, by omega, by
              have hp := HP.out
              obtain rfl : p1 = 2 * j + 1 := by omega
              have hv := HV.out
              rw [hp] at hv
              rw [hv]
              exact HAcc.out.two (by have := HP.out; omega) (by rw [TL.out]; omega)⟩
            case measure => simp [intOf]; omega
          · have hlt1' : ¬ (p1 : Int) < ((n - off : Nat) : Int) := by omega
            obtain ⟨za, cp, wa, wab, hz0, hz1, HV⟩ := HT.out.lone hb p (by rw [TL.out]; omega)
            go_wp2
            go_round
            case rel => exact ⟨j + 1, p + 2, T + za * 256, by have := HP.out; omega, by go_num, rfl, by omega, by
              have hp := HP.out
              have hv := HV.out
              rw [hp] at hv
              rw [hv]
              exact HAcc.out.one (by have := HP.out; omega) (by rw [TL.out]; omega)⟩
            case measure => simp [intOf]; omega
        · have hlt' : ¬ (p : Int) < ((n - off : Nat) : Int) := by omega
          have HE : Hid (0 < T ∧ T = X zs off src dst al ) := by
            have h1 := HAcc.out.done (by rw [TL.out]; omega) (by rw [TL.out]; have := HP.out; omega)
            have h2 := HA.out
            have h3 := X_pos zs HO.out.1 off src dst al
            have h4 := HT.out.1.get 16
            have h5 := HT.out.1.get 17
            show _ ∧ _
            unfold X at *
            simp only [if_true] at h1; omega
          clear HAcc HA HT HO TL HP EL
          go_wp2
          go_loop [9] (fun t => ∃ x : Int, 0 ≤ x ∧ x ≤ 18446744073709551615 ∧ M.F x = M.F T ∧ t = .int .u64 x) (fun t => (intOf t).toNat)
          case atStart => exact ⟨T, hT0, by omega, rfl, rfl⟩
          case round =>
            obtain ⟨x, hx0, hx1, hxr, rfl⟩ := hrel
            have HX : Hid (M.F x = M.F T) := hxr
            clear hxr
            by_cases hx : 65535 < x
            · have hba := bits_and16_u64 x hx0 hx1
              go_wp2
              go_round
              case rel => exact ⟨x / 65536 + x % 65536, by omega, by omega, by rw [M.F_fold x hx, HX.out], by congr 1; omega⟩
              case measure => simp [intOf]; omega
            · have hx2 : x ≤ 65535 := by omega
              go_wp2
              go_ret
              exact ⟨ret_int (by rw [← HE.out.2, ← HX.out, M.F_small x hx0 hx2]), hb⟩

set_option maxRecDepth 100000 in
set_option maxHeartbeats 2000000 in
theorem model_whole (w : World) (fb src dst al g o n c off : Nat) (zs : List Int) (hf : FamAt w fb src dst al) (hO : Octs w (some ⟨g, o, none⟩) zs) (hl : n = zs.length)
    (hs : src + al ≤ n) (hd : dst + al ≤ n) (ha : al % 2 = 0) (ha' : al ≤ 16) (hof : off + 18 ≤ n) (hn : n ≤ c) (hc : c ≤ 9223372036854775807) (hsm : n ≤ 65535) :
    Calls Yba.prog 8 #[.pointer (some ⟨fb, 0, none⟩), .slice (some ⟨g, o, none⟩) n c, .int .i64 off, .bool false] w fun e w' =>
      e = .returned (.int .u64 (M.F (X zs off src dst al + own16 (zs.drop off)))) ∧ Below w.heap.size w w' := by
  have HO : Hid (Octs w (some ⟨g, o, none⟩) zs) := hO
  have HF : Hid (FamAt w fb src dst al) := hf
  have EL : Hid (n = zs.length) := hl
  clear hO hf hl
  go_enter Yba.func8, Yba.ntmps8
  go_wp2
  go_loopw [9, 10] (fun t i wr => ∃ (k : Nat) (S : Int), 2 * k ≤ al ∧ i = .int .i64 (2 * (k : Int)) ∧ t = .int .u64 S ∧ S = M.W (((zs.drop src).take al).take (2 * k)) + M.W (((zs.drop dst).take al).take (2 * k)) ∧ Below w.heap.size w wr) (fun _ i _ => al - (intOf i).toNat)
  case atStart => exact ⟨0, 0, by omega, rfl, rfl, by simp [M.W], Below.refl _ _⟩
  case round =>
    obtain ⟨k, S, hk, rfl, rfl, hS, hb⟩ := hrel
    have HS : Hid (S = M.W (((zs.drop src).take al).take (2 * k)) + M.W (((zs.drop dst).take al).take (2 * k))) := hS
    clear hS
    obtain ⟨hS0, hSb⟩ : 0 ≤ S ∧ S ≤ 4294967295 := by
      have o1 := ((HO.out.1.drop src).take al).take (2 * k)
      have o2 := ((HO.out.1.drop dst).take al).take (2 * k)
      have a1 := M.W_nonneg _ o1
      have a2 := M.W_nonneg _ o2
      have a3 := M.W_le _ o1
      have a4 := M.W_le _ o2
      have a5 : (((zs.drop src).take al).take (2 * k)).length ≤ 16 := by simp; omega
      have a6 : (((zs.drop dst).take al).take (2 * k)).length ≤ 16 := by simp; omega
      have := HS.out
      omega
    obtain ⟨f3, f4, f5⟩ := HF.out.later hb
    by_cases hlt : 2 * k < al
    · have hlt' : 2 * (k : Int) < (al : Int) := by omega
      obtain ⟨p, ep⟩ : ∃ p : Nat, (src : Int) + 2 * (k : Int) = (p : Int) := ⟨src + 2 * k, by omega⟩
      obtain ⟨p1, ep1⟩ : ∃ p1 : Nat, (p : Int) + 1 = (p1 : Int) := ⟨p + 1, by omega⟩
      obtain ⟨q, eq⟩ : ∃ q : Nat, (dst : Int) + 2 * (k : Int) = (q : Int) := ⟨dst + 2 * k, by omega⟩
      obtain ⟨q1, eq1⟩ : ∃ q1 : Nat, (q : Int) + 1 = (q1 : Int) := ⟨q + 1, by omega⟩
      have wp : IntKind.i64.wrap (p : Int) = p := by rw [IntKind.wrap_i64]; omega
      have wp1 : IntKind.i64.wrap (p1 : Int) = p1 := by rw [IntKind.wrap_i64]; omega
      have wq : IntKind.i64.wrap (q : Int) = q := by rw [IntKind.wrap_i64]; omega
      have wq1 : IntKind.i64.wrap (q1 : Int) = q1 := by rw [IntKind.wrap_i64]; omega
      have lp : (p : Int) < (n : Int) := by omega
      have lp1 : (p1 : Int) < (n : Int) := by omega
      have lq : (q : Int) < (n : Int) := by omega
      have lq1 : (q1 : Int) < (n : Int) := by omega
      obtain ⟨za, zb, v, cp, cp1, wa, wb, wab, hv, hv0, hv1, HV⟩ := HO.out.pair hb p p1 (by rw [← EL.out]; omega) (by rw [← EL.out]; omega)
      obtain ⟨ya, yb, u, cq, cq1, wya, wyb, wyab, hu, hu0, hu1, HU⟩ := HO.out.pair hb q q1 (by rw [← EL.out]; omega) (by rw [← EL.out]; omega)
      obtain ⟨S1, hS1, HS1⟩ : ∃ S1, IntKind.u64.wrap (S + v) = S1 ∧ Hid (S1 = S + v) := ⟨S + v, wrap_u64_id _ (by omega) (by omega), rfl⟩
      obtain ⟨S2, hS2, HS2⟩ : ∃ S2, IntKind.u64.wrap (S1 + u) = S2 ∧ Hid (S2 = S1 + u) := ⟨S1 + u, by have := HS1.out; exact wrap_u64_id _ (by omega) (by omega), rfl⟩
      go_wp2
      go_quiet (fail)
      go_wp2
      go_quiet (fail)
      go_wp2
      go_roundw
      case rel => exact ⟨k + 1, S2, by omega, by congr 1, rfl, addr_step EL.out hs hd ha hlt HS.out ep ep1 eq eq1 HV.out HU.out HS1.out HS2.out, below_drewN hb _⟩
      case measure => simp [intOf]; omega
    · have hlt' : ¬ 2 * (k : Int) < (al : Int) := by omega
      have HA : Hid (S + (6 + ((n - off : Nat) : Int)) = ((zs.length - off : Nat) : Int) + 6 + M.W ((zs.drop src).take al) + M.W ((zs.drop dst).take al)) := by
        have := HS.out
        rw [List.take_of_length_le (l := (zs.drop src).take al) (i := 2 * k) (by simp; omega), List.take_of_length_le (l := (zs.drop dst).take al) (i := 2 * k) (by simp; omega)] at this
        have e := EL.out
        show _ = _
        rw [← e]
        omega
      have HT : Hid (Octs w (some ⟨g, o + off, none⟩) (zs.drop off)) := HO.out.skip
      have n1 : ¬ c = off := by omega
      have q1 : (off : Int) ≤ (n : Int) := by omega
      have u1 : IntKind.u64.wrap ((n - off : Nat) : Int) = ((n - off : Nat) : Int) := wrap_u64_id _ (by omega) (by omega)
      go_wp2
      go_loop [9, 12] (fun t i => ∃ (k p : Nat) (T : Int), p = 2 * k ∧ i = .int .i64 (p : Int) ∧ t = .int .u64 T ∧ p ≤ n - off + 1 ∧ Acc (zs.drop off) false (S + (6 + ((n - off : Nat) : Int))) k T) (fun _ i => n - off + 2 - (intOf i).toNat)
      case atStart => exact ⟨0, 0, _, rfl, rfl, rfl, by omega, Acc.start _ _ _⟩
      case round =>
        clear HS f3 f4 f5 HF u1 hk
        obtain ⟨j, p, T, ep, rfl, rfl, hp, hAcc⟩ := hrel
        have HP : Hid (p = 2 * j) := ep
        have HAcc : Hid (Acc (zs.drop off) false (S + (6 + ((n - off : Nat) : Int))) j T) := hAcc
        have tl : (zs.drop off).length = n - off := by rw [List.length_drop, EL.out]
        obtain ⟨hT0, hT1⟩ := hAcc.range HT.out.1 (by omega) (by omega)
        rw [tl] at hT1
        have TL : Hid ((zs.drop off).length = n - off) := tl
        clear ep hAcc tl
        by_cases hlt : p < n - off
        · have hlt' : (p : Int) < ((n - off : Nat) : Int) := by omega
          obtain ⟨p1, ep1⟩ : ∃ p1 : Nat, (p : Int) + 1 = (p1 : Int) := ⟨p + 1, by omega⟩
          by_cases hlt1 : p1 < n - off
          · have hlt1' : (p1 : Int) < ((n - off : Nat) : Int) := by omega
            obtain ⟨za, zb, v, cp, cp1, wa, wb, wab, hv, hv0, hv1, HV⟩ := HT.out.pair hb p p1 (by rw [TL.out]; omega) (by rw [TL.out]; omega)
            go_wp2
            go_round
            case rel => exact ⟨j + 1, p + 2, T + v, by have := HP.out; omega, by go_num, rfl, by omega, by
              have hp := HP.out
              obtain rfl : p1 = 2 * j + 1 := by omega
              have hv := HV.out
              rw [hp] at hv
              rw [hv]
              exact HAcc.out.two (by simp) (by rw [TL.out]; omega)⟩
            case measure => simp [intOf]; omega
          · have hlt1' : ¬ (p1 : Int) < ((n - off : Nat) : Int) := by omega
            obtain ⟨za, cp, wa, wab, hz0, hz1, HV⟩ := HT.out.lone hb p (by rw [TL.out]; omega)
            go_wp2
            go_round
            case rel => exact ⟨j + 1, p + 2, T + za * 256, by have := HP.out; omega, by go_num, rfl, by omega, by
              have hp := HP.out
              have hv := HV.out
              rw [hp] at hv
              rw [hv]
              exact HAcc.out.one (by have := HP.out; omega) (by rw [TL.out]; omega)⟩
            case measure => simp [intOf]; omega
        · have hlt' : ¬ (p : Int) < ((n - off : Nat) : Int) := by omega
          have HE : Hid (0 < T ∧ T = X zs off src dst al + own16 (zs.drop off)) := by
            have h1 := HAcc.out.done (by rw [TL.out]; omega) (by rw [TL.out]; have := HP.out; omega)
            have h2 := HA.out
            have h3 := X_pos zs HO.out.1 off src dst al
            have h4 := HT.out.1.get 16
            have h5 := HT.out.1.get 17
            show _ ∧ _
            unfold X at *
            rw [if_neg (by simp)] at h1; unfold own16 at *; omega
          clear HAcc HA HT HO TL HP EL
          go_wp2
          go_loop [9] (fun t => ∃ x : Int, 0 ≤ x ∧ x ≤ 18446744073709551615 ∧ M.F x = M.F T ∧ t = .int .u64 x) (fun t => (intOf t).toNat)
          case atStart => exact ⟨T, hT0, by omega, rfl, rfl⟩
          case round =>
            obtain ⟨x, hx0, hx1, hxr, rfl⟩ := hrel
            have HX : Hid (M.F x = M.F T) := hxr
            clear hxr
            by_cases hx : 65535 < x
            · have hba := bits_and16_u64 x hx0 hx1
              go_wp2
              go_round
              case rel => exact ⟨x / 65536 + x % 65536, by omega, by omega, by rw [M.F_fold x hx, HX.out], by congr 1; omega⟩
              case measure => simp [intOf]; omega
            · have hx2 : x ≤ 65535 := by omega
              go_wp2
              go_ret
              exact ⟨ret_int (by rw [← HE.out.2, ← HX.out, M.F_small x hx0 hx2]), hb⟩

end Go.Proofs.Ybulkbnnc
