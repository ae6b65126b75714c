namespace Go.Proofs.Ybulkbnnc.M

/-- The octets as 16-bit words, the first octet of each the high one; a last odd octet is a word whose low octet is 0. -/
def W : List Int → Int
  | [] => 0
  | [a] => a * 256
  | a :: b :: r => a * 256 + b + W r

/-- Octets. -/
def Oct (l : List Int) : Prop := ∀ z ∈ l, 0 ≤ z ∧ z ≤ 255

theorem Oct.tail {a : Int} {l : List Int} (h : Oct (a :: l)) : Oct l := fun z hz => h z (List.mem_cons_of_mem _ hz)
theorem Oct.head {a : Int} {l : List Int} (h : Oct (a :: l)) : 0 ≤ a ∧ a ≤ 255 := h a (List.mem_cons_self)
theorem Oct.drop {l : List Int} (h : Oct l) (k : Nat) : Oct (l.drop k) := fun z hz => h z (List.mem_of_mem_drop hz)
theorem Oct.take {l : List Int} (h : Oct l) (k : Nat) : Oct (l.take k) := fun z hz => h z (List.mem_of_mem_take hz)
theorem Oct.get {l : List Int} (h : Oct l) (k : Nat) : 0 ≤ l.getD k 0 ∧ l.getD k 0 ≤ 255 := by
  by_cases hk : k < l.length
  · rw [List.getD_eq_getElem?_getD, List.getElem?_eq_getElem hk]; exact h _ (List.getElem_mem hk)
  · rw [List.getD_eq_getElem?_getD, List.getElem?_eq_none (by omega)]; simp

theorem W_nonneg : ∀ (l : List Int), Oct l → 0 ≤ W l
  | [], _ => by simp [W]
  | [a], h => by have := h.head; simp [W]; omega
  | a :: b :: r, h => by
    have h1 := h.head; have h2 := h.tail.head; have h3 := W_nonneg r h.tail.tail
    simp [W]; omega

/-- At most 65535 for each octet begun. -/
theorem W_le : ∀ (l : List Int), Oct l → W l ≤ 65535 * l.length
  | [], _ => by simp [W]
  | [a], h => by have := h.head; simp [W]; omega
  | a :: b :: r, h => by
    have h1 := h.head; have h2 := h.tail.head; have h3 := W_le r h.tail.tail
    simp [W]; omega

/-- A run of even length ahead. -/
theorem W_append : ∀ (l r : List Int), l.length % 2 = 0 → W (l ++ r) = W l + W r
  | [], r, _ => by simp [W]
  | [a], r, h => by simp at h
  | a :: b :: l, r, h => by
    have := W_append l r (by simp at h; omega)
    simp [W, this]; omega

/-- The first even number of octets, and the rest. -/
theorem W_split (l : List Int) (k : Nat) (h : k % 2 = 0) (hk : k ≤ l.length) : W l = W (l.take k) + W (l.drop k) := by
  have e := W_append (l.take k) (l.drop k) (by rw [List.length_take]; omega)
  rw [List.take_append_drop] at e
  exact e

def le8 (l : List Int) : Int := l.getD 0 0 + 256 * (l.getD 1 0 + 256 * (l.getD 2 0 + 256 * (l.getD 3 0 + 256 * (l.getD 4 0 + 256 * (l.getD 5 0 + 256 * (l.getD 6 0 + 256 * l.getD 7 0))))))

theorem le8_range (l : List Int) (h : Oct l) : 0 ≤ le8 l ∧ le8 l ≤ 18446744073709551615 := by
  unfold le8
  have h0 := h.get 0; have h1 := h.get 1; have h2 := h.get 2; have h3 := h.get 3
  have h4 := h.get 4; have h5 := h.get 5; have h6 := h.get 6; have h7 := h.get 7
  omega

/-- What the eight octets add, the word's octets swapped. -/
theorem le8_W (l : List Int) (h8 : 8 ≤ l.length) : (le8 l * 256 + W (l.drop 8) - W l) % 65535 = 0 := by
  match l, h8 with
  | z0 :: z1 :: z2 :: z3 :: z4 :: z5 :: z6 :: z7 :: r, _ =>
    simp only [le8, List.getD_cons_zero, List.getD_cons_succ, List.drop_succ_cons, List.drop_zero, W]
    omega

/-- One Add64: 'acc' and 'carry' go on to hold the sum. -/
theorem add_step (acc carry x r0 r1 t : Int) (h : ((acc + carry) * 256 + r0 - t) % 65535 = 0) (hx : (x * 256 + r1 - r0) % 65535 = 0) :
    (((acc + x + carry) % 18446744073709551616 + (acc + x + carry) / 18446744073709551616) * 256 + r1 - t) % 65535 = 0 := by
  omega

/-- The last fold of the carry. -/
theorem add_last (acc carry : Int) (h0 : 0 ≤ acc) (h1 : acc ≤ 18446744073709551615) (h2 : 0 ≤ carry) (h3 : carry ≤ 1) :
    0 ≤ (acc + carry) % 18446744073709551616 + (acc + carry) / 18446744073709551616 ∧ (acc + carry) % 18446744073709551616 + (acc + carry) / 18446744073709551616 ≤ 18446744073709551615 ∧
    ((acc + carry) % 18446744073709551616 + (acc + carry) / 18446744073709551616 - (acc + carry)) % 65535 = 0 := by
  omega

/-- The fold to 16 bits. -/
theorem fold16 (a : Int) (h0 : 65535 < a) : (a / 65536 + a % 65536 - a) % 65535 = 0 ∧ 0 < a / 65536 + a % 65536 ∧ a / 65536 + a % 65536 < a := by
  omega
theorem fold32 (a : Int) (h0 : 4294967295 < a) : (a / 4294967296 + a % 4294967296 - a) % 65535 = 0 ∧ 0 < a / 4294967296 + a % 4294967296 ∧ a / 4294967296 + a % 4294967296 < a := by
  omega

/-- The swap. -/
theorem rev16 (a : Int) (h0 : 0 ≤ a) (h1 : a ≤ 65535) : ((a % 256) * 256 + a / 256 - a * 256) % 65535 = 0 ∧ 0 ≤ (a % 256) * 256 + a / 256 ∧ (a % 256) * 256 + a / 256 ≤ 65535 := by
  omega

/-- The ones' complement sum of a number's 16-bit parts: 0 of 0 alone. -/
def F (s : Int) : Int := if s ≤ 0 then 0 else (s - 1) % 65535 + 1

theorem F_range (s : Int) : 0 ≤ F s ∧ F s ≤ 65535 := by unfold F; split <;> omega
theorem F_pos (s : Int) (h : 0 < s) : 0 < F s := by unfold F; split <;> omega
theorem F_cong (s t : Int) (hs : 0 < s) (ht : 0 < t) (h : (s - t) % 65535 = 0) : F s = F t := by
  unfold F; split <;> split <;> omega
theorem F_small (s : Int) (h0 : 0 ≤ s) (h1 : s ≤ 65535) : F s = s := by unfold F; split <;> omega
theorem F_fold (s : Int) (h : 65535 < s) : F (s / 65536 + s % 65536) = F s :=
  F_cong _ _ (fold16 s h).2.1 (by omega) (fold16 s h).1

/-- With its own complement added the sum is all ones. -/
theorem F_verify (x : Int) (h : 0 < x) : F (x + (65535 - F x)) = 65535 := by
  unfold F; split <;> split <;> omega

/-- Two octets more. -/
theorem W_two (l : List Int) (h : 2 ≤ l.length) : W l = l.getD 0 0 * 256 + l.getD 1 0 + W (l.drop 2) := by
  match l, h with
  | a :: b :: r, _ => simp [W]
theorem W_one (l : List Int) (h : l.length = 1) : W l = l.getD 0 0 * 256 := by
  match l, h with
  | [a], _ => simp [W]

end Go.Proofs.Ybulkbnnc.M
