/-
  Rows.LawS3216CFirstsSaid: the row, out of the walk.
-/
import Derived.Test.YbulkbnosRows
import Derived.WalkKit
import Derived.ProofKit
import Derived.OpenShut
import Derived.ShutString
import Derived.ChangeOld
import Derived.Below
import Derived.Deep.Matrix
import Derived.Test.YbulkbnosFirsts
namespace Go.Proofs.Ybulkbnos.lawS3216CFirsts
open Go.ChangeShapes Go.WideShapes Go.ChangeAt Go.RowKit Go.Deep

theorem own : ownKnob Yba.prog.godebug = none := by kernel_rfl
theorem laidOut : laidOutB Yba.prog = true := by kernel_rfl
theorem cells50 : Yba.prog.cellsOf 50 = 1 := by kernel_rfl
theorem cells3 : Yba.prog.cellsOf 3 = 1 := by kernel_rfl

theorem spot_none {w : World} {b off : Nat} {spot : Option Nat} {v : Value} (h : w.cell? ((⟨b, off, spot⟩ : Addr).add 0) = some v) : spot = none := by
  simpa [Addr.add] using World.cell?_spot h

theorem getD_range {n : Nat} (f : Nat → List Int) (r : Nat) (h : r < n) : ((List.range n).map f).getD r [] = f r := by
  rw [List.getD_eq_getElem?_getD, List.getElem?_map, List.getElem?_range h]; rfl

/-- From the rows that came in to what the walk is told. -/
theorem rows_of {W : World} {a : Addr} {len cap : Nat} {A : Nat → Option Addr} {L C : Nat → Nat} {Z : Nat → List Int} (hl : len ≤ cap)
    (h : ∀ r, r < cap → W.cell? (a.add r) = some (.slice (A r) (L r) (C r)) ∧ L r ≤ C r ∧ C r ≤ maxLen ∧ (Z r).length = C r ∧ (∀ n ∈ Z r, (Lit.int .i64 n).wf = true) ∧ (A r = none → C r = 0) ∧
        ∀ a', A r = some a' → 0 ≤ a'.block ∧ ∀ c, c < C r → W.cell? (a'.add c) = some (.int .i64 ((Z r).getD c 0))) :
    RowsIn W (some a) ((List.range len).map fun r => (Z r).take (L r)) := by
  intro r hr
  simp at hr
  obtain ⟨b, off, spot⟩ := a
  obtain rfl : spot = none := spot_none (h 0 (by omega)).1
  obtain ⟨h1, h2, h3, h4, h5, h6, h7⟩ := h r (by omega)
  rw [getD_range _ r hr]
  have hlen : ((Z r).take (L r)).length = L r := by rw [List.length_take]; omega
  refine ⟨b, off, A r, C r, rfl, ?_, fun h0 => ?_⟩
  · rw [hlen, ← h1, add_plain]
  · rw [hlen] at h0
    cases hA : A r with
    | none => have := h6 hA; omega
    | some a' =>
      have h8 := (h7 a' hA).2
      obtain ⟨g', o', spot'⟩ := a'
      obtain rfl : spot' = none := spot_none (h8 0 (by omega))
      refine ⟨g', o', rfl, fun i hi => ?_⟩
      rw [hlen] at hi
      have := h8 i (by omega)
      rw [add_plain] at this
      rw [this, List.getD_eq_getElem?_getD, List.getD_eq_getElem?_getD, List.getElem?_take, if_pos hi]

set_option maxRecDepth 100000 in
theorem lifted (os : Os) (started : os.Started) (H : Type) (enc : TypeId × Value → H) :
    ReturnsInHanded {} Yba.checked os 4 .any (Rows.lawS3216CFirstsSpec.pre6 enc Yba.prog Yba.f4 Rows.lawS3216CFirstsRow.domain false) (Rows.lawS3216CFirstsSpec.post enc Yba.prog Yba.f4 false true false false) := by
  refine returnsInHanded_of_change (C := Yba.checked) own started (by kernel_rfl) Yba.func4
    (ChangeSpec.witness6 (enc := enc) (C := Yba.checked) false ⟨#[], #[.slice none 0 0], []⟩ 8 (by kernel_rfl) (by kernel_rfl) (by kernel_rfl) (by kernel_rfl)) ?_
  intro W base args ds gs before hval0 hW hcnd _
  have hval : ∀ (j : Nat) t v, Yba.f4.params[j]? = some t → args[j]? = some v → Value.okWide Yba.prog W .any base t v := hval0
  have hW' := hW
  obtain ⟨p, q, hA0, hV, rfl, hfz, hnd⟩ := hW
  have hA : DataW.TrodAll enc Yba.prog W 0 (fun _ => true) true Yba.f4.params.toList args.toList ds p := hA0
  rw [Yba.params4] at hA hval
  obtain ⟨v0, vs0, d0, ds0, p0, q0, hargs, rfl, rfl, h0, r0⟩ := trodAll_cons hA
  obtain ⟨rfl, rfl, rfl⟩ := trodAll_nil r0
  obtain rfl : args = #[v0] := by cases args; simp_all
  obtain ⟨rfl, rfl⟩ := trodVars_none hV
  obtain ⟨a0, len0, cap0, rfl⟩ := okWide_slice Yba.underlying32 (hval 0 32 v0 rfl rfl)
  have k0 := h0
  have lt0 : ∀ x ∈ p0, x.block < W.heap.size := by obtain ⟨m, hm⟩ := k0; exact DataW.trod_lt m _ _ _ hm
  obtain ⟨RS, hn, hm, w0⟩ : ∃ RS, len0 = RS.length ∧ len0 ≤ 9223372036854775807 ∧ RowsIn W a0 RS := by
    obtain ⟨fuel, hf⟩ := h0
    rcases open_int_rows Yba.underlying32 Yba.underlying50 Yba.underlying3 cells50 cells3 hf with ⟨hcs, _⟩ | ⟨x, l, c, A, L, C, Z, hcs, _, hl, hmx, _, hx⟩
    · simp [Value.cells] at hcs
      obtain ⟨rfl, rfl, rfl⟩ := hcs
      exact ⟨[], rfl, by omega, fun r hr => absurd hr (by simp)⟩
    · simp [Value.cells] at hcs
      obtain ⟨rfl, rfl, rfl⟩ := hcs
      unfold maxLen at hmx
      exact ⟨_, by simp, by omega, rows_of hl hx⟩
  clear hA0 hval0
  refine (firsts_law W a0 len0 cap0 RS w0 hn hm).mono fun e W' ⟨he, bel⟩ => ?_
  subst he
  exact ⟨_, rfl, _, _, _, [], _, [], hW', trodAll_mk1 (shut_bool Yba.underlying4 _), (trodAll_cons_mk (Below.trod laidOut (by kernel_rfl) (of_decide_eq_true (by kernel_rfl)) k0 bel lt0) trodAll_mk0), rfl, bel.frame _, fun h => by cases h⟩

theorem over : Rows.lawS3216CFirstsRow.holds Yba.pinned (OpenSpec.ofChange Rows.lawS3216CFirstsSpec) :=
  OpenClaim.holds_of_wide 4 Yba.f4 rfl rfl rfl rfl rfl rfl rfl ⟨rfl, rfl, rfl, rfl, rfl⟩ rfl rfl rfl rfl rfl (by kernel_rfl) Yba.func4 (by kernel_rfl)
    (of_decide_eq_true (by kernel_rfl)) (by unfold Func.isWrapper; first | (rw [if_pos (by decide +kernel)]; kernel_rfl) | (rw [if_neg (by decide +kernel)]; exact ⟨rfl, rfl⟩))
    (fun os started H enc _ => lifted os started H enc)

/-- THE STATEMENT -/
theorem proved : Rows.LawS3216CFirstsSaid := over
end Go.Proofs.Ybulkbnos.lawS3216CFirsts
