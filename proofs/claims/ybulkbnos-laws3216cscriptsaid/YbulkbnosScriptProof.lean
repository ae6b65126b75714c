/-
  Rows.LawS3216CScriptSaid: the row, out of the walk.
-/
import Derived.Test.YbulkbnosRows
import Derived.WalkKit
import Derived.ProofKit
import Derived.OpenShut
import Derived.ShutString
import Derived.ChangeOld
import Derived.Below
import Derived.Deep.SlicePairs
import Derived.Test.YbulkbnosScript
namespace Go.Proofs.Ybulkbnos.lawS3216CScript
open Go.ChangeShapes Go.WideShapes Go.ChangeAt Go.RowKit Go.Deep

theorem own : ownKnob Yba.prog.godebug = none := by kernel_rfl
theorem laidOut : laidOutB Yba.prog = true := by kernel_rfl
theorem cells69 : Yba.prog.cellsOf 69 = 2 := by kernel_rfl
theorem cells67 : Yba.prog.cellsOf 67 = 1 := by kernel_rfl
theorem cells5 : Yba.prog.cellsOf 5 = 1 := by kernel_rfl

theorem spot_none {w : World} {b off : Nat} {spot : Option Nat} {v : Value} (h : w.cell? ((⟨b, off, spot⟩ : Addr).add 0) = some v) : spot = none := by
  simpa [Addr.add] using World.cell?_spot h

theorem oct_of_wf {z : Int} (h : (Lit.int .u8 z).wf = true) : 0 ≤ z ∧ z ≤ 255 := by
  have e1 : IntKind.u8.min = 0 := rfl
  have e2 : IntKind.u8.max = 255 := rfl
  simpa [Lit.wf, e1, e2] using h

/-- A slice of bytes in a cell: what the walk is told. -/
theorem bytes_of {H : Type} {enc : TypeId × Value → H} {W : World} {fuel : Nat} {v : Value} {y : DataW H × List MemPlace} (h : DataW.trod enc Yba.prog W 0 (fun _ => true) true fuel 67 [v] = some y) :
    ∃ (A : Option Addr) (C : Nat) (l : List Int), v = .slice A l.length C ∧ (0 < l.length → ∃ g' o', A = some ⟨g', o', none⟩ ∧ ∀ i, i < l.length → W.cell? ⟨g', o' + i, none⟩ = some (.int .u8 (l.getD i 0)) ∧ 0 ≤ l.getD i 0 ∧ l.getD i 0 ≤ 255) := by
  rcases open_ints Yba.underlying67 Yba.underlying5 cells5 h with ⟨hcs, _⟩ | ⟨x, l, c, zs, hcs, _, hl, hm, hz, _, hcell, hwz⟩
  · simp at hcs
    exact ⟨none, 0, [], hcs, fun h => absurd h (by simp)⟩
  · simp at hcs
    simp only [if_true] at hz
    have hlen : (zs.take l).length = l := by rw [List.length_take]; omega
    refine ⟨some x, c, zs.take l, by rw [hlen]; exact hcs, fun h0 => ?_⟩
    rw [hlen] at h0
    obtain ⟨g', o', spot⟩ := x
    obtain rfl : spot = none := spot_none (hcell 0 (by omega))
    refine ⟨g', o', rfl, fun i hi => ?_⟩
    rw [hlen] at hi
    have h1 := hcell i (by omega)
    rw [add_plain] at h1
    have e : (zs.take l).getD i 0 = zs.getD i 0 := by
      rw [List.getD_eq_getElem?_getD, List.getD_eq_getElem?_getD, List.getElem?_take, if_pos hi]
    rw [e]
    refine ⟨h1, oct_of_wf (hwz _ ?_)⟩
    rw [List.getD_eq_getElem?_getD, List.getElem?_eq_getElem (by omega)]
    exact List.getElem_mem _

set_option maxRecDepth 100000 in
theorem lifted (os : Os) (started : os.Started) (H : Type) (enc : TypeId × Value → H) :
    ReturnsInHanded {} Yba.checked os 5 .any (Rows.lawS3216CScriptSpec.pre6 enc Yba.prog Yba.f5 Rows.lawS3216CScriptRow.domain false) (Rows.lawS3216CScriptSpec.post enc Yba.prog Yba.f5 false true false false) := by
  refine returnsInHanded_of_change (C := Yba.checked) own started (by kernel_rfl) Yba.func5
    (ChangeSpec.witness6 (enc := enc) (C := Yba.checked) false ⟨#[], #[.slice none 0 0], []⟩ 8 (by kernel_rfl) (by kernel_rfl) (by kernel_rfl) (by kernel_rfl)) ?_
  intro W base args ds gs before hval0 hW hcnd _
  have hval : ∀ (j : Nat) t v, Yba.f5.params[j]? = some t → args[j]? = some v → Value.okWide Yba.prog W .any base t v := hval0
  have hW' := hW
  obtain ⟨p, q, hA0, hV, rfl, hfz, hnd⟩ := hW
  have hA : DataW.TrodAll enc Yba.prog W 0 (fun _ => true) true Yba.f5.params.toList args.toList ds p := hA0
  rw [Yba.params5] at hA hval
  obtain ⟨v0, vs0, d0, ds0, p0, q0, hargs, rfl, rfl, h0, r0⟩ := trodAll_cons hA
  obtain ⟨rfl, rfl, rfl⟩ := trodAll_nil r0
  obtain rfl : args = #[v0] := by cases args; simp_all
  obtain ⟨rfl, rfl⟩ := trodVars_none hV
  obtain ⟨a0, len0, cap0, rfl⟩ := okWide_slice Yba.underlying66 (hval 0 66 v0 rfl rfl)
  have k0 := h0
  have lt0 : ∀ x ∈ p0, x.block < W.heap.size := by obtain ⟨m, hm⟩ := k0; exact DataW.trod_lt m _ _ _ hm
  obtain ⟨ops, nodes, hm, w0⟩ : ∃ ops nodes, len0 ≤ 9223372036854775807 ∧ StepsIn W a0 len0 ops nodes := by
    obtain ⟨fuel, hf⟩ := h0
    rcases open_slice_pairs Yba.underlying66 Yba.underlying69 cells69 rfl rfl cells5 cells67 hf with ⟨hcs, _⟩ | ⟨x, l, c, m, n, V0, V1, D0, D1, P0, P1, hcs, _, hl, hmx, hmm, _, hx⟩
    · simp [Value.cells] at hcs
      obtain ⟨rfl, rfl, rfl⟩ := hcs
      exact ⟨fun _ => 0, fun _ => [], by omega, fun r hr => absurd hr (by omega)⟩
    · simp [Value.cells] at hcs
      obtain ⟨rfl, rfl, rfl⟩ := hcs
      unfold maxLen at hmx
      simp only [if_true] at hmm
      have each : ∀ r, r < len0 → ∃ q : Int × List Int, ∃ g o A C, some x = some ⟨g, o, none⟩ ∧ W.cell? ⟨g, o + r * 2, none⟩ = some (.int .u8 q.1) ∧ W.cell? ⟨g, o + r * 2 + 1, none⟩ = some (.slice A q.2.length C) ∧ 0 ≤ q.1 ∧ q.1 ≤ 255 ∧
          (0 < q.2.length → ∃ g' o', A = some ⟨g', o', none⟩ ∧ ∀ i, i < q.2.length → W.cell? ⟨g', o' + i, none⟩ = some (.int .u8 (q.2.getD i 0)) ∧ 0 ≤ q.2.getD i 0 ∧ q.2.getD i 0 ≤ 255) := by
        intro r hr
        obtain ⟨g, o, spot⟩ := x
        obtain rfl : spot = none := spot_none (by simpa using (hx 0 (by omega)).1)
        obtain ⟨c0, c1, t0, t1⟩ := hx r (by omega)
        rw [add_plain] at c0 c1
        obtain ⟨z, e0, _, wz⟩ := DataW.trod_int Yba.underlying5 t0
        simp at e0
        obtain ⟨A, C, ll, e1, hA⟩ := bytes_of t1
        have hz := oct_of_wf wz
        exact ⟨(z, ll), g, o, A, C, rfl, by rw [c0, e0], by rw [Nat.add_assoc, c1, e1], hz.1, hz.2, hA⟩
      obtain ⟨F, hF⟩ := choose_lt each
      exact ⟨fun r => (F r).1, fun r => (F r).2, by omega, hF⟩
  clear hA0 hval0
  refine (script_law W a0 len0 cap0 ops nodes w0 hm).mono fun e W' ⟨he, bel⟩ => ?_
  subst he
  exact ⟨_, rfl, _, _, _, [], _, [], hW', trodAll_mk1 (shut_bool Yba.underlying4 _), (trodAll_cons_mk (Below.trod laidOut (by kernel_rfl) (of_decide_eq_true (by kernel_rfl)) k0 bel lt0) trodAll_mk0), rfl, bel.frame _, fun h => by cases h⟩

theorem over : Rows.lawS3216CScriptRow.holds Yba.pinned (OpenSpec.ofChange Rows.lawS3216CScriptSpec) :=
  OpenClaim.holds_of_wide 5 Yba.f5 rfl rfl rfl rfl rfl rfl rfl ⟨rfl, rfl, rfl, rfl, rfl⟩ rfl rfl rfl rfl rfl (by kernel_rfl) Yba.func5 (by kernel_rfl)
    (of_decide_eq_true (by kernel_rfl)) (by unfold Func.isWrapper; first | (rw [if_pos (by decide +kernel)]; kernel_rfl) | (rw [if_neg (by decide +kernel)]; exact ⟨rfl, rfl⟩))
    (fun os started H enc _ => lifted os started H enc)

/-- THE STATEMENT -/
theorem proved : Rows.LawS3216CScriptSaid := over
end Go.Proofs.Ybulkbnos.lawS3216CScript
