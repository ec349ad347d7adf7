/-
  laws.FnBlock returns true for every input. No condition.
-/
import Derived.Test.YtaapglpnofmmlaaFnBlock
import Derived.Test.YtaapglpnofmmlaaArgAll
namespace Go.Proofs.Ytaapglpnofmmlaa.fnBlock
open Go Go.RowKit Go.ChangeShapes Go.WideShapes Go.ChangeAt
set_option linter.unusedVariables false
theorem cells12T : Try.prog.cellsOf 41 = 12 := by kernel_rfl
theorem cells32T : Try.prog.cellsOf 27 = 32 := by kernel_rfl
theorem walk (w : World) (l0 : List UInt8) (e0 : l0.length = 32) (l1 : List UInt8) (e1 : l1.length = 12) (x2 : UInt32) :
    Calls Try.prog 7 #[.agg (cells8 l0), .agg (cells8 l1), .int .u32 (u32 x2)] w fun e w' => e = .returned (.bool true) ∧ Below w.heap.size w w' :=
  (fnBlock_c l0 l1 x2 w e0 e1).mono fun e w' h => ⟨h.1, h.2.below (fun _ _ h => h.elim) (Nat.le_refl _)⟩
set_option maxRecDepth 100000 in
theorem lifted (os : Os) (started : os.Started) (H : Type) (enc : TypeId × Value → H) :
    ReturnsInHanded {} Try.checked os 7 .any (Rows.fnBlockSpec.pre6 enc Try.prog Try.f7 Rows.fnBlockRow.domain false) (Rows.fnBlockSpec.post enc Try.prog Try.f7 false true false false) := by
  refine returnsInHanded_of_change_sized (C := Try.checked) own started (by kernel_rfl) Try.func7
    (ChangeSpec.witness6 (enc := enc) (C := Try.checked) false ⟨#[], #[.agg (Array.replicate 32 (.int .u8 0)), .agg (Array.replicate 12 (.int .u8 0)), .int .u32 0], []⟩ 8 (by kernel_rfl) (by kernel_rfl) (by kernel_rfl) (by kernel_rfl)) ?_
  intro W base args ds gs before hval0 hW hcnd hsz0 _
  have hval : ∀ (j : Nat) t v, Try.f7.params[j]? = some t → args[j]? = some v → Value.okWide Try.prog W .any base t v := hval0
  have hW' := hW
  obtain ⟨p, q, hA0, hV, rfl, hfz, hnd⟩ := hW
  have hA : DataW.TrodAll enc Try.prog W 0 (fun _ => true) true Try.f7.params.toList args.toList ds p := hA0
  have hsz : (DataW.weightsEach Try.prog (Try.f7.params.toList ++ Rows.fnBlockSpec.plain.varTypes Try.prog) (ds ++ gs)).all (· ≤ reachBytes) = true := hsz0
  rw [Try.params7] at hA hval hsz
  obtain ⟨v0, vs0, d0, ds0, p0, q0, hargs, rfl, rfl, h0, r0⟩ := trodAll_cons hA
  obtain ⟨v1, vs1, d1, ds1, p1, q1, rfl, rfl, rfl, h1, r1⟩ := trodAll_cons r0
  obtain ⟨v2, vs2, d2, ds2, p2, q2, rfl, rfl, rfl, h2, r2⟩ := trodAll_cons r1
  obtain ⟨rfl, rfl, rfl⟩ := trodAll_nil r2
  obtain rfl : args = #[v0, v1, v2] := by cases args; simp_all
  obtain ⟨rfl, rfl⟩ := trodVars_none hV
  obtain ⟨l0, e0, rfl⟩ := open_arr Try.underlying27 Try.underlying5 cellsByte cells32T (hval 0 27 v0 rfl rfl) h0
  have lt0 : ∀ x ∈ p0, x.block < W.heap.size := by obtain ⟨m, hm⟩ := h0; exact DataW.trod_lt m _ _ _ hm
  obtain ⟨l1, e1, rfl⟩ := open_arr Try.underlying41 Try.underlying5 cellsByte cells12T (hval 1 41 v1 rfl rfl) h1
  have lt1 : ∀ x ∈ p1, x.block < W.heap.size := by obtain ⟨m, hm⟩ := h1; exact DataW.trod_lt m _ _ _ hm
  obtain ⟨x2, rfl⟩ := open_u32 Try.underlying29 h2 (hval 2 29 v2 rfl rfl)
  have lt2 : ∀ x ∈ p2, x.block < W.heap.size := by obtain ⟨m, hm⟩ := h2; exact DataW.trod_lt m _ _ _ hm
  clear hA0 hval0
  refine (walk W l0 e0 l1 e1 x2).mono fun e W' ⟨he, bel⟩ => ?_
  subst he
  exact ⟨_, rfl, _, _, _, [], _, [], hW', trodAll_mk1 (shut_bool Try.underlying4 _), (trodAll_cons_mk (Below.trod laidOut (by kernel_rfl) (of_decide_eq_true (by kernel_rfl)) h0 bel lt0) (trodAll_cons_mk (Below.trod laidOut (by kernel_rfl) (of_decide_eq_true (by kernel_rfl)) h1 bel lt1) (trodAll_cons_mk (Below.trod laidOut (by kernel_rfl) (of_decide_eq_true (by kernel_rfl)) h2 bel lt2) trodAll_mk0))), rfl, bel.frame _, fun h => by cases h⟩
theorem over : Rows.fnBlockRow.holds Try.pinned (OpenSpec.ofChange Rows.fnBlockSpec) :=
  OpenClaim.holds_of_wide 7 Try.f7 rfl rfl rfl rfl rfl rfl rfl ⟨rfl, rfl, rfl, rfl, rfl⟩ rfl rfl rfl rfl rfl (by kernel_rfl) Try.func7 (by kernel_rfl)
    (of_decide_eq_true (by kernel_rfl)) (by unfold Func.isWrapper; first | (rw [if_pos (by decide +kernel)]; kernel_rfl) | (rw [if_neg (by decide +kernel)]; exact ⟨rfl, rfl⟩))
    (fun os started H enc _ => lifted os started H enc)
theorem proved : Rows.FnBlockSaid := over
#print axioms proved
end Go.Proofs.Ytaapglpnofmmlaa.fnBlock
