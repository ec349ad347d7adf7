/-
  laws.FnCuts returns true for every input of bulk at most 1048576: bytes in any pieces become what they become at once.
-/
import Derived.Test.YtaapglpnofmmlaaFnCuts
import Derived.Test.YtaapglpnofmmlaaArgArr
import Derived.Test.YtaapglpnofmmlaaArgNum
import Derived.Test.YtaapglpnofmmlaaArgRows
import Derived.JoinedCond
namespace Go.Proofs.Ytaapglpnofmmlaa.fnCuts
open Go Go.RowKit Go.ChangeShapes Go.WideShapes Go.ChangeAt
set_option linter.unusedVariables false
theorem cells24T : Try.prog.cellsOf 28 = 24 := by kernel_rfl
theorem cells32T : Try.prog.cellsOf 27 = 32 := by kernel_rfl
theorem walk (w : World) (l0 : List UInt8) (e0 : l0.length = 32) (l1 : List UInt8) (e1 : l1.length = 24) (x2 : Bool) (x3 : UInt32) (a4 : Option Addr) (len4 cap4 : Nat) (q4 : List (Value × List UInt8)) (s4 : RowsL w (.slice a4 len4 cap4) q4) (b4 : totalR (q4.map (·.2)) + q4.length ≤ 1048576) :
    Calls Try.prog 8 #[.agg (cells8 l0), .agg (cells8 l1), .bool x2, .int .u32 (u32 x3), .slice a4 len4 cap4] w fun e w' => e = .returned (.bool true) ∧ Below w.heap.size w w' :=
  ((fnCuts_c l0 l1 x2 x3 q4 _ w e0 e1 s4 b4)).mono fun e w' h => ⟨h.1, h.2.below (fun _ _ h => h.elim) (Nat.le_refl _)⟩
set_option maxRecDepth 100000 in
theorem lifted (os : Os) (started : os.Started) (H : Type) (enc : TypeId × Value → H) (F : Stop.Interp) :
    ReturnsInHanded {} Try.checked os 8 .any ((Rows.OpenSpec.upto Rows.fnCutsSpec).pre6 enc Try.prog Try.f8 Rows.fnCutsUptoRow.domain false) (((Rows.OpenSpec.upto Rows.fnCutsSpec).at F).post enc Try.prog Try.f8 false true false false) := by
  refine returnsInHanded_of_cond (C := Try.checked) (s := Rows.OpenSpec.upto Rows.fnCutsSpec) (k := Rows.uptoSmall) rfl own started (by kernel_rfl) Try.func8
    (OpenSpec.witness (enc := enc) (C := Try.checked) (s := Rows.OpenSpec.upto Rows.fnCutsSpec) (k := Rows.uptoSmall) rfl false ⟨#[], #[.agg (Array.replicate 32 (.int .u8 0)), .agg (Array.replicate 24 (.int .u8 0)), .bool false, .int .u32 0, .slice none 0 0], []⟩ 8 (by kernel_rfl) (by kernel_rfl) (by kernel_rfl)
      (x := ([.agg (List.replicate 32 (.lit (.int .u8 0))), .agg (List.replicate 24 (.lit (.int .u8 0))), .lit (.bool false), .lit (.int .u32 0), .nil], [], [])) (by kernel_rfl) rfl (by kernel_rfl)) ?_
  intro W base args ds gs before hval0 hW _ hk0 _
  have hval : ∀ (j : Nat) t v, Try.f8.params[j]? = some t → args[j]? = some v → Value.okWide Try.prog W .any base t v := hval0
  have hW' := hW
  obtain ⟨p, q, hA0, hV, rfl, hfz, hnd⟩ := hW
  have hA : DataW.TrodAll enc Try.prog W 0 (fun _ => true) true Try.f8.params.toList args.toList ds p := hA0
  rw [Try.params8] at hA hval
  obtain ⟨v0, vs0, d0, ds0, p0, q0, hargs, rfl, rfl, h0, r0⟩ := trodAll_cons hA
  obtain ⟨v1, vs1, d1, ds1, p1, q1, rfl, rfl, rfl, h1, r1⟩ := trodAll_cons r0
  obtain ⟨v2, vs2, d2, ds2, p2, q2, rfl, rfl, rfl, h2, r2⟩ := trodAll_cons r1
  obtain ⟨v3, vs3, d3, ds3, p3, q3, rfl, rfl, rfl, h3, r3⟩ := trodAll_cons r2
  obtain ⟨v4, vs4, d4, ds4, p4, q4, rfl, rfl, rfl, h4, r4⟩ := trodAll_cons r3
  obtain ⟨rfl, rfl, rfl⟩ := trodAll_nil r4
  obtain rfl : args = #[v0, v1, v2, v3, v4] := by cases args; simp_all
  obtain ⟨rfl, rfl⟩ := trodVars_none hV
  have hk : Rows.uptoBulkAll [d0, d1, d2, d3, d4] ≤ 1048576 := of_decide_eq_true hk0
  simp only [Rows.uptoBulkAll] at hk
  obtain ⟨l0, e0, rfl⟩ := open_arr Try.underlying27 Try.underlying5 cellsByte cells32T (hval 0 27 v0 rfl rfl) h0
  have lt0 : ∀ x ∈ p0, x.block < W.heap.size := by obtain ⟨m, hm⟩ := h0; exact DataW.trod_lt m _ _ _ hm
  obtain ⟨l1, e1, rfl⟩ := open_arr Try.underlying28 Try.underlying5 cellsByte cells24T (hval 1 28 v1 rfl rfl) h1
  have lt1 : ∀ x ∈ p1, x.block < W.heap.size := by obtain ⟨m, hm⟩ := h1; exact DataW.trod_lt m _ _ _ hm
  obtain ⟨x2, rfl⟩ := okWide_bool Try.underlying4 (hval 2 4 v2 rfl rfl)
  have lt2 : ∀ x ∈ p2, x.block < W.heap.size := by obtain ⟨m, hm⟩ := h2; exact DataW.trod_lt m _ _ _ hm
  obtain ⟨x3, rfl⟩ := open_u32 Try.underlying29 h3 (hval 3 29 v3 rfl rfl)
  have lt3 : ∀ x ∈ p3, x.block < W.heap.size := by obtain ⟨m, hm⟩ := h3; exact DataW.trod_lt m _ _ _ hm
  obtain ⟨a4, len4, cap4, rfl⟩ := okWide_slice Try.underlying50 (hval 4 50 v4 rfl rfl)
  obtain ⟨c4, s4, b4⟩ := open_rows h4
  have lt4 : ∀ x ∈ p4, x.block < W.heap.size := by obtain ⟨m, hm⟩ := h4; exact DataW.trod_lt m _ _ _ hm
  clear hA0 hval0
  refine (walk W l0 e0 l1 e1 x2 x3 a4 len4 cap4 c4 s4 (by omega)).mono fun e W' ⟨he, bel⟩ => ?_
  subst he
  exact ⟨_, rfl, _, _, _, [], _, [], hW', trodAll_mk1 (shut_bool Try.underlying4 _), (trodAll_cons_mk (Below.trod laidOut (by kernel_rfl) (of_decide_eq_true (by kernel_rfl)) h0 bel lt0) (trodAll_cons_mk (Below.trod laidOut (by kernel_rfl) (of_decide_eq_true (by kernel_rfl)) h1 bel lt1) (trodAll_cons_mk (Below.trod laidOut (by kernel_rfl) (of_decide_eq_true (by kernel_rfl)) h2 bel lt2) (trodAll_cons_mk (Below.trod laidOut (by kernel_rfl) (of_decide_eq_true (by kernel_rfl)) h3 bel lt3) (trodAll_cons_mk (Below.trod laidOut (by kernel_rfl) (of_decide_eq_true (by kernel_rfl)) h4 bel lt4) trodAll_mk0))))), rfl, bel.frame _, fun h => by cases h⟩
theorem proved : Rows.FnCutsUptoSaid :=
  OpenClaim.holds_of_cond 8 Try.f8 rfl rfl rfl rfl rfl rfl rfl ⟨rfl, rfl, rfl, rfl, rfl⟩ rfl rfl rfl rfl rfl (by kernel_rfl) Try.func8 (by kernel_rfl)
    (of_decide_eq_true (by kernel_rfl)) (by unfold Func.isWrapper; first | (rw [if_pos (by decide +kernel)]; kernel_rfl) | (rw [if_neg (by decide +kernel)]; exact ⟨rfl, rfl⟩))
    (fun os started H enc _ F => lifted os started H enc F)
#print axioms proved
end Go.Proofs.Ytaapglpnofmmlaa.fnCuts
