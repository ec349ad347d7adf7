/-
  laws.FnMacCuts returns true for every input of bulk at most 1048576: bytes in any pieces have the authenticator that they have at once.
-/
import Derived.Test.YtdkhpehniciijaaFnMacCuts
import Derived.Test.YtdkhpehniciijaaArgArr
import Derived.Test.YtdkhpehniciijaaArgRows
import Derived.JoinedCond
namespace Go.Proofs.Ytdkhpehniciijaa.fnMacCuts
open Go Go.RowKit Go.ChangeShapes Go.WideShapes Go.ChangeAt
set_option linter.unusedVariables false
theorem cells32T : Try.prog.cellsOf 22 = 32 := by kernel_rfl
theorem walk (w : World) (l0 : List UInt8) (e0 : l0.length = 32) (a1 : Option Addr) (len1 cap1 : Nat) (q1 : List (Value × List UInt8)) (s1 : RowsL w (.slice a1 len1 cap1) q1) (b1 : totalR (q1.map (·.2)) + q1.length ≤ 1048576) :
    Calls Try.prog 14 #[.agg (cells8 l0), .slice a1 len1 cap1] w fun e w' => e = .returned (.bool true) ∧ Below w.heap.size w w' :=
  ((fnMacCuts_c l0 q1 _ w e0 s1 b1)).mono fun e w' h => ⟨h.1, h.2.below (fun _ _ h => h.elim) (Nat.le_refl _)⟩
set_option maxRecDepth 100000 in
theorem lifted (os : Os) (started : os.Started) (H : Type) (enc : TypeId × Value → H) (F : Stop.Interp) :
    ReturnsInHanded {} Try.checked os 14 .any ((Rows.OpenSpec.upto Rows.fnMacCutsSpec).pre6 enc Try.prog Try.f14 Rows.fnMacCutsUptoRow.domain false) (((Rows.OpenSpec.upto Rows.fnMacCutsSpec).at F).post enc Try.prog Try.f14 false true false false) := by
  refine returnsInHanded_of_cond (C := Try.checked) (s := Rows.OpenSpec.upto Rows.fnMacCutsSpec) (k := Rows.uptoSmall) rfl own started (by kernel_rfl) Try.func14
    (OpenSpec.witness (enc := enc) (C := Try.checked) (s := Rows.OpenSpec.upto Rows.fnMacCutsSpec) (k := Rows.uptoSmall) rfl false ⟨#[], #[.agg (Array.replicate 32 (.int .u8 0)), .slice none 0 0], []⟩ 8 (by kernel_rfl) (by kernel_rfl) (by kernel_rfl)
      (x := ([.agg (List.replicate 32 (.lit (.int .u8 0))), .nil], [], [])) (by kernel_rfl) rfl (by kernel_rfl)) ?_
  intro W base args ds gs before hval0 hW _ hk0 _
  have hval : ∀ (j : Nat) t v, Try.f14.params[j]? = some t → args[j]? = some v → Value.okWide Try.prog W .any base t v := hval0
  have hW' := hW
  obtain ⟨p, q, hA0, hV, rfl, hfz, hnd⟩ := hW
  have hA : DataW.TrodAll enc Try.prog W 0 (fun _ => true) true Try.f14.params.toList args.toList ds p := hA0
  rw [Try.params14] at hA hval
  obtain ⟨v0, vs0, d0, ds0, p0, q0, hargs, rfl, rfl, h0, r0⟩ := trodAll_cons hA
  obtain ⟨v1, vs1, d1, ds1, p1, q1, rfl, rfl, rfl, h1, r1⟩ := trodAll_cons r0
  obtain ⟨rfl, rfl, rfl⟩ := trodAll_nil r1
  obtain rfl : args = #[v0, v1] := by cases args; simp_all
  obtain ⟨rfl, rfl⟩ := trodVars_none hV
  have hk : Rows.uptoBulkAll [d0, d1] ≤ 1048576 := of_decide_eq_true hk0
  simp only [Rows.uptoBulkAll] at hk
  obtain ⟨l0, e0, rfl⟩ := open_arr Try.underlying22 Try.underlying5 cellsByte cells32T (hval 0 22 v0 rfl rfl) h0
  have lt0 : ∀ x ∈ p0, x.block < W.heap.size := by obtain ⟨m, hm⟩ := h0; exact DataW.trod_lt m _ _ _ hm
  obtain ⟨a1, len1, cap1, rfl⟩ := okWide_slice Try.underlying48 (hval 1 48 v1 rfl rfl)
  obtain ⟨c1, s1, b1⟩ := open_rows h1
  have lt1 : ∀ x ∈ p1, x.block < W.heap.size := by obtain ⟨m, hm⟩ := h1; exact DataW.trod_lt m _ _ _ hm
  clear hA0 hval0
  refine (walk W l0 e0 a1 len1 cap1 c1 s1 (by omega)).mono fun e W' ⟨he, bel⟩ => ?_
  subst he
  exact ⟨_, rfl, _, _, _, [], _, [], hW', trodAll_mk1 (shut_bool Try.underlying4 _), (trodAll_cons_mk (Below.trod laidOut (by kernel_rfl) (of_decide_eq_true (by kernel_rfl)) h0 bel lt0) (trodAll_cons_mk (Below.trod laidOut (by kernel_rfl) (of_decide_eq_true (by kernel_rfl)) h1 bel lt1) trodAll_mk0)), rfl, bel.frame _, fun h => by cases h⟩
theorem proved : Rows.FnMacCutsUptoSaid :=
  OpenClaim.holds_of_cond 14 Try.f14 rfl rfl rfl rfl rfl rfl rfl ⟨rfl, rfl, rfl, rfl, rfl⟩ rfl rfl rfl rfl rfl (by kernel_rfl) Try.func14 (by kernel_rfl)
    (of_decide_eq_true (by kernel_rfl)) (by unfold Func.isWrapper; first | (rw [if_pos (by decide +kernel)]; kernel_rfl) | (rw [if_neg (by decide +kernel)]; exact ⟨rfl, rfl⟩))
    (fun os started H enc _ F => lifted os started H enc F)
#print axioms proved
end Go.Proofs.Ytdkhpehniciijaa.fnMacCuts
