/-
  laws.FnTag returns true for every input: an authenticator is the value of the polynomial that the reference computes. No condition.
-/
import Derived.Test.YtdkhpehniciijaaFnTag
import Derived.Test.YtdkhpehniciijaaArgArr
namespace Go.Proofs.Ytdkhpehniciijaa.fnTag
open Go Go.RowKit Go.ChangeShapes Go.WideShapes Go.ChangeAt
set_option linter.unusedVariables false
theorem cells32T : Try.prog.cellsOf 22 = 32 := by kernel_rfl
theorem walk (w : World) (a0 : Option Addr) (len0 cap0 : Nat) (l0 : List UInt8) (s0 : SlB w (.slice a0 len0 cap0) l0) (e0 : l0.length = len0) (k0 : len0 ≤ 140737488351232) (l1 : List UInt8) (e1 : l1.length = 32) :
    Calls Try.prog 6 #[.slice a0 len0 cap0, .agg (cells8 l1)] w fun e w' => e = .returned (.bool true) ∧ Below w.heap.size w w' :=
  (fnTag_c l0 l1 _ w e1 s0 (by rw [e0]; exact k0)).mono fun e w' h => ⟨h.1, h.2.below (fun _ _ h => h.elim) (Nat.le_refl _)⟩
set_option maxRecDepth 100000 in
theorem lifted (os : Os) (started : os.Started) (H : Type) (enc : TypeId × Value → H) :
    ReturnsInHanded {} Try.checked os 6 .any (Rows.fnTagSpec.pre6 enc Try.prog Try.f6 Rows.fnTagRow.domain false) (Rows.fnTagSpec.post enc Try.prog Try.f6 false true false false) := by
  refine returnsInHanded_of_change_sized (C := Try.checked) own started (by kernel_rfl) Try.func6
    (ChangeSpec.witness6 (enc := enc) (C := Try.checked) false ⟨#[], #[.slice none 0 0, .agg (Array.replicate 32 (.int .u8 0))], []⟩ 8 (by kernel_rfl) (by kernel_rfl) (by kernel_rfl) (by kernel_rfl)) ?_
  intro W base args ds gs before hval0 hW hcnd hsz0 _
  have hval : ∀ (j : Nat) t v, Try.f6.params[j]? = some t → args[j]? = some v → Value.okWide Try.prog W .any base t v := hval0
  have hW' := hW
  obtain ⟨p, q, hA0, hV, rfl, hfz, hnd⟩ := hW
  have hA : DataW.TrodAll enc Try.prog W 0 (fun _ => true) true Try.f6.params.toList args.toList ds p := hA0
  have hsz : (DataW.weightsEach Try.prog (Try.f6.params.toList ++ Rows.fnTagSpec.plain.varTypes Try.prog) (ds ++ gs)).all (· ≤ reachBytes) = true := hsz0
  rw [Try.params6] at hA hval hsz
  obtain ⟨v0, vs0, d0, ds0, p0, q0, hargs, rfl, rfl, h0, r0⟩ := trodAll_cons hA
  obtain ⟨v1, vs1, d1, ds1, p1, q1, rfl, rfl, rfl, h1, r1⟩ := trodAll_cons r0
  obtain ⟨rfl, rfl, rfl⟩ := trodAll_nil r1
  obtain rfl : args = #[v0, v1] := by cases args; simp_all
  obtain ⟨rfl, rfl⟩ := trodVars_none hV
  obtain ⟨a0, len0, cap0, rfl⟩ := okWide_slice Try.underlying23 (hval 0 23 v0 rfl rfl)
  obtain ⟨l0, s0, e0, b0⟩ := open_bytes h0
  have k0 : len0 ≤ 140737488351232 := by
    rcases b0 with ⟨h, _⟩ | ⟨elems, spare, rfl, hc, hl⟩
    · omega
    · have := sized_slice hsz (j := 0) (t := 23) (e := 5) rfl rfl Try.underlying23
      rw [bytesByte] at this
      simp only [reachBytes] at this
      omega
  have lt0 : ∀ x ∈ p0, x.block < W.heap.size := by obtain ⟨m, hm⟩ := h0; exact DataW.trod_lt m _ _ _ hm
  obtain ⟨l1, e1, rfl⟩ := open_arr Try.underlying22 Try.underlying5 cellsByte cells32T (hval 1 22 v1 rfl rfl) h1
  have lt1 : ∀ x ∈ p1, x.block < W.heap.size := by obtain ⟨m, hm⟩ := h1; exact DataW.trod_lt m _ _ _ hm
  clear hA0 hval0
  refine (walk W a0 len0 cap0 l0 s0 e0 k0 l1 e1).mono fun e W' ⟨he, bel⟩ => ?_
  subst he
  exact ⟨_, rfl, _, _, _, [], _, [], hW', trodAll_mk1 (shut_bool Try.underlying4 _), (trodAll_cons_mk (Below.trod laidOut (by kernel_rfl) (of_decide_eq_true (by kernel_rfl)) h0 bel lt0) (trodAll_cons_mk (Below.trod laidOut (by kernel_rfl) (of_decide_eq_true (by kernel_rfl)) h1 bel lt1) trodAll_mk0)), rfl, bel.frame _, fun h => by cases h⟩
theorem over : Rows.fnTagRow.holds Try.pinned (OpenSpec.ofChange Rows.fnTagSpec) :=
  OpenClaim.holds_of_wide 6 Try.f6 rfl rfl rfl rfl rfl rfl rfl ⟨rfl, rfl, rfl, rfl, rfl⟩ rfl rfl rfl rfl rfl (by kernel_rfl) Try.func6 (by kernel_rfl)
    (of_decide_eq_true (by kernel_rfl)) (by unfold Func.isWrapper; first | (rw [if_pos (by decide +kernel)]; kernel_rfl) | (rw [if_neg (by decide +kernel)]; exact ⟨rfl, rfl⟩))
    (fun os started H enc _ => lifted os started H enc)
theorem proved : Rows.FnTagSaid := over
#print axioms proved
end Go.Proofs.Ytdkhpehniciijaa.fnTag
