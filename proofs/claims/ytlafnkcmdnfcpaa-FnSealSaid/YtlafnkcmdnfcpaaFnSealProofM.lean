/-
  laws.FnSeal returns true for every input. No condition.
-/
import Derived.Test.YtlafnkcmdnfcpaaFnSealA
import Derived.Test.YtlafnkcmdnfcpaaFnSealB
namespace Go.Proofs.Ytlafnkcmdnfcpaa.fnSeal
open Go Go.RowKit Go.ChangeShapes Go.WideShapes Go.ChangeAt
set_option linter.unusedVariables false
theorem cells12T : Try.prog.cellsOf 23 = 12 := by kernel_rfl
theorem cells32T : Try.prog.cellsOf 22 = 32 := by kernel_rfl
theorem walk (w : World) (l0 : List UInt8) (e0 : l0.length = 32) (l1 : List UInt8) (e1 : l1.length = 12) (a2 : Option Addr) (len2 cap2 : Nat) (l2 : List UInt8) (s2 : SlB w (.slice a2 len2 cap2) l2) (e2 : l2.length = len2) (k2 : len2 ≤ 140737488351232) (a3 : Option Addr) (len3 cap3 : Nat) (l3 : List UInt8) (s3 : SlB w (.slice a3 len3 cap3) l3) (e3 : l3.length = len3) (k3 : len3 ≤ 140737488351232) :
    Calls Try.prog 3 #[.agg (cells8 l0), .agg (cells8 l1), .slice a2 len2 cap2, .slice a3 len3 cap3] w fun e w' => e = .returned (.bool true) ∧ Below w.heap.size w w' :=
  (fnSeal_c l0 l1 l2 l3 (.slice a2 len2 cap2) (.slice a3 len3 cap3) w e0 e1 s2 (by omega) s3 (by omega)).mono fun e w' h => ⟨h.1, h.2.below (fun _ _ h => h.elim) (Nat.le_refl _)⟩
set_option maxRecDepth 100000 in
theorem lifted (os : Os) (started : os.Started) (H : Type) (enc : TypeId × Value → H) :
    ReturnsInHanded {} Try.checked os 3 .any (Rows.fnSealSpec.pre6 enc Try.prog Try.f3 Rows.fnSealRow.domain false) (Rows.fnSealSpec.post enc Try.prog Try.f3 false true false false) := by
  refine returnsInHanded_of_change_sized (C := Try.checked) own started (by kernel_rfl) Try.func3
    (ChangeSpec.witness6 (enc := enc) (C := Try.checked) false ⟨#[], #[.agg (Array.replicate 32 (.int .u8 0)), .agg (Array.replicate 12 (.int .u8 0)), .slice none 0 0, .slice none 0 0], []⟩ 8 (by kernel_rfl) (by kernel_rfl) (by kernel_rfl) (by kernel_rfl)) ?_
  intro W base args ds gs before hval0 hW hcnd hsz0 _
  have hval : ∀ (j : Nat) t v, Try.f3.params[j]? = some t → args[j]? = some v → Value.okWide Try.prog W .any base t v := hval0
  have hW' := hW
  obtain ⟨p, q, hA0, hV, rfl, hfz, hnd⟩ := hW
  have hA : DataW.TrodAll enc Try.prog W 0 (fun _ => true) true Try.f3.params.toList args.toList ds p := hA0
  have hsz : (DataW.weightsEach Try.prog (Try.f3.params.toList ++ Rows.fnSealSpec.plain.varTypes Try.prog) (ds ++ gs)).all (· ≤ reachBytes) = true := hsz0
  rw [Try.params3] at hA hval hsz
  obtain ⟨v0, vs0, d0, ds0, p0, q0, hargs, rfl, rfl, h0, r0⟩ := trodAll_cons hA
  obtain ⟨v1, vs1, d1, ds1, p1, q1, rfl, rfl, rfl, h1, r1⟩ := trodAll_cons r0
  obtain ⟨v2, vs2, d2, ds2, p2, q2, rfl, rfl, rfl, h2, r2⟩ := trodAll_cons r1
  obtain ⟨v3, vs3, d3, ds3, p3, q3, rfl, rfl, rfl, h3, r3⟩ := trodAll_cons r2
  obtain ⟨rfl, rfl, rfl⟩ := trodAll_nil r3
  obtain rfl : args = #[v0, v1, v2, v3] := by cases args; simp_all
  obtain ⟨rfl, rfl⟩ := trodVars_none hV
  obtain ⟨l0, e0, rfl⟩ := open_arr Try.underlying22 Try.underlying5 cellsByte cells32T (hval 0 22 v0 rfl rfl) h0
  have lt0 : ∀ x ∈ p0, x.block < W.heap.size := by obtain ⟨m, hm⟩ := h0; exact DataW.trod_lt m _ _ _ hm
  obtain ⟨l1, e1, rfl⟩ := open_arr Try.underlying23 Try.underlying5 cellsByte cells12T (hval 1 23 v1 rfl rfl) h1
  have lt1 : ∀ x ∈ p1, x.block < W.heap.size := by obtain ⟨m, hm⟩ := h1; exact DataW.trod_lt m _ _ _ hm
  obtain ⟨a2, len2, cap2, rfl⟩ := okWide_slice Try.underlying24 (hval 2 24 v2 rfl rfl)
  obtain ⟨l2, s2, e2, b2⟩ := open_bytes h2
  have k2 : len2 ≤ 140737488351232 := by
    rcases b2 with ⟨h, _⟩ | ⟨elems, spare, rfl, hc, hl⟩
    · omega
    · have := sized_slice hsz (j := 2) (t := 24) (e := 5) rfl rfl Try.underlying24
      rw [bytesByte] at this
      simp only [reachBytes] at this
      omega
  have lt2 : ∀ x ∈ p2, x.block < W.heap.size := by obtain ⟨m, hm⟩ := h2; exact DataW.trod_lt m _ _ _ hm
  obtain ⟨a3, len3, cap3, rfl⟩ := okWide_slice Try.underlying24 (hval 3 24 v3 rfl rfl)
  obtain ⟨l3, s3, e3, b3⟩ := open_bytes h3
  have k3 : len3 ≤ 140737488351232 := by
    rcases b3 with ⟨h, _⟩ | ⟨elems, spare, rfl, hc, hl⟩
    · omega
    · have := sized_slice hsz (j := 3) (t := 24) (e := 5) rfl rfl Try.underlying24
      rw [bytesByte] at this
      simp only [reachBytes] at this
      omega
  have lt3 : ∀ x ∈ p3, x.block < W.heap.size := by obtain ⟨m, hm⟩ := h3; exact DataW.trod_lt m _ _ _ hm
  clear hA0 hval0
  refine (walk W l0 e0 l1 e1 a2 len2 cap2 l2 s2 e2 k2 a3 len3 cap3 l3 s3 e3 k3).mono fun e W' ⟨he, bel⟩ => ?_
  subst he
  exact ⟨_, rfl, _, _, _, [], _, [], hW', trodAll_mk1 (shut_bool Try.underlying4 _), (trodAll_cons_mk (Below.trod laidOut (by kernel_rfl) (of_decide_eq_true (by kernel_rfl)) h0 bel lt0) (trodAll_cons_mk (Below.trod laidOut (by kernel_rfl) (of_decide_eq_true (by kernel_rfl)) h1 bel lt1) (trodAll_cons_mk (Below.trod laidOut (by kernel_rfl) (of_decide_eq_true (by kernel_rfl)) h2 bel lt2) (trodAll_cons_mk (Below.trod laidOut (by kernel_rfl) (of_decide_eq_true (by kernel_rfl)) h3 bel lt3) trodAll_mk0)))), rfl, bel.frame _, fun h => by cases h⟩
theorem over : Rows.fnSealRow.holds Try.pinned (OpenSpec.ofChange Rows.fnSealSpec) :=
  OpenClaim.holds_of_wide 3 Try.f3 rfl rfl rfl rfl rfl rfl rfl ⟨rfl, rfl, rfl, rfl, rfl⟩ rfl rfl rfl rfl rfl (by kernel_rfl) Try.func3 (by kernel_rfl)
    (of_decide_eq_true (by kernel_rfl)) (by unfold Func.isWrapper; first | (rw [if_pos (by decide +kernel)]; kernel_rfl) | (rw [if_neg (by decide +kernel)]; exact ⟨rfl, rfl⟩))
    (fun os started H enc _ => lifted os started H enc)
theorem proved : Rows.FnSealSaid := over
#print axioms proved
end Go.Proofs.Ytlafnkcmdnfcpaa.fnSeal
