/-
  laws.FnRun returns true for every input. No condition.
-/
import Derived.Test.YtaapglpnofmmlaaFnRunA
namespace Go.Proofs.Ytaapglpnofmmlaa.fnRun
open Go Go.RowKit Go.ChangeShapes Go.WideShapes Go.ChangeAt
set_option linter.unusedVariables false
theorem walk (w : World) (a0 : Option Addr) (len0 cap0 : Nat) (l0 : List UInt8) (s0 : SlB w (.slice a0 len0 cap0) l0) (e0 : l0.length = len0) (k0 : len0 ≤ 140737488351232) (a1 : Option Addr) (len1 cap1 : Nat) (l1 : List UInt8) (s1 : SlB w (.slice a1 len1 cap1) l1) (e1 : l1.length = len1) (k1 : len1 ≤ 140737488351232) (a2 : Option Addr) (len2 cap2 : Nat) (q2 : List (Value × St)) (s2 : StepsL w (.slice a2 len2 cap2) q2) (m2 : q2.length ≤ 4398046511104) (b2 : ∀ q ∈ q2, q.2.src.length ≤ 140737488351232 ∧ -128 ≤ q.2.room ∧ q.2.room ≤ 127) :
    Calls Try.prog 14 #[.slice a0 len0 cap0, .slice a1 len1 cap1, .slice a2 len2 cap2] w fun e w' => e = .returned (.bool true) ∧ Below w.heap.size w w' :=
  (fnRun_c (.slice a0 len0 cap0) (.slice a1 len1 cap1) (.slice a2 len2 cap2) l0 l1 q2 w s0 s1 (by omega) (by omega) s2 m2 b2).mono fun e w' h => ⟨h.1, h.2.below (fun _ _ h => h.elim) (Nat.le_refl _)⟩
set_option maxRecDepth 100000 in
theorem lifted (os : Os) (started : os.Started) (H : Type) (enc : TypeId × Value → H) :
    ReturnsInHanded {} Try.checked os 14 .any (Rows.fnRunSpec.pre6 enc Try.prog Try.f14 Rows.fnRunRow.domain false) (Rows.fnRunSpec.post enc Try.prog Try.f14 false true false false) := by
  refine returnsInHanded_of_change_sized (C := Try.checked) own started (by kernel_rfl) Try.func14
    (ChangeSpec.witness6 (enc := enc) (C := Try.checked) false ⟨#[], #[.slice none 0 0, .slice none 0 0, .slice none 0 0], []⟩ 8 (by kernel_rfl) (by kernel_rfl) (by kernel_rfl) (by kernel_rfl)) ?_
  intro W base args ds gs before hval0 hW hcnd hsz0 _
  have hval : ∀ (j : Nat) t v, Try.f14.params[j]? = some t → args[j]? = some v → Value.okWide Try.prog W .any base t v := hval0
  have hW' := hW
  obtain ⟨p, q, hA0, hV, rfl, hfz, hnd⟩ := hW
  have hA : DataW.TrodAll enc Try.prog W 0 (fun _ => true) true Try.f14.params.toList args.toList ds p := hA0
  have hsz : (DataW.weightsEach Try.prog (Try.f14.params.toList ++ Rows.fnRunSpec.plain.varTypes Try.prog) (ds ++ gs)).all (· ≤ reachBytes) = true := hsz0
  rw [Try.params14] at hA hval hsz
  obtain ⟨v0, vs0, d0, ds0, p0, q0, hargs, rfl, rfl, h0, r0⟩ := trodAll_cons hA
  obtain ⟨v1, vs1, d1, ds1, p1, q1, rfl, rfl, rfl, h1, r1⟩ := trodAll_cons r0
  obtain ⟨v2, vs2, d2, ds2, p2, q2, rfl, rfl, rfl, h2, r2⟩ := trodAll_cons r1
  obtain ⟨rfl, rfl, rfl⟩ := trodAll_nil r2
  obtain rfl : args = #[v0, v1, v2] := by cases args; simp_all
  obtain ⟨rfl, rfl⟩ := trodVars_none hV
  obtain ⟨a0, len0, cap0, rfl⟩ := okWide_slice Try.underlying22 (hval 0 22 v0 rfl rfl)
  obtain ⟨l0, s0, e0, b0⟩ := open_bytes h0
  have k0 : len0 ≤ 140737488351232 := by
    rcases b0 with ⟨h, _⟩ | ⟨elems, spare, rfl, hc, hl⟩
    · omega
    · have := sized_slice hsz (j := 0) (t := 22) (e := 5) rfl rfl Try.underlying22
      rw [bytesByte] at this
      simp only [reachBytes] at this
      omega
  have lt0 : ∀ x ∈ p0, x.block < W.heap.size := by obtain ⟨m, hm⟩ := h0; exact DataW.trod_lt m _ _ _ hm
  obtain ⟨a1, len1, cap1, rfl⟩ := okWide_slice Try.underlying22 (hval 1 22 v1 rfl rfl)
  obtain ⟨l1, s1, e1, b1⟩ := open_bytes h1
  have k1 : len1 ≤ 140737488351232 := by
    rcases b1 with ⟨h, _⟩ | ⟨elems, spare, rfl, hc, hl⟩
    · omega
    · have := sized_slice hsz (j := 1) (t := 22) (e := 5) rfl rfl Try.underlying22
      rw [bytesByte] at this
      simp only [reachBytes] at this
      omega
  have lt1 : ∀ x ∈ p1, x.block < W.heap.size := by obtain ⟨m, hm⟩ := h1; exact DataW.trod_lt m _ _ _ hm
  obtain ⟨a2, len2, cap2, rfl⟩ := okWide_slice Try.underlying45 (hval 2 45 v2 rfl rfl)
  obtain ⟨c2, n2, s2, m2, b2⟩ := open_steps (j := 2) h2 hsz rfl rfl
  have lt2 : ∀ x ∈ p2, x.block < W.heap.size := by obtain ⟨m, hm⟩ := h2; exact DataW.trod_lt m _ _ _ hm
  clear hA0 hval0
  refine (walk W a0 len0 cap0 l0 s0 e0 k0 a1 len1 cap1 l1 s1 e1 k1 a2 len2 cap2 c2 s2 m2 b2).mono fun e W' ⟨he, bel⟩ => ?_
  subst he
  exact ⟨_, rfl, _, _, _, [], _, [], hW', trodAll_mk1 (shut_bool Try.underlying4 _), (trodAll_cons_mk (Below.trod laidOut (by kernel_rfl) (of_decide_eq_true (by kernel_rfl)) h0 bel lt0) (trodAll_cons_mk (Below.trod laidOut (by kernel_rfl) (of_decide_eq_true (by kernel_rfl)) h1 bel lt1) (trodAll_cons_mk (Below.trod laidOut (by kernel_rfl) (of_decide_eq_true (by kernel_rfl)) h2 bel lt2) trodAll_mk0))), rfl, bel.frame _, fun h => by cases h⟩
theorem over : Rows.fnRunRow.holds Try.pinned (OpenSpec.ofChange Rows.fnRunSpec) :=
  OpenClaim.holds_of_wide 14 Try.f14 rfl rfl rfl rfl rfl rfl rfl ⟨rfl, rfl, rfl, rfl, rfl⟩ rfl rfl rfl rfl rfl (by kernel_rfl) Try.func14 (by kernel_rfl)
    (of_decide_eq_true (by kernel_rfl)) (by unfold Func.isWrapper; first | (rw [if_pos (by decide +kernel)]; kernel_rfl) | (rw [if_neg (by decide +kernel)]; exact ⟨rfl, rfl⟩))
    (fun os started H enc _ => lifted os started H enc)
theorem proved : Rows.FnRunSaid := over
#print axioms proved
end Go.Proofs.Ytaapglpnofmmlaa.fnRun
