/-
  laws.FnDerive returns true for every input: the derived key of HChaCha20 is that of the reference, and other lengths are refused. No condition.
-/
import Derived.Test.YtaapglpnofmmlaaFnDerive
import Derived.Test.YtaapglpnofmmlaaArgs
namespace Go.Proofs.Ytaapglpnofmmlaa.fnDerive
open Go Go.RowKit Go.ChangeShapes Go.WideShapes Go.ChangeAt
set_option linter.unusedVariables false

theorem walk (a0 a1 : Option Addr) (len0 cap0 len1 cap1 : Nat) (l0 l1 : List UInt8) (w : World) (h0 : SlB w (.slice a0 len0 cap0) l0) (e0 : l0.length = len0) (h1 : SlB w (.slice a1 len1 cap1) l1) (e1 : l1.length = len1)
    (b0 : len0 ≤ 140737488351232) (b1 : len1 ≤ 140737488351232) :
    Calls Try.prog 3 #[.slice a0 len0 cap0, .slice a1 len1 cap1] w fun e w' => e = .returned (.bool true) ∧ Below w.heap.size w w' := by
  have key : Calls Try.prog 3 #[.slice a0 len0 cap0, .slice a1 len1 cap1] w (RetTrue w) := by
    subst e0 e1
    by_cases hb : ¬ l0.length = 32 ∨ ¬ l1.length = 16
    · exact fnDerive_bad a0 a1 cap0 cap1 l0 l1 w h0 h1 b0 b1 hb
    · have hk : l0.length = 32 := by omega
      have hn : l1.length = 16 := by omega
      obtain ⟨g0, o0, c0, v0, _, _, _, q0⟩ := h0.form (by omega)
      obtain ⟨g1, o1, c1, v1, _, _, _, q1⟩ := h1.form (by omega)
      have h0' := h0
      have h1' := h1
      rw [hk] at v0 h0' ⊢
      rw [hn] at v1 h1' ⊢
      rw [v0] at h0' ⊢
      rw [v1] at h1' ⊢
      exact fnDerive_good g0 o0 c0 g1 o1 c1 l0 l1 w hk hn q0 q1 h0' h1'
  exact key.mono fun e w' h => ⟨h.1, h.2.below (fun _ _ h => h.elim) (Nat.le_refl _)⟩

set_option maxRecDepth 100000 in
theorem lifted (os : Os) (started : os.Started) (H : Type) (enc : TypeId × Value → H) :
    ReturnsInHanded {} Try.checked os 3 .any (Rows.fnDeriveSpec.pre6 enc Try.prog Try.f3 Rows.fnDeriveRow.domain false) (Rows.fnDeriveSpec.post enc Try.prog Try.f3 false true false false) := by
  refine returnsInHanded_of_change_sized (C := Try.checked) own started (by kernel_rfl) Try.func3
    (ChangeSpec.witness6 (enc := enc) (C := Try.checked) false ⟨#[], #[.slice none 0 0, .slice none 0 0], []⟩ 8 (by kernel_rfl) (by kernel_rfl) (by kernel_rfl) (by kernel_rfl)) ?_
  intro W base args ds gs before hval0 hW hcnd hsz0 _
  have hval : ∀ (j : Nat) t v, Try.f3.params[j]? = some t → args[j]? = some v → Value.okWide Try.prog W .any base t v := hval0
  have hW' := hW
  obtain ⟨p, q, hA0, hV, rfl, hfz, hnd⟩ := hW
  have hA : DataW.TrodAll enc Try.prog W 0 (fun _ => true) true Try.f3.params.toList args.toList ds p := hA0
  have hsz : (DataW.weightsEach Try.prog (Try.f3.params.toList ++ Rows.fnDeriveSpec.plain.varTypes Try.prog) (ds ++ gs)).all (· ≤ reachBytes) = true := hsz0
  rw [Try.params3] at hA hval hsz
  obtain ⟨v0, vs0, d0, ds0, p0, q0, hargs, rfl, rfl, h0, r0⟩ := trodAll_cons hA
  obtain ⟨v1, vs1, d1, ds1, p1, q1, rfl, rfl, rfl, h1, r1⟩ := trodAll_cons r0
  obtain ⟨rfl, rfl, rfl⟩ := trodAll_nil r1
  obtain rfl : args = #[v0, v1] := by cases args; simp_all
  obtain ⟨rfl, rfl⟩ := trodVars_none hV
  obtain ⟨a0, len0, cap0, rfl⟩ := okWide_slice Try.underlying22 (hval 0 22 v0 rfl rfl)
  obtain ⟨a1, len1, cap1, rfl⟩ := okWide_slice Try.underlying22 (hval 1 22 v1 rfl rfl)
  have lt0 : ∀ x ∈ p0, x.block < W.heap.size := by obtain ⟨m, hm⟩ := h0; exact DataW.trod_lt m _ _ _ hm
  have lt1 : ∀ x ∈ p1, x.block < W.heap.size := by obtain ⟨m, hm⟩ := h1; exact DataW.trod_lt m _ _ _ hm
  obtain ⟨l0, s0, e0, b0⟩ := open_bytes h0
  obtain ⟨l1, s1, e1, b1⟩ := open_bytes h1
  have k0 : len0 ≤ 140737488351232 := by
    rcases b0 with ⟨h, _⟩ | ⟨elems, spare, rfl, hc, hl⟩
    · omega
    · have := sized_slice hsz (j := 0) (t := 22) (e := 5) rfl rfl Try.underlying22
      rw [bytesByte] at this
      simp only [reachBytes] at this
      omega
  have k1 : len1 ≤ 140737488351232 := by
    rcases b1 with ⟨h, _⟩ | ⟨elems, spare, rfl, hc, hl⟩
    · omega
    · have := sized_slice hsz (j := 1) (t := 22) (e := 5) rfl rfl Try.underlying22
      rw [bytesByte] at this
      simp only [reachBytes] at this
      omega
  clear hA0 hval0
  refine (walk a0 a1 len0 cap0 len1 cap1 l0 l1 W s0 e0 s1 e1 k0 k1).mono fun e W' ⟨he, bel⟩ => ?_
  subst he
  exact ⟨_, rfl, _, _, _, [], _, [], hW', trodAll_mk1 (shut_bool Try.underlying4 _), (trodAll_cons_mk (Below.trod laidOut (by kernel_rfl) (of_decide_eq_true (by kernel_rfl)) h0 bel lt0) (trodAll_cons_mk (Below.trod laidOut (by kernel_rfl) (of_decide_eq_true (by kernel_rfl)) h1 bel lt1) trodAll_mk0)), rfl, bel.frame _, fun h => by cases h⟩

theorem over : Rows.fnDeriveRow.holds Try.pinned (OpenSpec.ofChange Rows.fnDeriveSpec) :=
  OpenClaim.holds_of_wide 3 Try.f3 rfl rfl rfl rfl rfl rfl rfl ⟨rfl, rfl, rfl, rfl, rfl⟩ rfl rfl rfl rfl rfl (by kernel_rfl) Try.func3 (by kernel_rfl)
    (of_decide_eq_true (by kernel_rfl)) (by unfold Func.isWrapper; first | (rw [if_pos (by decide +kernel)]; kernel_rfl) | (rw [if_neg (by decide +kernel)]; exact ⟨rfl, rfl⟩))
    (fun os started H enc _ => lifted os started H enc)

theorem proved : Rows.FnDeriveSaid := over
#print axioms proved
end Go.Proofs.Ytaapglpnofmmlaa.fnDerive
