/-
  laws.FnBit returns true for every input: an authenticator of which one bit is turned is refused, both ways. No condition.
-/
import Derived.Test.YtlafnkcmdnfcpaaFnBit
import Derived.Test.YtlafnkcmdnfcpaaArgNum
namespace Go.Proofs.Ytlafnkcmdnfcpaa.fnBit
open Go Go.RowKit Go.ChangeShapes Go.WideShapes Go.ChangeAt
set_option linter.unusedVariables false
theorem cells32T : Try.prog.cellsOf 22 = 32 := by kernel_rfl
theorem walk (w : World) (l0 : List UInt8) (e0 : l0.length = 32) (a1 : Option Addr) (len1 cap1 : Nat) (l1 : List UInt8) (s1 : SlB w (.slice a1 len1 cap1) l1) (e1 : l1.length = len1) (k1 : len1 ≤ 140737488351232) (x2 : UInt8) :
    Calls Try.prog 6 #[.agg (cells8 l0), .slice a1 len1 cap1, .int .u8 (u8 x2)] w fun e w' => e = .returned (.bool true) ∧ Below w.heap.size w w' :=
  ((fnBit_c l0 l1 x2 _ w e0 s1 (by rw [e1]; exact k1))).mono fun e w' h => ⟨h.1, h.2.below (fun _ _ h => h.elim) (Nat.le_refl _)⟩
set_option maxRecDepth 100000 in
theorem lifted (os : Os) (started : os.Started) (H : Type) (enc : TypeId × Value → H) :
    ReturnsInHanded {} Try.checked os 6 .any (Rows.fnBitSpec.pre6 enc Try.prog Try.f6 Rows.fnBitRow.domain false) (Rows.fnBitSpec.post enc Try.prog Try.f6 false true false false) := by
  refine returnsInHanded_of_change_sized (C := Try.checked) own started (by kernel_rfl) Try.func6
    (ChangeSpec.witness6 (enc := enc) (C := Try.checked) false ⟨#[], #[.agg (Array.replicate 32 (.int .u8 0)), .slice none 0 0, .int .u8 0], []⟩ 8 (by kernel_rfl) (by kernel_rfl) (by kernel_rfl) (by kernel_rfl)) ?_
  intro W base args ds gs before hval0 hW hcnd hsz0 _
  have hval : ∀ (j : Nat) t v, Try.f6.params[j]? = some t → args[j]? = some v → Value.okWide Try.prog W .any base t v := hval0
  have hW' := hW
  obtain ⟨p, q, hA0, hV, rfl, hfz, hnd⟩ := hW
  have hA : DataW.TrodAll enc Try.prog W 0 (fun _ => true) true Try.f6.params.toList args.toList ds p := hA0
  have hsz : (DataW.weightsEach Try.prog (Try.f6.params.toList ++ Rows.fnBitSpec.plain.varTypes Try.prog) (ds ++ gs)).all (· ≤ reachBytes) = true := hsz0
  rw [Try.params6] at hA hval hsz
  obtain ⟨v0, vs0, d0, ds0, p0, q0, hargs, rfl, rfl, h0, r0⟩ := trodAll_cons hA
  obtain ⟨v1, vs1, d1, ds1, p1, q1, rfl, rfl, rfl, h1, r1⟩ := trodAll_cons r0
  obtain ⟨v2, vs2, d2, ds2, p2, q2, rfl, rfl, rfl, h2, r2⟩ := trodAll_cons r1
  obtain ⟨rfl, rfl, rfl⟩ := trodAll_nil r2
  obtain rfl : args = #[v0, v1, v2] := by cases args; simp_all
  obtain ⟨rfl, rfl⟩ := trodVars_none hV
  obtain ⟨l0, e0, rfl⟩ := open_arr Try.underlying22 Try.underlying5 cellsByte cells32T (hval 0 22 v0 rfl rfl) h0
  have lt0 : ∀ x ∈ p0, x.block < W.heap.size := by obtain ⟨m, hm⟩ := h0; exact DataW.trod_lt m _ _ _ hm
  obtain ⟨a1, len1, cap1, rfl⟩ := okWide_slice Try.underlying24 (hval 1 24 v1 rfl rfl)
  obtain ⟨l1, s1, e1, b1⟩ := open_bytes h1
  have k1 : len1 ≤ 140737488351232 := by
    rcases b1 with ⟨h, _⟩ | ⟨elems, spare, rfl, hc, hl⟩
    · omega
    · have := sized_slice hsz (j := 1) (t := 24) (e := 5) rfl rfl Try.underlying24
      rw [bytesByte] at this
      simp only [reachBytes] at this
      omega
  have lt1 : ∀ x ∈ p1, x.block < W.heap.size := by obtain ⟨m, hm⟩ := h1; exact DataW.trod_lt m _ _ _ hm
  obtain ⟨x2, rfl⟩ := open_u8 Try.underlying5 h2 (hval 2 5 v2 rfl rfl)
  have lt2 : ∀ x ∈ p2, x.block < W.heap.size := by obtain ⟨m, hm⟩ := h2; exact DataW.trod_lt m _ _ _ hm
  clear hA0 hval0
  refine (walk W l0 e0 a1 len1 cap1 l1 s1 e1 k1 x2).mono fun e W' ⟨he, bel⟩ => ?_
  subst he
  exact ⟨_, rfl, _, _, _, [], _, [], hW', trodAll_mk1 (shut_bool Try.underlying4 _), (trodAll_cons_mk (Below.trod laidOut (by kernel_rfl) (of_decide_eq_true (by kernel_rfl)) h0 bel lt0) (trodAll_cons_mk (Below.trod laidOut (by kernel_rfl) (of_decide_eq_true (by kernel_rfl)) h1 bel lt1) (trodAll_cons_mk (Below.trod laidOut (by kernel_rfl) (of_decide_eq_true (by kernel_rfl)) h2 bel lt2) trodAll_mk0))), rfl, bel.frame _, fun h => by cases h⟩
theorem over : Rows.fnBitRow.holds Try.pinned (OpenSpec.ofChange Rows.fnBitSpec) :=
  OpenClaim.holds_of_wide 6 Try.f6 rfl rfl rfl rfl rfl rfl rfl ⟨rfl, rfl, rfl, rfl, rfl⟩ rfl rfl rfl rfl rfl (by kernel_rfl) Try.func6 (by kernel_rfl)
    (of_decide_eq_true (by kernel_rfl)) (by unfold Func.isWrapper; first | (rw [if_pos (by decide +kernel)]; kernel_rfl) | (rw [if_neg (by decide +kernel)]; exact ⟨rfl, rfl⟩))
    (fun os started H enc _ => lifted os started H enc)
theorem proved : Rows.FnBitSaid := over
#print axioms proved
end Go.Proofs.Ytlafnkcmdnfcpaa.fnBit
