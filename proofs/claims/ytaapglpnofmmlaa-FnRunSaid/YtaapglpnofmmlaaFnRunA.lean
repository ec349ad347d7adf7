/-
  What the proof of laws.FnRun rests on (many texts in one): StreamC, SpecF, StepO, RunOf, Taken, FnRun, ArgAll, ArgSteps.
-/
import Derived.Test.YtaapglpnofmmlaaStream2
import Derived.Test.YtaapglpnofmmlaaMakeN
import Derived.Test.YtaapglpnofmmlaaLawR
import Derived.Test.YtaapglpnofmmlaaSpecX
import Derived.Test.YtaapglpnofmmlaaAppS
import Derived.Test.YtaapglpnofmmlaaDo
import Derived.Test.YtaapglpnofmmlaaRun
import Derived.Test.YtaapglpnofmmlaaStepM
import Derived.Test.YtaapglpnofmmlaaStr
import Derived.BigQuiet
import Derived.ProofKit
import Derived.OpenShut
import Derived.ChangeOld
import Derived.Below
import Derived.SizedLaws
import Derived.Deep.Slices
namespace Go.Proofs.Ytaapglpnofmmlaa
section
open Go Go.RowKit
attribute [local irreducible] Cha.iter Cha.rounds Cha.dbl Cha.qr ckOf run doA doN CK.ks blkB
theorem stream_c (bk ok ck : Nat) (vn : Value) (f n : Nat) (A : Int) (hA : A = (f : Int)) (key nonce : List UInt8) (w : World) (hk : key.length = 32) (hn : nonce.length = 12 ∨ nonce.length = 24) (h1 : BytesAt w bk ok key) (h2 : SlB w vn nonce) (hf : f + n ≤ endK) :
    Calls Try.prog 25 #[.slice (some ⟨bk, ok, none⟩) 32 ck, vn, .int .i64 A, .int .i64 (n : Int)] w (RetB 5 w (ksL (ckOf key nonce) f n)) := by
  subst hA
  rcases hn with hn | hn
  · obtain ⟨pn, cn, rfl⟩ := h2.slice
    rw [hn] at h2 ⊢
    exact stream_12 bk ok ck pn cn f n key nonce w hk hn h1 h2 hf
  · obtain ⟨b, o, c, rfl, -⟩ := h2.form (by omega)
    rw [hn] at h2 ⊢
    exact stream_24 bk ok ck b o c f n key nonce w hk hn h1 h2 hf
theorem BytesAt.of_block {w : World} {b : Nat} {T : TypeId} {l : List UInt8} (h : w.heap[b]? = some (.cells (cells8 l) T (0, 0))) : BytesAt w b 0 l := fun i hi => by
  rw [cell_block h, Nat.zero_add]; exact cells8_get hi
theorem at_lit (c : UInt32) (A : Int) (hA : A = u32 c) (w : World) : Calls Try.prog 20 #[.int .u32 A] w fun e w' => e = .returned (stV (.slice none 0 0) (atS c)) ∧ Fresh w w' := by
  subst hA
  exact at_c c w
end
section
open Go Go.RowKit
attribute [local irreducible] Cha.iter Cha.rounds Cha.dbl Cha.qr ckOf run doA doN
theorem filledS_c (N : Nat) (w : World) (hN : N ≤ 140737488355328) :
    Calls Try.prog 26 #[.int .i64 (N : Int)] w (RetB 5 w (fillB N)) := by
  go_enter Try.func26, Try.ntmps26
  go_wp2_with fail
  go_loopw [3, 6] (fun v i wr => FilRel w N v i wr) (fun _ i _ => N - (intOf i).toNat)
  case atStart => exact ⟨0, Nat.zero_le _, rfl, World.ownsRow_lit w #[] 0 (Nat.le_refl _) (by decide) rfl, (Keeps.refl _ w).alloc _⟩
  case round =>
    obtain ⟨k, hk, rfl, hown, hf⟩ := hrel
    have HF := Lib.hid hf
    have HO := Lib.hid hown
    have hsz := hf.size
    clear hf hown
    by_cases hlt : k < N
    · have HO1 : Hid (OwnB 5 (wr.alloc (.cells #[.int .u8 165] 5)) w.heap.size u3 (fillB k)) := Lib.hid (OwnB.kept HO.out (((Keeps.refl (fun _ => False) _).alloc _)) (fun _ _ x => x))
      go_wp2_with (at_builtin; refine wpList_appB rfl (.tmp 8) (.tmp 9) rfl w.heap.size _ _ (fillB k) [165] rfl rfl HO1.out (SlB.one _ 165 _) (by rw [fillB_len]; simp; omega) (by simp; omega) ?_; intro v1 w1 hA)
      go_roundw
      case rel =>
        have ho := hA.1
        rw [fillB_snoc] at ho
        exact ⟨k + 1, by omega, by go_num, ho, Fresh.then (HF.out.alloc _) hA.2.1 (by intro q hq; omega)⟩
      case measure => simp [intOf]; omega
    · have hkn : k = N := by omega
      subst hkn
      go_wp2_with fail
      go_ret
      exact ⟨_, rfl, HO.out, HF.out⟩
end
section
open Go Go.RowKit
set_option linter.unusedVariables false
attribute [local irreducible] Cha.iter Cha.rounds Cha.dbl Cha.qr ckOf CK.ks blkB xs ksL
/-- what step answers, and how many are taken then -/
def stO (KK : CK) (a : Nat) (s : St) : Ou := if doT a s then doA KK a s else ⟨[], false⟩
def stN (KK : CK) (a : Nat) (s : St) : Nat := if doT a s then (if (doA KK a s).failed then a else doN a s) else a
def StepR (KK : CK) (a : Nat) (s : St) (w : World) (e : Ending) (w' : World) : Prop :=
  ∃ v, e = .returned (.tuple #[.agg #[v, .bool (stO KK a s).failed], .int .i64 ((stN KK a s : Nat) : Int), .bool (doT a s)]) ∧ OwnB 5 w' w.heap.size v (stO KK a s).bytes ∧ Fresh w w'
theorem StepR.mk {KK : CK} {a : Nat} {s : St} {w w' : World} {v : Value} {o : Ou} {n : Nat} {t : Bool} (ht : doT a s = t) (ho : stO KK a s = o) (hn : stN KK a s = n)
    (h : OwnB 5 w' w.heap.size v o.bytes) (hf : Fresh w w') : StepR KK a s w (.returned (.tuple #[.agg #[v, .bool o.failed], .int .i64 (n : Int), .bool t])) w' := by
  subst ht ho hn
  exact ⟨v, rfl, h, hf⟩
theorem stO_told {KK : CK} {a : Nat} {s : St} (h : doT a s = true) : stO KK a s = doA KK a s := by unfold stO; rw [if_pos h]
theorem stO_not {KK : CK} {a : Nat} {s : St} (h : doT a s = false) : stO KK a s = ⟨[], false⟩ := by unfold stO; rw [if_neg (by rw [h]; decide)]
theorem stN_not {KK : CK} {a : Nat} {s : St} (h : doT a s = false) : stN KK a s = a := by unfold stN; rw [if_neg (by rw [h]; decide)]
theorem stN_failed {KK : CK} {a : Nat} {s : St} (h : doT a s = true) (hf : (doA KK a s).failed = true) : stN KK a s = a := by unfold stN; rw [if_pos h, if_pos hf]
theorem stN_told {KK : CK} {a : Nat} {s : St} (h : doT a s = true) (hf : (doA KK a s).failed = false) : stN KK a s = doN a s := by unfold stN; rw [if_pos h, if_neg (by rw [hf]; decide)]
theorem step_results {w : World} {p : Nat} {a0 a1 x9 x10 : Value} {tmps : Array Value} (ht : tmps[8]? = some (.pointer (some ⟨p, 0, none⟩))) (h9 : tmps[9]? = some x9) (h10 : tmps[10]? = some x10) (hb : w.heap[p]? = some (.cells #[a0, a1] TOu (0, 0))) :
    (results Try.f37 tmps).run Try.prog w = .ok (.tuple #[.agg #[a0, a1], x9, x10]) w := by
  obtain ⟨⟨c0, c1⟩, -⟩ := two_cells hb
  simp [results, Try.results37, go_sem, ht, h9, h10, c0, c1]
theorem xs_ksL (KK : CK) (a : Nat) (s : List UInt8) : xs (fun i => (ksL KK a s.length).getD i 0) s = xs (fun i => KK.ks (a + i)) s := by
  apply xs_congr
  intro i hi
  unfold ksL
  simp [List.getD, hi]
section
variable (KK : CK) (bk ok ck : Nat) (vn vs : Value) (key nonce s : List UInt8) (a : Nat) (ct : UInt32) (w : World)
set_option maxRecDepth 100000 in
set_option maxHeartbeats 2000000 in
theorem step_short (room : Int) (hs : SlB w vs s) (hl : s.length ≤ 140737488351232) (ha : a ≤ endK) (hr : -128 ≤ room) (hr2 : room < 0) (h0 : 0 < s.length) :
    Calls Try.prog 37 #[.slice (some ⟨bk, ok, none⟩) 32 ck, vn, .int .i64 (a : Int), .agg #[.int .i64 0, .int .u32 (u32 ct), vs, .int .i8 room]] w (StepR KK a ⟨0, ct, s, room⟩ w) := by
  obtain ⟨ps, cs, rfl⟩ := hs.slice
  obtain ⟨n, hn⟩ : ∃ n, n = s.length := ⟨_, rfl⟩
  have HN := Lib.hid hn
  rw [← hn] at hs hl ⊢
  have HS := Lib.hid hs
  clear hs
  have hend : endK = 274877906944 := rfl
  have e1 : IntKind.i64.wrap ((274877906944 : Int) - (a : Int)) = 274877906944 - (a : Int) := by rw [IntKind.wrap_i64]; omega
  rw [← hn] at h0
  have w1 : IntKind.i64.wrap room = room := by rw [IntKind.wrap_i64]; omega
  have z0 : (0 : Int) < (n : Int) := by omega
  clear hn
  go_enter Try.func37, Try.ntmps37
  refine wp_seq_hold (fun K0 HK0 => ?_)
  go_wp2_with fail
  have HF := Lib.hid (do_news w (.cells #[.int .i64 0, .int .u32 (u32 ct), .slice ps n cs, .int .i8 room] TSt) (.cells #[Value.slice none 0 0, .bool false] TOu))
  have HB7 := Lib.hid (heap_alloc2_old w (.cells #[.int .i64 0, .int .u32 (u32 ct), .slice ps n cs, .int .i8 room] TSt) (.cells #[Value.slice none 0 0, .bool false] TOu))
  have HB8 := Lib.hid (do_block w (.cells #[.int .i64 0, .int .u32 (u32 ct), .slice ps n cs, .int .i8 room] TSt) TOu #[Value.slice none 0 0, .bool false])
  generalize ((w.alloc (.cells #[Value.int .i64 0, .int .u32 (u32 ct), .slice ps n cs, .int .i8 room] TSt)).alloc (.cells #[Value.slice none 0 0, .bool false] TOu)) = w2 at HF HB7 HB8 ⊢
  refine HK0.out _ _ ?_
  clear HK0
  have d0 : w2.cell? ⟨w.heap.size, 0, none⟩ = some (.int .i64 0) := by rw [cell_block HB7.out]; rfl
  have d1 : w2.cell? ⟨w.heap.size, 1, none⟩ = some (.int .u32 (u32 ct)) := by rw [cell_block HB7.out]; rfl
  have d2 : w2.cell? ⟨w.heap.size, 2, none⟩ = some (.slice ps n cs) := by rw [cell_block HB7.out]; rfl
  have d3 : w2.cell? ⟨w.heap.size, 3, none⟩ = some (.int .i8 room) := by rw [cell_block HB7.out]; rfl
  obtain ⟨⟨c0, c1⟩, f0, f1⟩ := two_cells HB8.out
  go_wp2_with fail
  refine bodyPost_ret (step_results rfl rfl rfl (two_set HB8.out _ _)) rfl ?_
  have ht : doT a ⟨0, ct, s, room⟩ = true := by unfold doT; rw [if_pos rfl]; exact decide_eq_true (Or.inl ⟨by rw [← HN.out]; exact h0, hr2⟩)
  exact StepR.mk (v := .slice none 0 0) (o := ⟨[], true⟩) (n := a) ht (by rw [stO_told ht, doA_short _ _ _ _ _ (by rw [← HN.out]; exact h0) hr2]) (stN_failed ht (by rw [doA_short _ _ _ _ _ (by rw [← HN.out]; exact h0) hr2])) (World.ownsRow_nil _ _ _ _) (Fresh.then HF.out (two_keeps (Keeps.refl (fun q => q = w.heap.size + 1) w2) _ _) (fun q hq e => by omega))
set_option maxRecDepth 100000 in
set_option maxHeartbeats 2000000 in
theorem step_over (room : Int) (hs : SlB w vs s) (hl : s.length ≤ 140737488351232) (ha : a ≤ endK) (hr : 0 ≤ room) (hr2 : room ≤ 127) (h0 : endK < a + s.length) :
    Calls Try.prog 37 #[.slice (some ⟨bk, ok, none⟩) 32 ck, vn, .int .i64 (a : Int), .agg #[.int .i64 0, .int .u32 (u32 ct), vs, .int .i8 room]] w (StepR KK a ⟨0, ct, s, room⟩ w) := by
  obtain ⟨ps, cs, rfl⟩ := hs.slice
  obtain ⟨n, hn⟩ : ∃ n, n = s.length := ⟨_, rfl⟩
  have HN := Lib.hid hn
  rw [← hn] at hs hl ⊢
  have HS := Lib.hid hs
  clear hs
  have hend : endK = 274877906944 := rfl
  have e1 : IntKind.i64.wrap ((274877906944 : Int) - (a : Int)) = 274877906944 - (a : Int) := by rw [IntKind.wrap_i64]; omega
  rw [← hn] at h0
  have w1 : IntKind.i64.wrap room = room := by rw [IntKind.wrap_i64]; omega
  have z0 : ¬ room < 0 := by omega
  have z1 : (274877906944 : Int) - (a : Int) < (n : Int) := by omega
  clear hn
  go_enter Try.func37, Try.ntmps37
  refine wp_seq_hold (fun K0 HK0 => ?_)
  go_wp2_with fail
  have HF := Lib.hid (do_news w (.cells #[.int .i64 0, .int .u32 (u32 ct), .slice ps n cs, .int .i8 room] TSt) (.cells #[Value.slice none 0 0, .bool false] TOu))
  have HB7 := Lib.hid (heap_alloc2_old w (.cells #[.int .i64 0, .int .u32 (u32 ct), .slice ps n cs, .int .i8 room] TSt) (.cells #[Value.slice none 0 0, .bool false] TOu))
  have HB8 := Lib.hid (do_block w (.cells #[.int .i64 0, .int .u32 (u32 ct), .slice ps n cs, .int .i8 room] TSt) TOu #[Value.slice none 0 0, .bool false])
  generalize ((w.alloc (.cells #[Value.int .i64 0, .int .u32 (u32 ct), .slice ps n cs, .int .i8 room] TSt)).alloc (.cells #[Value.slice none 0 0, .bool false] TOu)) = w2 at HF HB7 HB8 ⊢
  refine HK0.out _ _ ?_
  clear HK0
  have d0 : w2.cell? ⟨w.heap.size, 0, none⟩ = some (.int .i64 0) := by rw [cell_block HB7.out]; rfl
  have d1 : w2.cell? ⟨w.heap.size, 1, none⟩ = some (.int .u32 (u32 ct)) := by rw [cell_block HB7.out]; rfl
  have d2 : w2.cell? ⟨w.heap.size, 2, none⟩ = some (.slice ps n cs) := by rw [cell_block HB7.out]; rfl
  have d3 : w2.cell? ⟨w.heap.size, 3, none⟩ = some (.int .i8 room) := by rw [cell_block HB7.out]; rfl
  obtain ⟨⟨c0, c1⟩, f0, f1⟩ := two_cells HB8.out
  go_wp2_with fail
  refine bodyPost_ret (step_results rfl rfl rfl (two_set HB8.out _ _)) rfl ?_
  have ht : doT a ⟨0, ct, s, room⟩ = false := by unfold doT; rw [if_pos rfl]; exact decide_eq_false (show ¬ ((0 < s.length ∧ room < 0) ∨ ¬ endK < a + s.length) by rw [← HN.out]; omega)
  exact StepR.mk (v := .slice none 0 0) (o := ⟨[], false⟩) (n := a) ht (stO_not ht) (stN_not ht) (World.ownsRow_nil _ _ _ _) (Fresh.then HF.out (two_keeps (Keeps.refl (fun q => q = w.heap.size + 1) w2) _ _) (fun q hq e => by omega))
set_option maxRecDepth 100000 in
set_option maxHeartbeats 2000000 in
theorem step_overP (room : Int) (hs : SlB w vs s) (hl : s.length ≤ 140737488351232) (ha : a ≤ endK) (h0 : endK < a + s.length) :
    Calls Try.prog 37 #[.slice (some ⟨bk, ok, none⟩) 32 ck, vn, .int .i64 (a : Int), .agg #[.int .i64 1, .int .u32 (u32 ct), vs, .int .i8 room]] w (StepR KK a ⟨1, ct, s, room⟩ w) := by
  obtain ⟨ps, cs, rfl⟩ := hs.slice
  obtain ⟨n, hn⟩ : ∃ n, n = s.length := ⟨_, rfl⟩
  have HN := Lib.hid hn
  rw [← hn] at hs hl ⊢
  have HS := Lib.hid hs
  clear hs
  have hend : endK = 274877906944 := rfl
  have e1 : IntKind.i64.wrap ((274877906944 : Int) - (a : Int)) = 274877906944 - (a : Int) := by rw [IntKind.wrap_i64]; omega
  rw [← hn] at h0
  have z0 : ¬ (1 : Int) = 0 := by decide
  have z1 : (274877906944 : Int) - (a : Int) < (n : Int) := by omega
  clear hn
  go_enter Try.func37, Try.ntmps37
  refine wp_seq_hold (fun K0 HK0 => ?_)
  go_wp2_with fail
  have HF := Lib.hid (do_news w (.cells #[.int .i64 1, .int .u32 (u32 ct), .slice ps n cs, .int .i8 room] TSt) (.cells #[Value.slice none 0 0, .bool false] TOu))
  have HB7 := Lib.hid (heap_alloc2_old w (.cells #[.int .i64 1, .int .u32 (u32 ct), .slice ps n cs, .int .i8 room] TSt) (.cells #[Value.slice none 0 0, .bool false] TOu))
  have HB8 := Lib.hid (do_block w (.cells #[.int .i64 1, .int .u32 (u32 ct), .slice ps n cs, .int .i8 room] TSt) TOu #[Value.slice none 0 0, .bool false])
  generalize ((w.alloc (.cells #[Value.int .i64 1, .int .u32 (u32 ct), .slice ps n cs, .int .i8 room] TSt)).alloc (.cells #[Value.slice none 0 0, .bool false] TOu)) = w2 at HF HB7 HB8 ⊢
  refine HK0.out _ _ ?_
  clear HK0
  have d0 : w2.cell? ⟨w.heap.size, 0, none⟩ = some (.int .i64 1) := by rw [cell_block HB7.out]; rfl
  have d1 : w2.cell? ⟨w.heap.size, 1, none⟩ = some (.int .u32 (u32 ct)) := by rw [cell_block HB7.out]; rfl
  have d2 : w2.cell? ⟨w.heap.size, 2, none⟩ = some (.slice ps n cs) := by rw [cell_block HB7.out]; rfl
  have d3 : w2.cell? ⟨w.heap.size, 3, none⟩ = some (.int .i8 room) := by rw [cell_block HB7.out]; rfl
  obtain ⟨⟨c0, c1⟩, f0, f1⟩ := two_cells HB8.out
  go_wp2_with fail
  refine bodyPost_ret (step_results rfl rfl rfl (two_set HB8.out _ _)) rfl ?_
  have ht : doT a ⟨1, ct, s, room⟩ = false := by unfold doT; rw [if_neg (show ¬ (1 : Int) = 0 by decide), if_pos rfl]; exact decide_eq_false (by rw [← HN.out]; omega)
  exact StepR.mk (v := .slice none 0 0) (o := ⟨[], false⟩) (n := a) ht (stO_not ht) (stN_not ht) (World.ownsRow_nil _ _ _ _) (Fresh.then HF.out (two_keeps (Keeps.refl (fun q => q = w.heap.size + 1) w2) _ _) (fun q hq e => by omega))
set_option maxRecDepth 100000 in
set_option maxHeartbeats 2000000 in
theorem step_other (kd room : Int) (hs : SlB w vs s) (hl : s.length ≤ 140737488351232) (ha : a ≤ endK) (h0 : kd ≠ 0) (h1 : kd ≠ 1) (h2 : kd ≠ 2) :
    Calls Try.prog 37 #[.slice (some ⟨bk, ok, none⟩) 32 ck, vn, .int .i64 (a : Int), .agg #[.int .i64 kd, .int .u32 (u32 ct), vs, .int .i8 room]] w (StepR KK a ⟨kd, ct, s, room⟩ w) := by
  obtain ⟨ps, cs, rfl⟩ := hs.slice
  obtain ⟨n, hn⟩ : ∃ n, n = s.length := ⟨_, rfl⟩
  have HN := Lib.hid hn
  rw [← hn] at hs hl ⊢
  have HS := Lib.hid hs
  clear hs
  have hend : endK = 274877906944 := rfl
  have e1 : IntKind.i64.wrap ((274877906944 : Int) - (a : Int)) = 274877906944 - (a : Int) := by rw [IntKind.wrap_i64]; omega
  have z0 : ¬ kd = 0 := h0
  have z1 : ¬ kd = 1 := h1
  have z2 : ¬ kd = 2 := h2
  clear hn
  go_enter Try.func37, Try.ntmps37
  refine wp_seq_hold (fun K0 HK0 => ?_)
  go_wp2_with fail
  have HF := Lib.hid (do_news w (.cells #[.int .i64 kd, .int .u32 (u32 ct), .slice ps n cs, .int .i8 room] TSt) (.cells #[Value.slice none 0 0, .bool false] TOu))
  have HB7 := Lib.hid (heap_alloc2_old w (.cells #[.int .i64 kd, .int .u32 (u32 ct), .slice ps n cs, .int .i8 room] TSt) (.cells #[Value.slice none 0 0, .bool false] TOu))
  have HB8 := Lib.hid (do_block w (.cells #[.int .i64 kd, .int .u32 (u32 ct), .slice ps n cs, .int .i8 room] TSt) TOu #[Value.slice none 0 0, .bool false])
  generalize ((w.alloc (.cells #[Value.int .i64 kd, .int .u32 (u32 ct), .slice ps n cs, .int .i8 room] TSt)).alloc (.cells #[Value.slice none 0 0, .bool false] TOu)) = w2 at HF HB7 HB8 ⊢
  refine HK0.out _ _ ?_
  clear HK0
  have d0 : w2.cell? ⟨w.heap.size, 0, none⟩ = some (.int .i64 kd) := by rw [cell_block HB7.out]; rfl
  have d1 : w2.cell? ⟨w.heap.size, 1, none⟩ = some (.int .u32 (u32 ct)) := by rw [cell_block HB7.out]; rfl
  have d2 : w2.cell? ⟨w.heap.size, 2, none⟩ = some (.slice ps n cs) := by rw [cell_block HB7.out]; rfl
  have d3 : w2.cell? ⟨w.heap.size, 3, none⟩ = some (.int .i8 room) := by rw [cell_block HB7.out]; rfl
  obtain ⟨⟨c0, c1⟩, f0, f1⟩ := two_cells HB8.out
  go_wp2_with fail
  refine bodyPost_ret (step_results rfl rfl rfl (two_set HB8.out _ _)) rfl ?_
  have ht : doT a ⟨kd, ct, s, room⟩ = true := by unfold doT; rw [if_neg h0, if_neg h1, if_neg h2]
  exact StepR.mk (v := .slice none 0 0) (o := ⟨[], false⟩) (n := a) ht (by rw [stO_told ht, doA_other _ _ _ _ _ _ h0 h1 h2]) (by rw [stN_told ht (by rw [doA_other _ _ _ _ _ _ h0 h1 h2]), doN_other _ _ _ _ _ h0 h1 h2]) (World.ownsRow_nil _ _ _ _) (Fresh.then HF.out (two_keeps (Keeps.refl (fun q => q = w.heap.size + 1) w2) _ _) (fun q hq e => by omega))
set_option maxRecDepth 100000 in
set_option maxHeartbeats 2000000 in
theorem step_back (room : Int) (hs : SlB w vs s) (hl : s.length ≤ 140737488351232) (ha : a ≤ endK) (h0 : ct.toNat < a / 64) :
    Calls Try.prog 37 #[.slice (some ⟨bk, ok, none⟩) 32 ck, vn, .int .i64 (a : Int), .agg #[.int .i64 2, .int .u32 (u32 ct), vs, .int .i8 room]] w (StepR KK a ⟨2, ct, s, room⟩ w) := by
  obtain ⟨ps, cs, rfl⟩ := hs.slice
  obtain ⟨n, hn⟩ : ∃ n, n = s.length := ⟨_, rfl⟩
  have HN := Lib.hid hn
  rw [← hn] at hs hl ⊢
  have HS := Lib.hid hs
  clear hs
  have hend : endK = 274877906944 := rfl
  have e1 : IntKind.i64.wrap ((274877906944 : Int) - (a : Int)) = 274877906944 - (a : Int) := by rw [IntKind.wrap_i64]; omega
  have hct := ct.toNat_lt
  obtain ⟨q, hq⟩ : ∃ q, q = a / 64 := ⟨_, rfl⟩
  have p0 : (a : Int).tdiv 64 = (q : Int) := by rw [Int.tdiv_eq_ediv_of_nonneg (by omega)]; omega
  have p1 : IntKind.i64.wrap (q : Int) = (q : Int) := by rw [IntKind.wrap_i64]; omega
  have p2 : IntKind.i64.wrap (u32 ct) = u32 ct := by unfold u32; rw [IntKind.wrap_i64]; omega
  have p3 : IntKind.i64.wrap (64 * u32 ct) = 64 * u32 ct := by unfold u32; rw [IntKind.wrap_i64]; omega
  have z0 : u32 ct < (q : Int) := by unfold u32; omega
  clear hn
  go_enter Try.func37, Try.ntmps37
  refine wp_seq_hold (fun K0 HK0 => ?_)
  go_wp2_with fail
  have HF := Lib.hid (do_news w (.cells #[.int .i64 2, .int .u32 (u32 ct), .slice ps n cs, .int .i8 room] TSt) (.cells #[Value.slice none 0 0, .bool false] TOu))
  have HB7 := Lib.hid (heap_alloc2_old w (.cells #[.int .i64 2, .int .u32 (u32 ct), .slice ps n cs, .int .i8 room] TSt) (.cells #[Value.slice none 0 0, .bool false] TOu))
  have HB8 := Lib.hid (do_block w (.cells #[.int .i64 2, .int .u32 (u32 ct), .slice ps n cs, .int .i8 room] TSt) TOu #[Value.slice none 0 0, .bool false])
  generalize ((w.alloc (.cells #[Value.int .i64 2, .int .u32 (u32 ct), .slice ps n cs, .int .i8 room] TSt)).alloc (.cells #[Value.slice none 0 0, .bool false] TOu)) = w2 at HF HB7 HB8 ⊢
  refine HK0.out _ _ ?_
  clear HK0
  have d0 : w2.cell? ⟨w.heap.size, 0, none⟩ = some (.int .i64 2) := by rw [cell_block HB7.out]; rfl
  have d1 : w2.cell? ⟨w.heap.size, 1, none⟩ = some (.int .u32 (u32 ct)) := by rw [cell_block HB7.out]; rfl
  have d2 : w2.cell? ⟨w.heap.size, 2, none⟩ = some (.slice ps n cs) := by rw [cell_block HB7.out]; rfl
  have d3 : w2.cell? ⟨w.heap.size, 3, none⟩ = some (.int .i8 room) := by rw [cell_block HB7.out]; rfl
  obtain ⟨⟨c0, c1⟩, f0, f1⟩ := two_cells HB8.out
  go_wp2_with fail
  refine bodyPost_ret (step_results rfl rfl rfl (two_set HB8.out _ _)) rfl ?_
  have ht : doT a ⟨2, ct, s, room⟩ = true := by unfold doT; rw [if_neg (show ¬ (2 : Int) = 0 by decide), if_neg (show ¬ (2 : Int) = 1 by decide), if_pos rfl]; exact decide_eq_true (Or.inl h0)
  exact StepR.mk (v := .slice none 0 0) (o := ⟨[], true⟩) (n := a) ht (by rw [stO_told ht, doA_set, decide_eq_true (show 64 * ct.toNat < a by omega)]) (stN_failed ht (by rw [doA_set]; exact decide_eq_true (show 64 * ct.toNat < a by omega))) (World.ownsRow_nil _ _ _ _) (Fresh.then HF.out (two_keeps (Keeps.refl (fun q => q = w.heap.size + 1) w2) _ _) (fun q hq e => by omega))
set_option maxRecDepth 100000 in
set_option maxHeartbeats 2000000 in
theorem step_within (room : Int) (hs : SlB w vs s) (hl : s.length ≤ 140737488351232) (ha : a ≤ endK) (h0 : ¬ ct.toNat < a / 64) (h1 : 64 * ct.toNat < a) :
    Calls Try.prog 37 #[.slice (some ⟨bk, ok, none⟩) 32 ck, vn, .int .i64 (a : Int), .agg #[.int .i64 2, .int .u32 (u32 ct), vs, .int .i8 room]] w (StepR KK a ⟨2, ct, s, room⟩ w) := by
  obtain ⟨ps, cs, rfl⟩ := hs.slice
  obtain ⟨n, hn⟩ : ∃ n, n = s.length := ⟨_, rfl⟩
  have HN := Lib.hid hn
  rw [← hn] at hs hl ⊢
  have HS := Lib.hid hs
  clear hs
  have hend : endK = 274877906944 := rfl
  have e1 : IntKind.i64.wrap ((274877906944 : Int) - (a : Int)) = 274877906944 - (a : Int) := by rw [IntKind.wrap_i64]; omega
  have hct := ct.toNat_lt
  obtain ⟨q, hq⟩ : ∃ q, q = a / 64 := ⟨_, rfl⟩
  have p0 : (a : Int).tdiv 64 = (q : Int) := by rw [Int.tdiv_eq_ediv_of_nonneg (by omega)]; omega
  have p1 : IntKind.i64.wrap (q : Int) = (q : Int) := by rw [IntKind.wrap_i64]; omega
  have p2 : IntKind.i64.wrap (u32 ct) = u32 ct := by unfold u32; rw [IntKind.wrap_i64]; omega
  have p3 : IntKind.i64.wrap (64 * u32 ct) = 64 * u32 ct := by unfold u32; rw [IntKind.wrap_i64]; omega
  have z0 : ¬ u32 ct < (q : Int) := by unfold u32; omega
  have z1 : 64 * u32 ct < (a : Int) := by unfold u32; omega
  clear hn
  go_enter Try.func37, Try.ntmps37
  refine wp_seq_hold (fun K0 HK0 => ?_)
  go_wp2_with fail
  have HF := Lib.hid (do_news w (.cells #[.int .i64 2, .int .u32 (u32 ct), .slice ps n cs, .int .i8 room] TSt) (.cells #[Value.slice none 0 0, .bool false] TOu))
  have HB7 := Lib.hid (heap_alloc2_old w (.cells #[.int .i64 2, .int .u32 (u32 ct), .slice ps n cs, .int .i8 room] TSt) (.cells #[Value.slice none 0 0, .bool false] TOu))
  have HB8 := Lib.hid (do_block w (.cells #[.int .i64 2, .int .u32 (u32 ct), .slice ps n cs, .int .i8 room] TSt) TOu #[Value.slice none 0 0, .bool false])
  generalize ((w.alloc (.cells #[Value.int .i64 2, .int .u32 (u32 ct), .slice ps n cs, .int .i8 room] TSt)).alloc (.cells #[Value.slice none 0 0, .bool false] TOu)) = w2 at HF HB7 HB8 ⊢
  refine HK0.out _ _ ?_
  clear HK0
  have d0 : w2.cell? ⟨w.heap.size, 0, none⟩ = some (.int .i64 2) := by rw [cell_block HB7.out]; rfl
  have d1 : w2.cell? ⟨w.heap.size, 1, none⟩ = some (.int .u32 (u32 ct)) := by rw [cell_block HB7.out]; rfl
  have d2 : w2.cell? ⟨w.heap.size, 2, none⟩ = some (.slice ps n cs) := by rw [cell_block HB7.out]; rfl
  have d3 : w2.cell? ⟨w.heap.size, 3, none⟩ = some (.int .i8 room) := by rw [cell_block HB7.out]; rfl
  obtain ⟨⟨c0, c1⟩, f0, f1⟩ := two_cells HB8.out
  go_wp2_with fail
  refine bodyPost_ret (step_results rfl rfl rfl (two_set HB8.out _ _)) rfl ?_
  have ht : doT a ⟨2, ct, s, room⟩ = false := by unfold doT; rw [if_neg (show ¬ (2 : Int) = 0 by decide), if_neg (show ¬ (2 : Int) = 1 by decide), if_pos rfl]; exact decide_eq_false (fun h => h.elim h0 (fun h => h h1))
  exact StepR.mk (v := .slice none 0 0) (o := ⟨[], false⟩) (n := a) ht (stO_not ht) (stN_not ht) (World.ownsRow_nil _ _ _ _) (Fresh.then HF.out (two_keeps (Keeps.refl (fun q => q = w.heap.size + 1) w2) _ _) (fun q hq e => by omega))
set_option maxRecDepth 100000 in
set_option maxHeartbeats 2000000 in
theorem step_set (room : Int) (hs : SlB w vs s) (hl : s.length ≤ 140737488351232) (ha : a ≤ endK) (h1 : ¬ 64 * ct.toNat < a) :
    Calls Try.prog 37 #[.slice (some ⟨bk, ok, none⟩) 32 ck, vn, .int .i64 (a : Int), .agg #[.int .i64 2, .int .u32 (u32 ct), vs, .int .i8 room]] w (StepR KK a ⟨2, ct, s, room⟩ w) := by
  obtain ⟨ps, cs, rfl⟩ := hs.slice
  obtain ⟨n, hn⟩ : ∃ n, n = s.length := ⟨_, rfl⟩
  have HN := Lib.hid hn
  rw [← hn] at hs hl ⊢
  have HS := Lib.hid hs
  clear hs
  have hend : endK = 274877906944 := rfl
  have e1 : IntKind.i64.wrap ((274877906944 : Int) - (a : Int)) = 274877906944 - (a : Int) := by rw [IntKind.wrap_i64]; omega
  have hct := ct.toNat_lt
  obtain ⟨q, hq⟩ : ∃ q, q = a / 64 := ⟨_, rfl⟩
  have p0 : (a : Int).tdiv 64 = (q : Int) := by rw [Int.tdiv_eq_ediv_of_nonneg (by omega)]; omega
  have p1 : IntKind.i64.wrap (q : Int) = (q : Int) := by rw [IntKind.wrap_i64]; omega
  have p2 : IntKind.i64.wrap (u32 ct) = u32 ct := by unfold u32; rw [IntKind.wrap_i64]; omega
  have p3 : IntKind.i64.wrap (64 * u32 ct) = 64 * u32 ct := by unfold u32; rw [IntKind.wrap_i64]; omega
  obtain ⟨N, hN⟩ : ∃ N, N = 64 * ct.toNat := ⟨_, rfl⟩
  have z0 : ¬ u32 ct < (q : Int) := by unfold u32; omega
  have p4 : 64 * u32 ct = (N : Int) := by unfold u32; omega
  have p5 : IntKind.i64.wrap (N : Int) = (N : Int) := by rw [IntKind.wrap_i64]; omega
  have z1 : ¬ (N : Int) < (a : Int) := by omega
  have HNN := Lib.hid hN
  clear p3 hN
  clear hn
  go_enter Try.func37, Try.ntmps37
  refine wp_seq_hold (fun K0 HK0 => ?_)
  go_wp2_with fail
  have HF := Lib.hid (do_news w (.cells #[.int .i64 2, .int .u32 (u32 ct), .slice ps n cs, .int .i8 room] TSt) (.cells #[Value.slice none 0 0, .bool false] TOu))
  have HB7 := Lib.hid (heap_alloc2_old w (.cells #[.int .i64 2, .int .u32 (u32 ct), .slice ps n cs, .int .i8 room] TSt) (.cells #[Value.slice none 0 0, .bool false] TOu))
  have HB8 := Lib.hid (do_block w (.cells #[.int .i64 2, .int .u32 (u32 ct), .slice ps n cs, .int .i8 room] TSt) TOu #[Value.slice none 0 0, .bool false])
  generalize ((w.alloc (.cells #[Value.int .i64 2, .int .u32 (u32 ct), .slice ps n cs, .int .i8 room] TSt)).alloc (.cells #[Value.slice none 0 0, .bool false] TOu)) = w2 at HF HB7 HB8 ⊢
  refine HK0.out _ _ ?_
  clear HK0
  have d0 : w2.cell? ⟨w.heap.size, 0, none⟩ = some (.int .i64 2) := by rw [cell_block HB7.out]; rfl
  have d1 : w2.cell? ⟨w.heap.size, 1, none⟩ = some (.int .u32 (u32 ct)) := by rw [cell_block HB7.out]; rfl
  have d2 : w2.cell? ⟨w.heap.size, 2, none⟩ = some (.slice ps n cs) := by rw [cell_block HB7.out]; rfl
  have d3 : w2.cell? ⟨w.heap.size, 3, none⟩ = some (.int .i8 room) := by rw [cell_block HB7.out]; rfl
  obtain ⟨⟨c0, c1⟩, f0, f1⟩ := two_cells HB8.out
  go_wp2_with fail
  refine bodyPost_ret (step_results rfl rfl rfl (two_set HB8.out _ _)) rfl ?_
  have ht : doT a ⟨2, ct, s, room⟩ = true := by unfold doT; rw [if_neg (show ¬ (2 : Int) = 0 by decide), if_neg (show ¬ (2 : Int) = 1 by decide), if_pos rfl]; exact decide_eq_true (Or.inr h1)
  exact StepR.mk (v := .slice none 0 0) (o := ⟨[], false⟩) (n := N) ht (by rw [stO_told (KK := KK) ht, doA_set, decide_eq_false h1]) (by rw [stN_told (KK := KK) ht (by rw [doA_set KK]; exact decide_eq_false h1), doN_set, HNN.out]) (World.ownsRow_nil _ _ _ _) (Fresh.then HF.out (two_keeps (Keeps.refl (fun q => q = w.heap.size + 1) w2) _ _) (fun q hq e => by omega))
set_option maxRecDepth 100000 in
set_option maxHeartbeats 2000000 in
theorem step_into (R : Nat) (hs : SlB w vs s) (hl : s.length ≤ 140737488351232) (ha : a ≤ endK) (hk : key.length = 32) (hn2 : nonce.length = 12 ∨ nonce.length = 24) (hKK : KK = ckOf key nonce) (h1 : BytesAt w bk ok key) (h2 : SlB w vn nonce) (h0 : ¬ endK < a + s.length) (hr : R ≤ 127) :
    Calls Try.prog 37 #[.slice (some ⟨bk, ok, none⟩) 32 ck, vn, .int .i64 (a : Int), .agg #[.int .i64 0, .int .u32 (u32 ct), vs, .int .i8 (R : Int)]] w (StepR KK a ⟨0, ct, s, (R : Int)⟩ w) := by
  obtain ⟨ps, cs, rfl⟩ := hs.slice
  obtain ⟨n, hn⟩ : ∃ n, n = s.length := ⟨_, rfl⟩
  have HN := Lib.hid hn
  rw [← hn] at hs hl ⊢
  have HS := Lib.hid hs
  clear hs
  have hend : endK = 274877906944 := rfl
  have e1 : IntKind.i64.wrap ((274877906944 : Int) - (a : Int)) = 274877906944 - (a : Int) := by rw [IntKind.wrap_i64]; omega
  rw [← hn] at h0
  have HKL := Lib.hid hk
  have HNL := Lib.hid hn2
  have HKE := Lib.hid hKK
  have H1 := Lib.hid h1
  have H2 := Lib.hid h2
  have HAN : Hid (a + n ≤ endK) := Lib.hid (by omega)
  obtain ⟨pn, cn, rfl⟩ := h2.slice
  clear h1 h2 hk hn2 hKK
  have z1 : ¬ (274877906944 : Int) - (a : Int) < (n : Int) := by omega
  obtain ⟨t, ht⟩ : ∃ t, t = a + n := ⟨_, rfl⟩
  have q0 : (a : Int) + (n : Int) = (t : Int) := by omega
  have q1 : IntKind.i64.wrap (t : Int) = (t : Int) := by rw [IntKind.wrap_i64]; omega
  have HTT := Lib.hid ht
  clear ht
  have w1 : IntKind.i64.wrap (R : Int) = (R : Int) := by rw [IntKind.wrap_i64]; omega
  have z0 : ¬ (R : Int) < 0 := by omega
  have z2 : (0 : Int) ≤ (R : Int) := by omega
  clear hn
  go_enter Try.func37, Try.ntmps37
  refine wp_seq_hold (fun K0 HK0 => ?_)
  go_wp2_with fail
  have HF := Lib.hid (do_news w (.cells #[.int .i64 0, .int .u32 (u32 ct), .slice ps n cs, .int .i8 (R : Int)] TSt) (.cells #[Value.slice none 0 0, .bool false] TOu))
  have HB7 := Lib.hid (heap_alloc2_old w (.cells #[.int .i64 0, .int .u32 (u32 ct), .slice ps n cs, .int .i8 (R : Int)] TSt) (.cells #[Value.slice none 0 0, .bool false] TOu))
  have HB8 := Lib.hid (do_block w (.cells #[.int .i64 0, .int .u32 (u32 ct), .slice ps n cs, .int .i8 (R : Int)] TSt) TOu #[Value.slice none 0 0, .bool false])
  generalize ((w.alloc (.cells #[Value.int .i64 0, .int .u32 (u32 ct), .slice ps n cs, .int .i8 (R : Int)] TSt)).alloc (.cells #[Value.slice none 0 0, .bool false] TOu)) = w2 at HF HB7 HB8 ⊢
  refine HK0.out _ _ ?_
  clear HK0
  have d0 : w2.cell? ⟨w.heap.size, 0, none⟩ = some (.int .i64 0) := by rw [cell_block HB7.out]; rfl
  have d1 : w2.cell? ⟨w.heap.size, 1, none⟩ = some (.int .u32 (u32 ct)) := by rw [cell_block HB7.out]; rfl
  have d2 : w2.cell? ⟨w.heap.size, 2, none⟩ = some (.slice ps n cs) := by rw [cell_block HB7.out]; rfl
  have d3 : w2.cell? ⟨w.heap.size, 3, none⟩ = some (.int .i8 (R : Int)) := by rw [cell_block HB7.out]; rfl
  obtain ⟨⟨c0, c1⟩, f0, f1⟩ := two_cells HB8.out
  have HD2 := Lib.hid d2
  go_wp2_with fail
  refine wp_region_ord (fun w' => Keeps (fun q => q = w.heap.size + 1) w2 w') [(0, true), (1, true), (2, true), (3, true), (4, true), (5, true), (8, true), (9, true), (13, true), (14, true), (15, true), (6, false), (7, false), (10, false), (11, false), (12, true), (16, false), (17, true), (18, true)] (by kernel_rfl) (by kernel_rfl) ((Keeps.refl _ w2).drew) ?_
  refine ord_quiet rfl (fun K hK => ?_); go_simp; refine hK _ ?_; clear hK K
  refine ord_load (.slice ps n cs) rfl (by rfl) (fun w' hw' => ?_) ?_
  · have hc := hw'.cellAt HD2.out (by show ¬ w.heap.size = w.heap.size + 1; omega)
    go_simp
  iterate 9 (refine ord_quiet rfl (fun K hK => ?_); go_simp; refine hK _ ?_; clear hK K)
  clear d0 d1 d2 d3 c0 c1 f0 f1
  refine ord_loud rfl (fun K hK => ?_)
  go_wp2_with fail
  refine (stream_c bk ok ck (.slice pn nonce.length cn) a n (a : Int) rfl key nonce _ HKL.out HNL.out ((H1.out.keeps HF.out (fun x => x)).keeps ((Keeps.refl (fun _ => False) w2).drew) (fun x => x)) ((H2.out.fresh HF.out).fresh ((Keeps.refl _ w2).drew)) HAN.out).mono ?_
  rintro e w3 ⟨v3, rfl, ho, hf⟩
  obtain ⟨p3, c3, rfl⟩ := ho.slice
  have HX3 : Hid (Fresh w2 w3) := Lib.hid (((Keeps.refl _ w2).drew).trans hf)
  have HO3 := Lib.hid ho.sl
  rw [ksL_len]
  clear ho hf
  go_wp2_with fail
  refine hK _ _ (Fresh.to HX3.out) ?_
  clear hK K
  refine ord_loud rfl (fun K hK => ?_)
  go_wp2_with fail
  refine (xored_c (.slice ps n cs) (.slice p3 n c3) s (ksL (ckOf key nonce) a n) w3 ((HS.out.fresh HF.out).fresh HX3.out) (by have := HO3.out; rwa [ksL_len] at this) (by rw [ksL_len, ← HN.out]; exact Nat.le_refl _) (by rw [← HN.out]; exact hl)).mono ?_
  rintro e w4 ⟨v4, rfl, ho, hf⟩
  rw [HN.out, xs_ksL, ← HKE.out] at ho
  have HX4 : Hid (Fresh w2 w4) := Lib.hid (HX3.out.trans hf)
  have HO4 := Lib.hid (ho.mono HX3.out.size)
  clear ho hf HO3
  go_wp2_with fail
  refine hK _ _ (Fresh.to HX4.out) ?_
  clear hK K
  refine ord_loud rfl (fun K hK => ?_)
  go_wp2_with fail
  refine (filledS_c R w4 (by omega)).mono ?_
  rintro e w5 ⟨v5, rfl, ho, hf⟩
  have HX5 : Hid (Fresh w2 w5) := Lib.hid (HX4.out.trans hf)
  have HO5 := Lib.hid (HO4.out.kept hf (fun _ _ x => x))
  have HS5 := Lib.hid ho.sl
  clear ho hf HO4
  go_wp2_with fail
  refine hK _ _ (Fresh.to HX5.out) ?_
  clear hK K
  refine ord_loud rfl (fun K hK => ?_)
  refine wpList_appS rfl (.tmp 49) (.tmp 52) rfl w2.heap.size _ _ (xs (fun i => KK.ks (a + i)) s) (fillB R) rfl rfl HO5.out HS5.out (by rw [xs_len, fillB_len, ← HN.out]; omega) HX5.out.size ?_
  intro v6 w6 HO6 HK6
  have HX6 : Hid (Fresh w2 w6) := Lib.hid (Fresh.then HX5.out HK6.out (fun q hq e => by have := (HO5.out.lt q e).1; omega))
  obtain ⟨p6, c6, hv6⟩ := HO6.out.slice
  obtain ⟨n6, hn6⟩ : ∃ m, m = (xs (fun i => KK.ks (a + i)) s ++ fillB R).length := ⟨_, rfl⟩
  rw [← hn6] at hv6
  subst hv6
  clear hn6
  refine wpList_nil (hK _ _ (Fresh.to HX6.out) ?_)
  clear hK K
  refine ord_quiet rfl (fun K hK => ?_); go_simp; refine hK _ ?_; clear hK K
  have HB6 := Lib.hid (HX6.out.at HB8.out)
  obtain ⟨⟨c0, c1⟩, f0, f1⟩ := two_cells HB6.out
  refine ord_loud rfl (fun K hK => ?_)
  go_wp2_with fail
  refine hK _ _ ?_ ?_
  · exact (Fresh.to HX6.out).trans (two_keeps (Keeps.refl (fun q => q = w.heap.size + 1) w6) _ _)
  clear hK K c0 c1 f0 f1
  iterate 2 (refine ord_quiet rfl (fun K hK => ?_); go_simp; refine hK _ ?_; clear hK K)
  refine ord_last ?_
  go_wp2_with fail
  refine bodyPost_ret (step_results rfl rfl rfl (two_set HB6.out _ _)) rfl ?_
  have ht : doT a ⟨0, ct, s, (R : Int)⟩ = true := by unfold doT; rw [if_pos rfl]; exact decide_eq_true (Or.inr (by rw [← HN.out]; exact h0))
  have hb2 : w.heap.size + 1 < w2.heap.size := lt_of_block HB8.out
  refine StepR.mk (v := .slice p6 n6 c6) (o := ⟨xs (fun i => KK.ks (a + i)) s ++ fillB R, false⟩) (n := t) ht ?_ ?_ ?_ (Fresh.then (HF.out.trans HX6.out) (two_keeps (Keeps.refl (fun q => q = w.heap.size + 1) w6) _ _) (fun q hq e => by omega))
  · rw [stO_told ht, doA_into _ _ _ _ _ (by omega) (by rw [← HN.out]; exact h0)]
    rfl
  · rw [stN_told ht (by rw [doA_into _ _ _ _ _ (by omega) (by rw [← HN.out]; exact h0)]), doN_into, HTT.out, HN.out]
  · exact (HO6.out.kept (two_keeps (Keeps.refl (fun q => q = w.heap.size + 1) w6) _ _) (fun q hq e => by omega)).mono (by omega)
set_option maxRecDepth 100000 in
set_option maxHeartbeats 2000000 in
theorem step_nought (room : Int) (hs : SlB w vs s) (hl : s.length ≤ 140737488351232) (ha : a ≤ endK) (hk : key.length = 32) (hn2 : nonce.length = 12 ∨ nonce.length = 24) (hKK : KK = ckOf key nonce) (h1 : BytesAt w bk ok key) (h2 : SlB w vn nonce) (h0 : ¬ endK < a + s.length) (hr : -128 ≤ room) (hr2 : room < 0) (hz : s.length = 0) :
    Calls Try.prog 37 #[.slice (some ⟨bk, ok, none⟩) 32 ck, vn, .int .i64 (a : Int), .agg #[.int .i64 0, .int .u32 (u32 ct), vs, .int .i8 room]] w (StepR KK a ⟨0, ct, s, room⟩ w) := by
  obtain ⟨ps, cs, rfl⟩ := hs.slice
  obtain ⟨n, hn⟩ : ∃ n, n = s.length := ⟨_, rfl⟩
  have HN := Lib.hid hn
  rw [← hn] at hs hl ⊢
  have HS := Lib.hid hs
  clear hs
  have hend : endK = 274877906944 := rfl
  have e1 : IntKind.i64.wrap ((274877906944 : Int) - (a : Int)) = 274877906944 - (a : Int) := by rw [IntKind.wrap_i64]; omega
  rw [← hn] at h0
  have HKL := Lib.hid hk
  have HNL := Lib.hid hn2
  have HKE := Lib.hid hKK
  have H1 := Lib.hid h1
  have H2 := Lib.hid h2
  have HAN : Hid (a + n ≤ endK) := Lib.hid (by omega)
  obtain ⟨pn, cn, rfl⟩ := h2.slice
  clear h1 h2 hk hn2 hKK
  have z1 : ¬ (274877906944 : Int) - (a : Int) < (n : Int) := by omega
  obtain ⟨t, ht⟩ : ∃ t, t = a + n := ⟨_, rfl⟩
  have q0 : (a : Int) + (n : Int) = (t : Int) := by omega
  have q1 : IntKind.i64.wrap (t : Int) = (t : Int) := by rw [IntKind.wrap_i64]; omega
  have HTT := Lib.hid ht
  clear ht
  have w1 : IntKind.i64.wrap room = room := by rw [IntKind.wrap_i64]; omega
  have hn0 : n = 0 := by omega
  have z0 : room < 0 := hr2
  have z2 : ¬ (0 : Int) < (n : Int) := by omega
  have z3 : ¬ (0 : Int) ≤ room := by omega
  clear hn0
  clear hn
  go_enter Try.func37, Try.ntmps37
  refine wp_seq_hold (fun K0 HK0 => ?_)
  go_wp2_with fail
  have HF := Lib.hid (do_news w (.cells #[.int .i64 0, .int .u32 (u32 ct), .slice ps n cs, .int .i8 room] TSt) (.cells #[Value.slice none 0 0, .bool false] TOu))
  have HB7 := Lib.hid (heap_alloc2_old w (.cells #[.int .i64 0, .int .u32 (u32 ct), .slice ps n cs, .int .i8 room] TSt) (.cells #[Value.slice none 0 0, .bool false] TOu))
  have HB8 := Lib.hid (do_block w (.cells #[.int .i64 0, .int .u32 (u32 ct), .slice ps n cs, .int .i8 room] TSt) TOu #[Value.slice none 0 0, .bool false])
  generalize ((w.alloc (.cells #[Value.int .i64 0, .int .u32 (u32 ct), .slice ps n cs, .int .i8 room] TSt)).alloc (.cells #[Value.slice none 0 0, .bool false] TOu)) = w2 at HF HB7 HB8 ⊢
  refine HK0.out _ _ ?_
  clear HK0
  have d0 : w2.cell? ⟨w.heap.size, 0, none⟩ = some (.int .i64 0) := by rw [cell_block HB7.out]; rfl
  have d1 : w2.cell? ⟨w.heap.size, 1, none⟩ = some (.int .u32 (u32 ct)) := by rw [cell_block HB7.out]; rfl
  have d2 : w2.cell? ⟨w.heap.size, 2, none⟩ = some (.slice ps n cs) := by rw [cell_block HB7.out]; rfl
  have d3 : w2.cell? ⟨w.heap.size, 3, none⟩ = some (.int .i8 room) := by rw [cell_block HB7.out]; rfl
  obtain ⟨⟨c0, c1⟩, f0, f1⟩ := two_cells HB8.out
  have HD2 := Lib.hid d2
  go_wp2_with fail
  refine wp_region_ord (fun w' => Keeps (fun q => q = w.heap.size + 1) w2 w') [(0, true), (1, true), (2, true), (3, true), (4, true), (5, true), (8, true), (9, true), (13, true), (14, true), (15, true), (6, false), (7, false), (10, false), (11, false), (12, true), (16, false), (17, true), (18, true)] (by kernel_rfl) (by kernel_rfl) ((Keeps.refl _ w2).drew) ?_
  refine ord_quiet rfl (fun K hK => ?_); go_simp; refine hK _ ?_; clear hK K
  refine ord_load (.slice ps n cs) rfl (by rfl) (fun w' hw' => ?_) ?_
  · have hc := hw'.cellAt HD2.out (by show ¬ w.heap.size = w.heap.size + 1; omega)
    go_simp
  iterate 9 (refine ord_quiet rfl (fun K hK => ?_); go_simp; refine hK _ ?_; clear hK K)
  clear d0 d1 d2 d3 c0 c1 f0 f1
  refine ord_loud rfl (fun K hK => ?_)
  go_wp2_with fail
  refine (stream_c bk ok ck (.slice pn nonce.length cn) a n (a : Int) rfl key nonce _ HKL.out HNL.out ((H1.out.keeps HF.out (fun x => x)).keeps ((Keeps.refl (fun _ => False) w2).drew) (fun x => x)) ((H2.out.fresh HF.out).fresh ((Keeps.refl _ w2).drew)) HAN.out).mono ?_
  rintro e w3 ⟨v3, rfl, ho, hf⟩
  obtain ⟨p3, c3, rfl⟩ := ho.slice
  have HX3 : Hid (Fresh w2 w3) := Lib.hid (((Keeps.refl _ w2).drew).trans hf)
  have HO3 := Lib.hid ho.sl
  rw [ksL_len]
  clear ho hf
  go_wp2_with fail
  refine hK _ _ (Fresh.to HX3.out) ?_
  clear hK K
  refine ord_loud rfl (fun K hK => ?_)
  go_wp2_with fail
  refine (xored_c (.slice ps n cs) (.slice p3 n c3) s (ksL (ckOf key nonce) a n) w3 ((HS.out.fresh HF.out).fresh HX3.out) (by have := HO3.out; rwa [ksL_len] at this) (by rw [ksL_len, ← HN.out]; exact Nat.le_refl _) (by rw [← HN.out]; exact hl)).mono ?_
  rintro e w4 ⟨v4, rfl, ho, hf⟩
  rw [HN.out, xs_ksL, ← HKE.out] at ho
  have HX4 : Hid (Fresh w2 w4) := Lib.hid (HX3.out.trans hf)
  have HO4 := Lib.hid (ho.mono HX3.out.size)
  clear ho hf HO3
  go_wp2_with fail
  refine hK _ _ (Fresh.to HX4.out) ?_
  clear hK K
  refine ord_loud rfl (fun K hK => ?_)
  go_wp2_with fail
  refine (filledS_c 0 w4 (by omega)).mono ?_
  rintro e w5 ⟨v5, rfl, ho, hf⟩
  have HX5 : Hid (Fresh w2 w5) := Lib.hid (HX4.out.trans hf)
  have HO5 := Lib.hid (HO4.out.kept hf (fun _ _ x => x))
  have HS5 := Lib.hid ho.sl
  clear ho hf HO4
  go_wp2_with fail
  refine hK _ _ (Fresh.to HX5.out) ?_
  clear hK K
  refine ord_loud rfl (fun K hK => ?_)
  refine wpList_appS rfl (.tmp 49) (.tmp 52) rfl w2.heap.size _ _ (xs (fun i => KK.ks (a + i)) s) (fillB 0) rfl rfl HO5.out HS5.out (by rw [xs_len, fillB_len, ← HN.out]; omega) HX5.out.size ?_
  intro v6 w6 HO6 HK6
  have HX6 : Hid (Fresh w2 w6) := Lib.hid (Fresh.then HX5.out HK6.out (fun q hq e => by have := (HO5.out.lt q e).1; omega))
  obtain ⟨p6, c6, hv6⟩ := HO6.out.slice
  obtain ⟨n6, hn6⟩ : ∃ m, m = (xs (fun i => KK.ks (a + i)) s ++ fillB 0).length := ⟨_, rfl⟩
  rw [← hn6] at hv6
  subst hv6
  clear hn6
  refine wpList_nil (hK _ _ (Fresh.to HX6.out) ?_)
  clear hK K
  refine ord_quiet rfl (fun K hK => ?_); go_simp; refine hK _ ?_; clear hK K
  have HB6 := Lib.hid (HX6.out.at HB8.out)
  obtain ⟨⟨c0, c1⟩, f0, f1⟩ := two_cells HB6.out
  refine ord_loud rfl (fun K hK => ?_)
  go_wp2_with fail
  refine hK _ _ ?_ ?_
  · exact (Fresh.to HX6.out).trans (two_keeps (Keeps.refl (fun q => q = w.heap.size + 1) w6) _ _)
  clear hK K c0 c1 f0 f1
  iterate 2 (refine ord_quiet rfl (fun K hK => ?_); go_simp; refine hK _ ?_; clear hK K)
  refine ord_last ?_
  go_wp2_with fail
  refine bodyPost_ret (step_results rfl rfl rfl (two_set HB6.out _ _)) rfl ?_
  have ht : doT a ⟨0, ct, s, room⟩ = true := by unfold doT; rw [if_pos rfl]; exact decide_eq_true (Or.inr (by rw [← HN.out]; exact h0))
  have hb2 : w.heap.size + 1 < w2.heap.size := lt_of_block HB8.out
  refine StepR.mk (v := .slice p6 n6 c6) (o := ⟨xs (fun i => KK.ks (a + i)) s ++ fillB 0, false⟩) (n := t) ht ?_ ?_ ?_ (Fresh.then (HF.out.trans HX6.out) (two_keeps (Keeps.refl (fun q => q = w.heap.size + 1) w6) _ _) (fun q hq e => by omega))
  · rw [stO_told ht, doA_into _ _ _ _ _ (by omega) (by rw [← HN.out]; exact h0)]
    rw [show room.toNat = 0 by omega]
  · rw [stN_told ht (by rw [doA_into _ _ _ _ _ (by omega) (by rw [← HN.out]; exact h0)]), doN_into, HTT.out, HN.out]
  · exact (HO6.out.kept (two_keeps (Keeps.refl (fun q => q = w.heap.size + 1) w6) _ _) (fun q hq e => by omega)).mono (by omega)
set_option maxRecDepth 100000 in
set_option maxHeartbeats 2000000 in
theorem step_place (room : Int) (hs : SlB w vs s) (hl : s.length ≤ 140737488351232) (ha : a ≤ endK) (hk : key.length = 32) (hn2 : nonce.length = 12 ∨ nonce.length = 24) (hKK : KK = ckOf key nonce) (h1 : BytesAt w bk ok key) (h2 : SlB w vn nonce) (h0 : ¬ endK < a + s.length)  :
    Calls Try.prog 37 #[.slice (some ⟨bk, ok, none⟩) 32 ck, vn, .int .i64 (a : Int), .agg #[.int .i64 1, .int .u32 (u32 ct), vs, .int .i8 room]] w (StepR KK a ⟨1, ct, s, room⟩ w) := by
  obtain ⟨ps, cs, rfl⟩ := hs.slice
  obtain ⟨n, hn⟩ : ∃ n, n = s.length := ⟨_, rfl⟩
  have HN := Lib.hid hn
  rw [← hn] at hs hl ⊢
  have HS := Lib.hid hs
  clear hs
  have hend : endK = 274877906944 := rfl
  have e1 : IntKind.i64.wrap ((274877906944 : Int) - (a : Int)) = 274877906944 - (a : Int) := by rw [IntKind.wrap_i64]; omega
  rw [← hn] at h0
  have HKL := Lib.hid hk
  have HNL := Lib.hid hn2
  have HKE := Lib.hid hKK
  have H1 := Lib.hid h1
  have H2 := Lib.hid h2
  have HAN : Hid (a + n ≤ endK) := Lib.hid (by omega)
  obtain ⟨pn, cn, rfl⟩ := h2.slice
  clear h1 h2 hk hn2 hKK
  have z1 : ¬ (274877906944 : Int) - (a : Int) < (n : Int) := by omega
  obtain ⟨t, ht⟩ : ∃ t, t = a + n := ⟨_, rfl⟩
  have q0 : (a : Int) + (n : Int) = (t : Int) := by omega
  have q1 : IntKind.i64.wrap (t : Int) = (t : Int) := by rw [IntKind.wrap_i64]; omega
  have HTT := Lib.hid ht
  clear ht
  have z0 : ¬ (1 : Int) = 0 := by decide
  clear hn
  go_enter Try.func37, Try.ntmps37
  refine wp_seq_hold (fun K0 HK0 => ?_)
  go_wp2_with fail
  have HF := Lib.hid (do_news w (.cells #[.int .i64 1, .int .u32 (u32 ct), .slice ps n cs, .int .i8 room] TSt) (.cells #[Value.slice none 0 0, .bool false] TOu))
  have HB7 := Lib.hid (heap_alloc2_old w (.cells #[.int .i64 1, .int .u32 (u32 ct), .slice ps n cs, .int .i8 room] TSt) (.cells #[Value.slice none 0 0, .bool false] TOu))
  have HB8 := Lib.hid (do_block w (.cells #[.int .i64 1, .int .u32 (u32 ct), .slice ps n cs, .int .i8 room] TSt) TOu #[Value.slice none 0 0, .bool false])
  generalize ((w.alloc (.cells #[Value.int .i64 1, .int .u32 (u32 ct), .slice ps n cs, .int .i8 room] TSt)).alloc (.cells #[Value.slice none 0 0, .bool false] TOu)) = w2 at HF HB7 HB8 ⊢
  refine HK0.out _ _ ?_
  clear HK0
  have d0 : w2.cell? ⟨w.heap.size, 0, none⟩ = some (.int .i64 1) := by rw [cell_block HB7.out]; rfl
  have d1 : w2.cell? ⟨w.heap.size, 1, none⟩ = some (.int .u32 (u32 ct)) := by rw [cell_block HB7.out]; rfl
  have d2 : w2.cell? ⟨w.heap.size, 2, none⟩ = some (.slice ps n cs) := by rw [cell_block HB7.out]; rfl
  have d3 : w2.cell? ⟨w.heap.size, 3, none⟩ = some (.int .i8 room) := by rw [cell_block HB7.out]; rfl
  obtain ⟨⟨c0, c1⟩, f0, f1⟩ := two_cells HB8.out
  have HD2 := Lib.hid d2
  go_wp2_with fail
  refine wp_region_ord (fun w' => Keeps (fun q => q = w.heap.size + 1) w2 w') [(0, true), (1, true), (2, true), (3, true), (4, true), (5, true), (8, true), (9, true), (13, true), (14, true), (15, true), (6, false), (7, false), (10, false), (11, false), (12, true), (16, false), (17, true), (18, true)] (by kernel_rfl) (by kernel_rfl) ((Keeps.refl _ w2).drew) ?_
  refine ord_quiet rfl (fun K hK => ?_); go_simp; refine hK _ ?_; clear hK K
  refine ord_load (.slice ps n cs) rfl (by rfl) (fun w' hw' => ?_) ?_
  · have hc := hw'.cellAt HD2.out (by show ¬ w.heap.size = w.heap.size + 1; omega)
    go_simp
  iterate 9 (refine ord_quiet rfl (fun K hK => ?_); go_simp; refine hK _ ?_; clear hK K)
  clear d0 d1 d2 d3 c0 c1 f0 f1
  refine ord_loud rfl (fun K hK => ?_)
  go_wp2_with fail
  refine (stream_c bk ok ck (.slice pn nonce.length cn) a n (a : Int) rfl key nonce _ HKL.out HNL.out ((H1.out.keeps HF.out (fun x => x)).keeps ((Keeps.refl (fun _ => False) w2).drew) (fun x => x)) ((H2.out.fresh HF.out).fresh ((Keeps.refl _ w2).drew)) HAN.out).mono ?_
  rintro e w3 ⟨v3, rfl, ho, hf⟩
  obtain ⟨p3, c3, rfl⟩ := ho.slice
  have HX3 : Hid (Fresh w2 w3) := Lib.hid (((Keeps.refl _ w2).drew).trans hf)
  have HO3 := Lib.hid ho.sl
  rw [ksL_len]
  clear ho hf
  go_wp2_with fail
  refine hK _ _ (Fresh.to HX3.out) ?_
  clear hK K
  refine ord_loud rfl (fun K hK => ?_)
  go_wp2_with fail
  refine (xored_c (.slice ps n cs) (.slice p3 n c3) s (ksL (ckOf key nonce) a n) w3 ((HS.out.fresh HF.out).fresh HX3.out) (by have := HO3.out; rwa [ksL_len] at this) (by rw [ksL_len, ← HN.out]; exact Nat.le_refl _) (by rw [← HN.out]; exact hl)).mono ?_
  rintro e w4 ⟨v4, rfl, ho, hf⟩
  rw [HN.out, xs_ksL, ← HKE.out] at ho
  have HX4 : Hid (Fresh w2 w4) := Lib.hid (HX3.out.trans hf)
  have HO4 := Lib.hid (ho.mono HX3.out.size)
  clear ho hf HO3
  go_wp2_with fail
  refine hK _ _ (Fresh.to HX4.out) ?_
  clear hK K
  refine ord_loud rfl (fun K hK => ?_)
  go_wp2_with fail
  refine (filledS_c 0 w4 (by omega)).mono ?_
  rintro e w5 ⟨v5, rfl, ho, hf⟩
  have HX5 : Hid (Fresh w2 w5) := Lib.hid (HX4.out.trans hf)
  have HO5 := Lib.hid (HO4.out.kept hf (fun _ _ x => x))
  have HS5 := Lib.hid ho.sl
  clear ho hf HO4
  go_wp2_with fail
  refine hK _ _ (Fresh.to HX5.out) ?_
  clear hK K
  refine ord_loud rfl (fun K hK => ?_)
  refine wpList_appS rfl (.tmp 49) (.tmp 52) rfl w2.heap.size _ _ (xs (fun i => KK.ks (a + i)) s) (fillB 0) rfl rfl HO5.out HS5.out (by rw [xs_len, fillB_len, ← HN.out]; omega) HX5.out.size ?_
  intro v6 w6 HO6 HK6
  have HX6 : Hid (Fresh w2 w6) := Lib.hid (Fresh.then HX5.out HK6.out (fun q hq e => by have := (HO5.out.lt q e).1; omega))
  obtain ⟨p6, c6, hv6⟩ := HO6.out.slice
  obtain ⟨n6, hn6⟩ : ∃ m, m = (xs (fun i => KK.ks (a + i)) s ++ fillB 0).length := ⟨_, rfl⟩
  rw [← hn6] at hv6
  subst hv6
  clear hn6
  refine wpList_nil (hK _ _ (Fresh.to HX6.out) ?_)
  clear hK K
  refine ord_quiet rfl (fun K hK => ?_); go_simp; refine hK _ ?_; clear hK K
  have HB6 := Lib.hid (HX6.out.at HB8.out)
  obtain ⟨⟨c0, c1⟩, f0, f1⟩ := two_cells HB6.out
  refine ord_loud rfl (fun K hK => ?_)
  go_wp2_with fail
  refine hK _ _ ?_ ?_
  · exact (Fresh.to HX6.out).trans (two_keeps (Keeps.refl (fun q => q = w.heap.size + 1) w6) _ _)
  clear hK K c0 c1 f0 f1
  iterate 2 (refine ord_quiet rfl (fun K hK => ?_); go_simp; refine hK _ ?_; clear hK K)
  refine ord_last ?_
  go_wp2_with fail
  refine bodyPost_ret (step_results rfl rfl rfl (two_set HB6.out _ _)) rfl ?_
  have ht : doT a ⟨1, ct, s, room⟩ = true := by unfold doT; rw [if_neg (show ¬ (1 : Int) = 0 by decide), if_pos rfl]; exact decide_eq_true (by rw [← HN.out]; exact h0)
  have hb2 : w.heap.size + 1 < w2.heap.size := lt_of_block HB8.out
  refine StepR.mk (v := .slice p6 n6 c6) (o := ⟨xs (fun i => KK.ks (a + i)) s ++ fillB 0, false⟩) (n := t) ht ?_ ?_ ?_ (Fresh.then (HF.out.trans HX6.out) (two_keeps (Keeps.refl (fun q => q = w.heap.size + 1) w6) _ _) (fun q hq e => by omega))
  · rw [stO_told ht, doA_place _ _ _ _ _ (by rw [← HN.out]; exact h0)]
    simp [fillB]
  · rw [stN_told ht (by rw [doA_place _ _ _ _ _ (by rw [← HN.out]; exact h0)]), doN_place, HTT.out, HN.out]
  · exact (HO6.out.kept (two_keeps (Keeps.refl (fun q => q = w.heap.size + 1) w6) _ _) (fun q hq e => by omega)).mono (by omega)
end
/-- spec.step -/
theorem step_c (KK : CK) (bk ok ck : Nat) (vn vs : Value) (key nonce : List UInt8) (a : Nat) (s : St) (w : World) (hs : SlB w vs s.src) (hl : s.src.length ≤ 140737488351232) (ha : a ≤ endK) (hr : -128 ≤ s.room ∧ s.room ≤ 127)
    (hk : key.length = 32) (hn2 : nonce.length = 12 ∨ nonce.length = 24) (hKK : KK = ckOf key nonce) (h1 : BytesAt w bk ok key) (h2 : SlB w vn nonce) :
    Calls Try.prog 37 #[.slice (some ⟨bk, ok, none⟩) 32 ck, vn, .int .i64 (a : Int), .agg #[.int .i64 s.kind, .int .u32 (u32 s.counter), vs, .int .i8 s.room]] w (StepR KK a s w) := by
  obtain ⟨kd, ct, x, room⟩ := s
  simp only at hs hl hr ⊢
  by_cases k0 : kd = 0
  · subst k0
    by_cases hov : endK < a + x.length
    · by_cases hneg : room < 0
      · exact step_short KK bk ok ck vn vs x a ct w room hs hl ha hr.1 hneg (by omega)
      · exact step_over KK bk ok ck vn vs x a ct w room hs hl ha (by omega) hr.2 hov
    · by_cases hneg : room < 0
      · by_cases hz : x.length = 0
        · exact step_nought KK bk ok ck vn vs key nonce x a ct w room hs hl ha hk hn2 hKK h1 h2 hov hr.1 hneg hz
        · exact step_short KK bk ok ck vn vs x a ct w room hs hl ha hr.1 hneg (by omega)
      · obtain ⟨R, rfl⟩ : ∃ R : Nat, room = (R : Int) := ⟨room.toNat, by omega⟩
        exact step_into KK bk ok ck vn vs key nonce x a ct w R hs hl ha hk hn2 hKK h1 h2 hov (by omega)
  by_cases k1 : kd = 1
  · subst k1
    by_cases hov : endK < a + x.length
    · exact step_overP KK bk ok ck vn vs x a ct w room hs hl ha hov
    · exact step_place KK bk ok ck vn vs key nonce x a ct w room hs hl ha hk hn2 hKK h1 h2 hov
  by_cases k2 : kd = 2
  · subst k2
    by_cases h0 : ct.toNat < a / 64
    · exact step_back KK bk ok ck vn vs x a ct w room hs hl ha h0
    · by_cases h3 : 64 * ct.toNat < a
      · exact step_within KK bk ok ck vn vs x a ct w room hs hl ha h0 h3
      · exact step_set KK bk ok ck vn vs x a ct w room hs hl ha h3
  exact step_other KK bk ok ck vn vs x a ct w kd room hs hl ha k0 k1 k2
end
section
open Go Go.RowKit
set_option linter.unusedVariables false
theorem runT_nil0 (K : CK) (a : Nat) : runT K a [] = ([], true) := rfl
theorem doN_le {K : CK} {a : Nat} {s : St} (ha : a ≤ endK) (h : doT a s = true) (hf : (doA K a s).failed = false) : doN a s ≤ endK := by
  obtain ⟨kd, ct, x, room⟩ := s
  by_cases h0 : kd = 0
  · subst h0
    rw [doN_into]
    by_cases hov : endK < a + x.length
    · rw [doA_over _ _ _ _ _ hov] at hf; cases hf
    · omega
  by_cases h1 : kd = 1
  · subst h1
    rw [doN_place]
    by_cases hov : endK < a + x.length
    · rw [doA_placeOver _ _ _ _ _ hov] at hf; cases hf
    · omega
  by_cases h2 : kd = 2
  · subst h2
    rw [doN_set]
    exact endK_counter ct
  · rw [doN_other _ _ _ _ _ h0 h1 h2]; exact ha
attribute [local irreducible] Cha.iter Cha.rounds Cha.dbl Cha.qr ckOf CK.ks blkB xs ksL doA doN doT stO stN runT
/-- what RunOf returns -/
def RunTR (K : CK) (ss : List St) (w : World) (e : Ending) (w' : World) : Prop :=
  ∃ v ps, e = .returned (.tuple #[v, .bool (runT K 0 ss).2]) ∧ OutsL w' v ps ∧ ps.map (·.2) = (runT K 0 ss).1 ∧ Fresh w w'
def RunTRel (K : CK) (qs : List (Value × St)) (w : World) (vo va i : Value) (wr : World) : Prop :=
  ∃ (k : Nat) (ps : List (Value × Ou)) (a : Nat), k ≤ qs.length ∧ i = .int .i64 k ∧ va = .int .i64 (a : Int) ∧ a ≤ endK ∧ ps.length = k ∧ OutsOwn wr w.heap.size vo ps ∧ Fresh w wr ∧
    ps.map (·.2) ++ (runT K a ((qs.drop k).map (·.2))).1 = (runT K 0 (qs.map (·.2))).1 ∧ (runT K a ((qs.drop k).map (·.2))).2 = (runT K 0 (qs.map (·.2))).2
theorem runT_not {K : CK} {a : Nat} {s : St} {ss : List St} (h : doT a s = false) : runT K a (s :: ss) = ([], false) := by rw [runT_cons, if_neg (by rw [h]; decide)]
theorem runT_failed {K : CK} {a : Nat} {s : St} {ss : List St} (h : doT a s = true) (hf : (doA K a s).failed = true) : runT K a (s :: ss) = ([doA K a s], true) := by rw [runT_cons, if_pos h, if_pos hf]
theorem runT_told {K : CK} {a : Nat} {s : St} {ss : List St} (h : doT a s = true) (hf : (doA K a s).failed = false) : runT K a (s :: ss) = (doA K a s :: (runT K (doN a s) ss).1, (runT K (doN a s) ss).2) := by rw [runT_cons, if_pos h, if_neg (by rw [hf]; decide)]
theorem drop_map_consO {qs : List (Value × St)} {k : Nat} {q : Value × St} (h : qs[k]? = some q) : (qs.drop k).map (·.2) = q.2 :: (qs.drop (k + 1)).map (·.2) := by
  obtain ⟨hk, rfl⟩ := List.getElem?_eq_some_iff.1 h
  rw [List.drop_eq_getElem_cons hk, List.map_cons]
set_option maxRecDepth 100000 in
set_option maxHeartbeats 2000000 in
theorem RunOf_c (bk ok ck : Nat) (vn vc : Value) (key nonce : List UInt8) (qs : List (Value × St)) (w : World) (hk : key.length = 32) (hn : nonce.length = 12 ∨ nonce.length = 24) (h1 : BytesAt w bk ok key) (h2 : SlB w vn nonce)
    (hc : StepsL w vc qs) (hq : qs.length ≤ 4398046511104) (hb : ∀ q ∈ qs, q.2.src.length ≤ 140737488351232 ∧ -128 ≤ q.2.room ∧ q.2.room ≤ 127) :
    Calls Try.prog 28 #[.slice (some ⟨bk, ok, none⟩) 32 ck, vn, vc] w (RunTR (ckOf key nonce) (qs.map (·.2)) w) := by
  obtain ⟨pa, ca, rfl⟩ := hc.shape
  obtain ⟨KK, hKK⟩ : ∃ K, K = ckOf key nonce := ⟨_, rfl⟩
  rw [← hKK]
  have HKE := Lib.hid hKK
  have HC := Lib.hid hc
  have HKL := Lib.hid hk
  have HNL := Lib.hid hn
  have HB := Lib.hid hb
  have H1 := Lib.hid h1
  have H2 := Lib.hid h2
  obtain ⟨pn, cn, rfl⟩ := h2.slice
  clear hc hk hn hb h1 h2 hKK
  go_enter Try.func28, Try.ntmps28
  go_wp2_with fail
  go_loopw [8, 9, 18] (fun vo va i wr => RunTRel KK qs w vo va i wr) (fun _ _ i _ => qs.length - (intOf i).toNat)
  case atStart => exact ⟨0, [], 0, Nat.zero_le _, rfl, rfl, Nat.zero_le _, rfl, ⟨World.ownsRow_lit w #[] 0 (Nat.le_refl _) (by decide) rfl, fun _ h => by cases h⟩, (Keeps.refl _ w).alloc _, rfl, rfl⟩
  case round =>
    obtain ⟨k, ps, a, hk, rfl, rfl, hae, hpl, hown, hf, hse, hsb⟩ := hrel
    have HO := Lib.hid hown
    have HF := Lib.hid hf
    have HSZ0 := hf.size
    have HE := Lib.hid hse
    have HE2 := Lib.hid hsb
    clear hown hf hse hsb
    by_cases hlt : k < qs.length
    · obtain ⟨⟨vq, kd, ct, xq, rm⟩, hq'⟩ : ∃ q, qs[k]? = some q := ⟨_, List.getElem?_eq_getElem hlt⟩
      obtain ⟨bc, oc, c', he, -, -, hbc, hlie⟩ := HC.out.form (by omega)
      injection he with e1 e2 e3
      subst e1 e3
      have hqm : (⟨vq, kd, ct, xq, rm⟩ : Value × St) ∈ qs := List.mem_of_getElem? hq'
      have hsq : SlB w vq xq := HC.out.2 _ hqm
      have ⟨d0, d1, d2, d3⟩ := StepsL.at (hlie.fresh HF.out) hq'
      simp only at d0 d1 d2 d3
      obtain ⟨pq, cq, hqv⟩ := hsq.slice
      obtain ⟨nq, hnq⟩ : ∃ n, n = xq.length := ⟨_, rfl⟩
      rw [← hnq] at hqv
      subst hqv
      have HSQ := Lib.hid hsq
      have HLX := Lib.hid (HB.out _ hqm)
      have hse := HE.out
      have hsb := HE2.out
      rw [drop_map_consO hq'] at hse hsb
      have HSE := Lib.hid hse
      have HSB := Lib.hid hsb
      clear hq' hlie hqm hsq hnq hse hsb HE HE2
      go_wp2_with fail
      have HF2 : Hid (Fresh wr (wr.alloc (.cells #[Value.int .i64 kd, .int .u32 (Go.Proofs.Ytaapglpnofmmlaa.u32 ct), .slice pq nq cq, .int .i8 rm] TSt))) := Lib.hid ((Keeps.refl _ wr).alloc _)
      generalize (wr.alloc (.cells #[Value.int .i64 kd, .int .u32 (Go.Proofs.Ytaapglpnofmmlaa.u32 ct), .slice pq nq cq, .int .i8 rm] TSt)) = w4 at HF2 ⊢
      have hsz4 := HF2.out.size
      refine (step_c KK bk ok ck (.slice pn nonce.length cn) _ key nonce a ⟨kd, ct, xq, rm⟩ w4 (HSQ.out.fresh (HF.out.trans HF2.out)) HLX.out.1 hae HLX.out.2 HKL.out HNL.out HKE.out (H1.out.keeps (HF.out.trans HF2.out) (fun x => x)) (H2.out.fresh (HF.out.trans HF2.out))).mono ?_
      rintro e w5 ⟨vB, rfl, ho, hf5⟩
      obtain ⟨s, hs⟩ : ∃ s : St, s = ⟨kd, ct, xq, rm⟩ := ⟨_, rfl⟩
      rw [← hs] at ho ⊢
      have HSS := Lib.hid hs
      obtain ⟨t, ht⟩ : ∃ t, t = doT a s := ⟨_, rfl⟩
      obtain ⟨ou, hou⟩ : ∃ o, o = stO KK a s := ⟨_, rfl⟩
      obtain ⟨nx, hnx⟩ : ∃ n, n = stN KK a s := ⟨_, rfl⟩
      rw [← hou] at ho
      rw [← ht, ← hou, ← hnx]
      obtain ⟨pv, cv, hvv⟩ := ho.sl.slice
      obtain ⟨nv, hnv⟩ : ∃ n, n = ou.bytes.length := ⟨_, rfl⟩
      rw [← hnv] at hvv
      subst hvv
      have HO3 := Lib.hid ho
      have HX5 : Hid (Fresh wr w5) := Lib.hid (HF2.out.trans hf5)
      have hsz5 := hf5.size
      have HT := Lib.hid ht
      have HOU := Lib.hid hou
      have HNX := Lib.hid hnx
      obtain ⟨ob, of⟩ := ou
      clear ho hf5 hnv ht hou hnx hs
      simp only
      have HOA : Hid (OutsOwn w5 w.heap.size u8 ps) := Lib.hid (OutsOwn.kept HO.out HX5.out (fun _ _ x => x))
      cases t with
      | false =>
        go_wp2_with fail
        go_ret2
        have hse := HSE.out
        have hsb := HSB.out
        rw [← HSS.out, runT_not HT.out.symm] at hse hsb
        refine ⟨_, ps, congrArg (fun b => Ending.returned (.tuple #[u8, .bool b])) hsb, ?_, by simpa using hse, (HF.out.trans HX5.out).alloc _⟩
        exact (OutsOwn.sl HOA.out).fresh ((Keeps.refl _ w5).alloc _)
      | true =>
        have HW : Hid (Fresh w5 ((w5.alloc (.cells #[Value.slice pv nv cv, .bool of] TOu)).alloc (.cells #[Value.slice pv nv cv, .bool of] TOu))) := Lib.hid (((Keeps.refl _ w5).alloc _).alloc _)
        have HG := Lib.hid (heap_alloc2_new w5 (.cells #[Value.slice pv nv cv, .bool of] TOu) (.cells #[Value.slice pv nv cv, .bool of] TOu))
        have HG0 := Lib.hid (heap_alloc2_old w5 (.cells #[Value.slice pv nv cv, .bool of] TOu) (.cells #[Value.slice pv nv cv, .bool of] TOu))
        have HOW := Lib.hid (OutsOwn.kept HOA.out HW.out (fun _ _ x => x))
        have HPW := Lib.hid (OwnB.kept (OwnB.mono HO3.out (show w.heap.size ≤ w4.heap.size by omega)) HW.out (fun _ _ x => x))
        have hU : ∀ q, u8.ownBlock = some q → q < w5.heap.size := fun q hq => (World.ownsRow.lt HOA.out.1 q hq).2
        have hU2 : ∀ q, u8.ownBlock = some q → w.heap.size ≤ q := fun q hq => (World.ownsRow.lt HOA.out.1 q hq).1
        have HU := Lib.hid hU
        have HU2 := Lib.hid hU2
        have hszW := HW.out.size
        have hbs : w.heap.size ≤ w5.heap.size := by omega
        have HBS := Lib.hid (Nat.le_trans hbs hszW)
        have hpl2 : ps.length < 4398046511104 := by omega
        have HPL := Lib.hid hpl2
        have hFR : ∀ w6, Keeps (fun q => u8.ownBlock = some q) ((w5.alloc (.cells #[Value.slice pv nv cv, .bool of] TOu)).alloc (.cells #[Value.slice pv nv cv, .bool of] TOu)) w6 → Fresh w w6 := fun w6 hk6 => Fresh.then (HF.out.trans (HX5.out.trans HW.out)) hk6 (fun q hq e => by have := HU2.out _ e; omega)
        have HFR := Lib.hid hFR
        have HDA : Hid (doA KK a s = ⟨ob, of⟩) := Lib.hid (by rw [← stO_told HT.out.symm]; exact HOU.out.symm)
        clear hU hU2 hszW hbs hpl2 hFR
        cases of with
        | false =>
          go_wp2_with (at_builtin; refine wpList_appO rfl (.tmp 35) (.tmp 37) rfl w.heap.size u8 ps (Value.slice pv nv cv, ⟨ob, false⟩) (w5.heap.size + 1) rfl rfl HOW.out HG.out HPW.out HPL.out HBS.out ?_; intro v6 w6 HO5 HK5; have c9 : w6.cell? ⟨w5.heap.size, 1, none⟩ = some (.bool false) := HK5.out.cellAt (by rw [cell_block HG0.out]; rfl) (fun e => Nat.lt_irrefl _ (HU.out _ e)))
          go_roundw
          case rel =>
            have hse := HSE.out
            have hsb := HSB.out
            have hfd : (doA KK a s).failed = false := by rw [HDA.out]
            rw [← HSS.out, runT_told HT.out.symm hfd] at hse hsb
            have hnn : nx = doN a s := by rw [HNX.out, stN_told HT.out.symm hfd]
            refine ⟨k + 1, ps ++ [(Value.slice pv nv cv, ⟨ob, false⟩)], nx, by omega, by go_num, rfl, by rw [hnn]; exact doN_le hae HT.out.symm hfd, by simp [hpl], HO5.out, HFR.out _ HK5.out, ?_, ?_⟩
            · rw [← hse, hnn, ← HDA.out]; simp
            · rw [← hsb, hnn]
          case measure => simp [intOf]; omega
        | true =>
          go_wp2_with (at_builtin; refine wpList_appO rfl (.tmp 35) (.tmp 37) rfl w.heap.size u8 ps (Value.slice pv nv cv, ⟨ob, true⟩) (w5.heap.size + 1) rfl rfl HOW.out HG.out HPW.out HPL.out HBS.out ?_; intro v6 w6 HO5 HK5; have c9 : w6.cell? ⟨w5.heap.size, 1, none⟩ = some (.bool true) := HK5.out.cellAt (by rw [cell_block HG0.out]; rfl) (fun e => Nat.lt_irrefl _ (HU.out _ e)))
          go_ret2
          have hse := HSE.out
          have hsb := HSB.out
          have hfd : (doA KK a s).failed = true := by rw [HDA.out]
          rw [← HSS.out, runT_failed HT.out.symm hfd] at hse hsb
          refine ⟨_, ps ++ [(Value.slice pv nv cv, ⟨ob, true⟩)], congrArg (fun b => Ending.returned (.tuple #[v6, .bool b])) hsb, HO5.out.sl, ?_, HFR.out _ HK5.out⟩
          rw [← hse, HDA.out]; simp
    · have hks : k = qs.length := by omega
      have hse := HE.out
      have hsb := HE2.out
      rw [hks, List.drop_length, List.map_nil, runT_nil0] at hse hsb
      have HSE := Lib.hid hse
      have HSB := Lib.hid hsb
      clear hse hsb
      go_wp2_with fail
      go_ret2
      refine ⟨_, ps, congrArg (fun b => Ending.returned (.tuple #[u8, .bool b])) HSB.out, HO.out.sl, ?_, HF.out⟩
      simpa using HSE.out
end
section
open Go Go.RowKit
attribute [local irreducible] Cha.iter Cha.rounds Cha.dbl Cha.qr
theorem Taken_c (p1 p2 : Option Addr) (n1 c1 n2 c2 : Nat) (w : World) :
    Calls Try.prog 27 #[.slice p1 n1 c1, .slice p2 n2 c2] w fun e w' => e = .returned (.bool (decide (n1 = 32 ∧ (n2 = 12 ∨ n2 = 24)))) ∧ w' = w := by
  by_cases h1 : n1 = 32
  · have i1 : (n1 : Int) = 32 := by omega
    by_cases h2 : n2 = 12
    · have i2 : (n2 : Int) = 12 := by omega
      rw [decide_eq_true ⟨h1, Or.inl h2⟩]
      clear h1 h2
      go_enter Try.func27, Try.ntmps27
      go_wp2_with fail
      go_ret
      exact ⟨rfl, rfl⟩
    · have i2 : ¬ (n2 : Int) = 12 := by omega
      by_cases h3 : n2 = 24
      · have i3 : (n2 : Int) = 24 := by omega
        rw [decide_eq_true ⟨h1, Or.inr h3⟩]
        clear h1 h2 h3
        go_enter Try.func27, Try.ntmps27
        go_wp2_with fail
        go_ret
        exact ⟨rfl, rfl⟩
      · have i3 : ¬ (n2 : Int) = 24 := by omega
        rw [decide_eq_false (fun h => h.2.elim h2 h3)]
        have J := Lib.hid (And.intro (beq_eq_false_iff_ne.2 i2) (beq_eq_false_iff_ne.2 i3))
        clear h1 h2 h3
        go_enter Try.func27, Try.ntmps27
        go_wp2_with fail
        go_ret
        refine ⟨?_, rfl⟩
        show Ending.returned (Value.bool ((n2 : Int) == 12 || (n2 : Int) == 24)) = _
        rw [J.out.1, J.out.2]
        rfl
  · have i1 : ¬ (n1 : Int) = 32 := by omega
    rw [decide_eq_false (fun h => h1 h.1)]
    clear h1
    go_enter Try.func27, Try.ntmps27
    go_wp2_with fail
    go_ret
    exact ⟨rfl, rfl⟩
def SameORel (w : World) (va vb : Value) (ps qs : List (Value × Ou)) (i : Value) (wr : World) : Prop :=
  ∃ k : Nat, k ≤ ps.length ∧ i = .int .i64 k ∧ OutsL wr va ps ∧ OutsL wr vb qs ∧ Fresh w wr
set_option maxRecDepth 100000 in
set_option maxHeartbeats 2000000 in
theorem SameOuts_c (va vb : Value) (ps qs : List (Value × Ou)) (w : World) (ha : OutsL w va ps) (hb : OutsL w vb qs) (he : ps.map (·.2) = qs.map (·.2)) :
    Calls Try.prog 29 #[va, vb] w fun e w' => e = .returned (.bool true) ∧ Fresh w w' := by
  have hlen : ps.length = qs.length := by have := congrArg List.length he; simpa using this
  obtain ⟨pa, ca, rfl⟩ := ha.shape
  obtain ⟨pb, cb, rfl⟩ := hb.shape
  rw [← hlen] at hb ⊢
  have HA := Lib.hid ha
  have HB := Lib.hid hb
  have HE := Lib.hid he
  have HLE := Lib.hid hlen
  have hmx : ps.length ≤ 9223372036854775807 := by have := ha.len_le; simp only [maxLen] at this; omega
  clear ha hb he hlen
  go_enter Try.func29, Try.ntmps29
  go_wp2_with fail
  go_loopw [13] (fun i wr => SameORel w (.slice pa ps.length ca) (.slice pb ps.length cb) ps qs i wr) (fun i _ => ps.length - (intOf i).toNat)
  case atStart => exact ⟨0, Nat.zero_le _, rfl, HA.out, HB.out, Keeps.refl _ _⟩
  case round =>
    clear HA HB
    obtain ⟨k, hk, rfl, ha, hb, hf⟩ := hrel
    have HF := Lib.hid hf
    clear hf
    by_cases hlt : k < ps.length
    · obtain ⟨⟨v1, a⟩, hp⟩ : ∃ p, ps[k]? = some p := ⟨_, List.getElem?_eq_getElem hlt⟩
      obtain ⟨⟨v2, a2⟩, hq⟩ : ∃ p, qs[k]? = some p := ⟨_, List.getElem?_eq_getElem (by rw [← HLE.out]; exact hlt)⟩
      have hae : a2 = a := by
        have := congrArg (fun l => l[k]?) HE.out
        simp only [List.getElem?_map, hp, hq, Option.map_some, Option.some.injEq] at this
        exact this.symm
      subst hae
      obtain ⟨g1, o1, c1, e1, -, -, l1⟩ := ha.form (by omega)
      have hb' := hb
      obtain ⟨g2, o2, c2, e2, -, -, l2⟩ := hb'.form (by rw [← HLE.out]; omega)
      injection e1 with e1 e1n e1'
      injection e2 with e2 e2n e2'
      clear e1n e2n
      subst e1 e1' e2 e2'
      obtain ⟨x0, x1⟩ := OutsL.at l1 hp
      obtain ⟨y0, y1⟩ := OutsL.at l2 hq
      have hs1 : SlB wr v1 a2.bytes := ha.2 _ (List.mem_of_getElem? hp)
      have hs2 : SlB wr v2 a2.bytes := hb.2 _ (List.mem_of_getElem? hq)
      have q1 := fun n => run_strB (wr.drewN n) _ _ (hs1.fresh ((Keeps.refl _ wr).drewN n))
      have q2 := fun n => run_strB (wr.drewN n) _ _ (hs2.fresh ((Keeps.refl _ wr).drewN n))
      have HAA := Lib.hid ha
      have HBB := Lib.hid hb
      obtain ⟨ab, af⟩ := a2
      simp only at x0 x1 y0 y1 q1 q2
      clear ha hb hb' hs1 hs2 hp hq l1 l2
      go_wp2_with fail
      go_quiet (fail)
      go_wp2_with fail
      go_roundw
      case rel => exact ⟨k + 1, by omega, by go_num, HAA.out.fresh ((Keeps.refl _ wr).drewN _), HBB.out.fresh ((Keeps.refl _ wr).drewN _), HF.out.drewN _⟩
      case measure => simp [intOf]; omega
    · have hks : k = ps.length := by omega
      clear ha hb
      go_wp2_with fail
      go_ret
      exact ⟨rfl, HF.out⟩
end
section
open Go Go.RowKit
set_option linter.unusedVariables false
attribute [local irreducible] Cha.iter Cha.rounds Cha.dbl Cha.qr ckOf CK.ks run runT
theorem outCells_take (ps : List (Value × Ou)) (n : Nat) (j : Nat) (u : Value) (h : (outCells (ps.take n))[j]? = some u) : (outCells ps)[j]? = some u := by
  have e : outCells ps = outCells (ps.take n) ++ outCells (ps.drop n) := by rw [← outCells_append, List.take_append_drop]
  rw [e, List.getElem?_append_left ((List.getElem?_eq_some_iff.1 h).1)]
  exact h
theorem OutsL.take {w : World} {g o c : Nat} {ps : List (Value × Ou)} (n : Nat) (h : Lie w ⟨g, o, none⟩ (outCells ps)) (hs : ∀ q ∈ ps, SlB w q.1 q.2.bytes) (hn : n ≤ ps.length) (hc : ps.length ≤ c) (hm : c ≤ maxLen) : OutsL w (.slice (some ⟨g, o, none⟩) n c) (ps.take n) := by
  have e : (ps.take n).length = n := by rw [List.length_take]; omega
  refine ⟨Or.inr ⟨g, o, c, by rw [e], by omega, hm, ?_⟩, fun q hq => hs q (List.mem_of_mem_take hq)⟩
  intro j u hu
  exact h j u (outCells_take ps n j u hu)
set_option maxRecDepth 100000 in
set_option maxHeartbeats 2000000 in
theorem fnRun_c (v1 v2 vc : Value) (key nonce : List UInt8) (qs : List (Value × St)) (w : World) (h1 : SlB w v1 key) (h2 : SlB w v2 nonce) (l1 : key.length ≤ 140737488351232) (l2 : nonce.length ≤ 140737488351232)
    (hc : StepsL w vc qs) (hq : qs.length ≤ 4398046511104) (hb : ∀ q ∈ qs, q.2.src.length ≤ 140737488351232 ∧ -128 ≤ q.2.room ∧ q.2.room ≤ 127) :
    Calls Try.prog 14 #[v1, v2, vc] w fun e w' => e = .returned (.bool true) ∧ Fresh w w' := by
  by_cases ht : key.length = 32 ∧ (nonce.length = 12 ∨ nonce.length = 24)
  · obtain ⟨hk, hn⟩ := ht
    obtain ⟨bk, ok, ck, rfl, -, -, -, hby⟩ := h1.form (by omega)
    obtain ⟨p2, c2, rfl⟩ := h2.slice
    obtain ⟨pc, cc, rfl⟩ := hc.shape
    rw [hk] at h1 ⊢
    obtain ⟨n2, hn2⟩ : ∃ n, n = nonce.length := ⟨_, rfl⟩
    have HN2 := Lib.hid hn2
    rw [← hn2] at h2 ⊢
    have HTK := Lib.hid (fun (w' : World) => Taken_c (some ⟨bk, ok, none⟩) p2 32 ck n2 c2 w')
    have HDC : Hid (decide ((32 : Nat) = 32 ∧ (n2 = 12 ∨ n2 = 24)) = true) := Lib.hid (decide_eq_true ⟨rfl, by rw [hn2]; exact hn⟩)
    obtain ⟨KK, hKK⟩ : ∃ K, K = ckOf key nonce := ⟨_, rfl⟩
    have HKE := Lib.hid hKK
    have H1 := Lib.hid h1
    have HBY : Hid (BytesAt w bk ok key) := Lib.hid hby
    have H2 := Lib.hid h2
    have HK := Lib.hid hk
    have HN := Lib.hid hn
    have HC := Lib.hid hc
    have HB := Lib.hid hb
    have HQ := Lib.hid hq
    have HL := Lib.hid (And.intro l1 l2)
    clear h1 h2 hk hn hc hb hby hKK hn2 l1 l2
    go_enter Try.func14, Try.ntmps14
    go_wp2_with fail
    refine (Run_good (.slice (some ⟨bk, ok, none⟩) 32 ck) (.slice p2 n2 c2) _ key nonce qs w H1.out H2.out HK.out HN.out HC.out HQ.out (fun q hq => by have := HB.out q hq; omega)).mono ?_
    rintro e w2 ⟨v, ps, rfl, ho, hp, hf⟩
    rw [← HKE.out] at hp
    have HF2 := Lib.hid hf
    have HO2 := Lib.hid ho.sl
    have HP2 := Lib.hid hp
    obtain ⟨pv, cv, rfl⟩ := ho.sl.shape
    clear ho hp hf
    go_wp2_with fail
    refine (HTK.out w2).mono ?_
    rintro e w3 ⟨rfl, hw3⟩
    subst w3
    rw [HDC.out]
    go_wp2_with fail
    refine (RunOf_c bk ok ck (.slice p2 n2 c2) _ key nonce qs w2 HK.out HN.out (HBY.out.keeps HF2.out (fun x => x)) (H2.out.fresh HF2.out) (HC.out.fresh HF2.out) HQ.out HB.out).mono ?_
    rintro e w4 ⟨vr, rs, rfl, ha, hr, hf⟩
    rw [← HKE.out] at hr ⊢
    obtain ⟨t, htt⟩ : ∃ t, t = (runT KK 0 (qs.map (·.2))).2 := ⟨_, rfl⟩
    rw [← htt]
    have HTT := Lib.hid htt
    have HA4 := Lib.hid ha
    have HR4 := Lib.hid hr
    have HF4 := Lib.hid (HF2.out.trans hf)
    have HO4 := Lib.hid (HO2.out.fresh hf)
    clear ha hr hf htt HO2
    cases t with
    | true =>
      have HE : Hid (ps.map (·.2) = rs.map (·.2)) := Lib.hid (by
        rw [HP2.out, HR4.out]
        exact ((runT_run KK (qs.map (·.2)) 0).1 HTT.out.symm).symm)
      go_wp2_with fail
      refine (SameOuts_c _ vr ps rs w4 HO4.out HA4.out HE.out).mono ?_
      rintro e w5 ⟨rfl, hf⟩
      have HF5 := Lib.hid (HF4.out.trans hf)
      clear hf
      go_wp2_with fail
      go_ret
      exact ⟨rfl, HF5.out⟩
    | false =>
      obtain ⟨a, r, hr⟩ := (runT_run KK (qs.map (·.2)) 0).2 HTT.out.symm
      have hps : ps.map (·.2) = rs.map (·.2) ++ a :: r := by rw [HP2.out, HR4.out, hr]
      have hlen : rs.length < ps.length := by
        have := congrArg List.length hps
        simp at this
        omega
      have HE : Hid ((ps.take rs.length).map (·.2) = rs.map (·.2)) := Lib.hid (by
        rw [List.map_take, hps, List.take_append_of_le_length (by simp)]
        rw [List.take_of_length_le (by simp)])
      obtain ⟨g, o, c, he, h1, h2, h3⟩ := HO4.out.form (by omega)
      injection he with e1 e2 e3
      subst e1 e3
      clear e2
      have HA5 := Lib.hid (OutsL.take rs.length h3 HO4.out.2 (by omega) h1 h2)
      obtain ⟨pr, cr, rfl⟩ := HA4.out.shape
      have hgt : (rs.length : Int) < (ps.length : Int) := by omega
      have hle : (rs.length : Int) ≤ (cv : Int) := by omega
      clear hps hlen h3 hr h1 h2
      go_wp2_with fail
      refine (SameOuts_c _ _ _ rs w4 HA5.out HA4.out HE.out).mono ?_
      rintro e w5 ⟨rfl, hf⟩
      have HF5 := Lib.hid (HF4.out.trans hf)
      clear hf
      go_wp2_with fail
      go_ret
      exact ⟨rfl, HF5.out⟩
  · obtain ⟨p1, c1, rfl⟩ := h1.slice
    obtain ⟨p2, c2, rfl⟩ := h2.slice
    obtain ⟨n1, hn1⟩ : ∃ n, n = key.length := ⟨_, rfl⟩
    obtain ⟨n2, hn2⟩ : ∃ n, n = nonce.length := ⟨_, rfl⟩
    have HX := Lib.hid (Run_bad (.slice p1 key.length c1) (.slice p2 nonce.length c2) vc key nonce w h1 h2 (by omega) (by omega) ht)
    rw [← hn1, ← hn2] at HX ht ⊢
    obtain ⟨pc, cc, rfl⟩ := hc.shape
    have HTK := Lib.hid (fun (w' : World) => Taken_c p1 p2 n1 c1 n2 c2 w')
    have HDC : Hid (decide (n1 = 32 ∧ (n2 = 12 ∨ n2 = 24)) = false) := Lib.hid (decide_eq_false ht)
    clear h1 h2 hc hb hq l1 l2 ht hn1 hn2
    go_enter Try.func14, Try.ntmps14
    go_wp2_with fail
    refine HX.out.mono ?_
    rintro e w2 ⟨rfl, hf⟩
    have HF2 := Lib.hid hf
    clear hf
    go_wp2_with fail
    refine (HTK.out w2).mono ?_
    rintro e w3 ⟨rfl, hw3⟩
    subst w3
    rw [HDC.out]
    go_wp2_with fail
    go_ret
    exact ⟨rfl, HF2.out⟩
end
section
section
open Go Go.RowKit Go.ChangeShapes Go.WideShapes Go.ChangeAt
theorem own : ownKnob Try.prog.godebug = none := by kernel_rfl
theorem laidOut : laidOutB Try.prog = true := by kernel_rfl
theorem cellsByte : Try.prog.cellsOf 5 = 1 := by kernel_rfl
theorem bytesByte : Try.prog.bytesOf 5 = 1 := by kernel_rfl
theorem u8_ofInt {n : Int} (h : (Lit.int .u8 n).wf = true) : u8 (UInt8.ofNat n.toNat) = n := by
  have hx : 0 ≤ n ∧ n ≤ 255 := by simpa [Lit.wf, IntKind.min, IntKind.max, IntKind.signed, IntKind.bits] using h
  unfold u8
  rw [UInt8.toNat_ofNat']
  omega
/-- the bytes of a list of numbers -/
def bytesOfInts (zs : List Int) : List UInt8 := zs.map fun n => UInt8.ofNat n.toNat
/-- a slice of bytes that came in reads as bytes; its capacity is told by its datum -/
theorem open_bytes {H : Type} {enc : TypeId × Value → H} {W : World} {base : Nat} {held : Bool} {a : Option Addr} {n c : Nat} {d : DataW H} {p : List MemPlace}
    (h : DataW.Trod enc Try.prog W base (fun _ => true) held 22 (.slice a n c) d p) :
    ∃ l : List UInt8, SlB W (.slice a n c) l ∧ l.length = n ∧ ((n = 0 ∧ c = 0) ∨ ∃ elems spare, d = .slice elems spare ∧ elems.length + spare.length = c ∧ n ≤ c) := by
  obtain ⟨fuel, hf⟩ := h
  rcases open_ints Try.underlying22 Try.underlying5 cellsByte hf with ⟨hcs, _⟩ | ⟨x, l, cc, zs, hcs, _, hl, hm, hz, hx, hcell, hwz⟩
  · simp [Value.cells] at hcs
    obtain ⟨rfl, rfl, rfl⟩ := hcs
    exact ⟨[], SlB.nil W, rfl, Or.inl ⟨rfl, rfl⟩⟩
  · simp [Value.cells] at hcs
    obtain ⟨rfl, rfl, rfl⟩ := hcs
    have hz' : zs.length = c := by simpa using hz
    refine ⟨bytesOfInts (zs.take n), ?_, ?_, Or.inr ?_⟩
    · refine Or.inr ⟨x, c, ?_, ?_, hm, ?_⟩
      · simp [bytesOfInts, hz', Nat.min_eq_left hl]
      · simp [bytesOfInts]; omega
      · intro j u hu
        have hj : j < n := by
          have := (List.getElem?_eq_some_iff.1 hu).1
          rw [vals8_len] at this
          simp [bytesOfInts] at this
          omega
        rw [hcell j (by omega)]
        simp only [vals8, bytesOfInts, List.map_map, List.getElem?_map, List.getElem?_take, hj, if_true] at hu
        have hjz : j < zs.length := by omega
        rw [List.getElem?_eq_getElem hjz] at hu
        simp only [Option.map_some, Option.some.injEq, Function.comp] at hu
        rw [← hu, u8_ofInt (hwz _ (List.getElem_mem hjz))]
        simp [List.getD, List.getElem?_eq_getElem hjz]
    · simp [bytesOfInts, hz', Nat.min_eq_left hl]
    · simp only [Prod.mk.injEq] at hx
      obtain ⟨hd, _⟩ := hx
      exact ⟨_, _, hd, by simp [lits]; omega, hl⟩
end
section
open Go Go.RowKit Go.ChangeShapes Go.WideShapes Go.ChangeAt
/-- an array of bytes that came in -/
theorem open_arr {P : Program} {H : Type} {enc : TypeId × Value → H} {W : World} {base : Nat} {held : Bool} {T e8 : TypeId} {n : Nat} {v : Value} {d : DataW H} {p : List MemPlace}
    (hu : P.underlying T = some (.array n e8)) (h8 : P.underlying e8 = some (.int .u8)) (hce : P.cellsOf e8 = 1) (hc : P.cellsOf T = n) (hok : Value.okWide P W .any base T v)
    (h : DataW.Trod enc P W 0 (fun _ => true) held T v d p) : ∃ l : List UInt8, l.length = n ∧ v = .agg (cells8 l) := by
  obtain ⟨cs, rfl, hsz, _⟩ : ∃ cs, v = .agg cs ∧ cs.size = P.cellsOf T ∧ Row.okWide P W .any base T cs := by
    simpa [Value.okWide, hu] using hok
  rw [hc] at hsz
  obtain ⟨fuel, hf⟩ := h
  obtain ⟨xs, m, -, -, -, hxl, hx⟩ := DataW.trod_array hu hf
  have hcells : (Value.agg cs).cells.toList = cs.toList := rfl
  rw [hcells, hce] at hx
  have hcell : ∀ i, (hi : i < cs.toList.length) → ∃ z, cs.toList[i] = .int .u8 z ∧ (Lit.int .u8 z).wf = true := by
    intro i hi
    have hi' : i < n := by rw [← hsz]; simpa using hi
    have h1 := hx i hi'
    rw [Nat.mul_one, List.drop_eq_getElem_cons hi, List.take_succ_cons, List.take_zero, List.getElem?_eq_getElem (by omega)] at h1
    obtain ⟨x0, e0, -, w0⟩ := DataW.trod_int h8 h1
    simp only [List.cons.injEq, and_true] at e0
    exact ⟨x0, e0, w0⟩
  refine ⟨cs.toList.map fun c => match c with | .int _ z => UInt8.ofNat z.toNat | _ => 0, by simpa using hsz, ?_⟩
  congr 1
  unfold cells8
  rw [List.map_map]
  apply Array.toList_inj.1
  apply List.ext_getElem
  · simp
  · intro i h1 h2
    obtain ⟨z, e, hw⟩ := hcell i h1
    simp only [List.getElem_map, Function.comp, e]
    rw [u8_ofInt hw]
end
section
open Go Go.RowKit Go.ChangeShapes Go.WideShapes Go.ChangeAt
theorem open_u8 {P : Program} {H : Type} {enc : TypeId × Value → H} {W : World} {base base' : Nat} {sp : Nat → Bool} {held : Bool} {T : TypeId} {v : Value} {d : DataW H} {p : List MemPlace} (hu : P.underlying T = some (.int .u8))
    (h : DataW.Trod enc P W base' sp held T v d p) (hok : Value.okWide P W .any base T v) : ∃ x : UInt8, v = .int .u8 (u8 x) := by
  obtain ⟨n, rfl, -, -, hw⟩ := open_int hu hok h
  exact ⟨UInt8.ofNat n.toNat, by rw [u8_ofInt hw]⟩
theorem u32_ofInt {n : Int} (h : (Lit.int .u32 n).wf = true) : u32 (UInt32.ofNat n.toNat) = n := by
  have hx : 0 ≤ n ∧ n ≤ 4294967295 := by simpa [Lit.wf, IntKind.min, IntKind.max, IntKind.signed, IntKind.bits] using h
  unfold u32
  rw [UInt32.toNat_ofNat']
  omega
theorem open_u32 {P : Program} {H : Type} {enc : TypeId × Value → H} {W : World} {base base' : Nat} {sp : Nat → Bool} {held : Bool} {T : TypeId} {v : Value} {d : DataW H} {p : List MemPlace} (hu : P.underlying T = some (.int .u32))
    (h : DataW.Trod enc P W base' sp held T v d p) (hok : Value.okWide P W .any base T v) : ∃ x : UInt32, v = .int .u32 (u32 x) := by
  obtain ⟨n, rfl, -, -, hw⟩ := open_int hu hok h
  exact ⟨UInt32.ofNat n.toNat, by rw [u32_ofInt hw]⟩
end
end
section
open Go Go.RowKit Go.ChangeShapes Go.WideShapes Go.ChangeAt
attribute [local irreducible] Cha.iter Cha.rounds Cha.dbl Cha.qr
theorem bytesStep : Try.prog.bytesOf 35 = 48 := by kernel_rfl
theorem cellsStep : Try.prog.cellsOf 35 = 4 := by kernel_rfl
theorem weights_all_mem {H : Type} {P : Program} {e : TypeId} {d : DataW H} : ∀ {l : List (DataW H)}, d ∈ l → ∀ n ∈ d.weights P e, n ∈ DataW.weightsAll P e l
  | x :: r, hd, n, hn => by
    simp only [DataW.weightsAll, List.mem_append]
    rcases List.mem_cons.1 hd with rfl | hd
    · exact Or.inl hn
    · exact Or.inr (weights_all_mem hd n hn)
  | [], hd, _, _ => by cases hd
set_option maxRecDepth 100000 in
/-- a slice of steps that came in -/
theorem open_steps {H : Type} {enc : TypeId × Value → H} {W : World} {base : Nat} {held : Bool} {a : Option Addr} {n c : Nat} {d : DataW H} {p : List MemPlace} {ts : List TypeId} {ds : List (DataW H)} {j : Nat}
    (h : DataW.Trod enc Try.prog W base (fun _ => true) held 45 (.slice a n c) d p) (hsz : (DataW.weightsEach Try.prog ts ds).all (· ≤ reachBytes) = true) (hj : ts[j]? = some 45) (hd : ds[j]? = some d) :
    ∃ qs : List (Value × St), qs.length = n ∧ StepsL W (.slice a n c) qs ∧ qs.length ≤ 4398046511104 ∧ ∀ q ∈ qs, q.2.src.length ≤ 140737488351232 ∧ -128 ≤ q.2.room ∧ q.2.room ≤ 127 := by
  obtain ⟨fuel, hf⟩ := h
  rcases Deep.open_slice Try.underlying45 hf with ⟨hcs, hx⟩ | ⟨ad, len, cap, m, k, D, Pl, hcs, hb, hl, hm, hmm, hx, hc⟩
  · simp [Value.cells] at hcs
    obtain ⟨rfl, rfl, rfl⟩ := hcs
    exact ⟨[], rfl, ⟨Or.inl ⟨rfl, rfl⟩, fun _ h => by cases h⟩, by simp, fun _ h => by cases h⟩
  · simp [Value.cells] at hcs
    obtain ⟨rfl, rfl, rfl⟩ := hcs
    simp only [if_true] at hmm
    subst hmm
    simp only [Prod.mk.injEq] at hx
    have hw : ∀ n ∈ DataW.weights Try.prog 45 d, n ≤ reachBytes := fun n hn => by
      have := List.all_eq_true.1 hsz _ (DataW.weights_mem_each hj hd n hn)
      simpa using this
    rw [hx.1] at hw
    have each : ∀ i, i < n → ∃ q : Value × St, W.cell? (ad.add (i * 4)) = some (.int .i64 q.2.kind) ∧ W.cell? (ad.add (i * 4 + 1)) = some (.int .u32 (u32 q.2.counter)) ∧ W.cell? (ad.add (i * 4 + 2)) = some q.1 ∧ W.cell? (ad.add (i * 4 + 3)) = some (.int .i8 q.2.room) ∧
        SlB W q.1 q.2.src ∧ q.2.src.length ≤ 140737488351232 ∧ -128 ≤ q.2.room ∧ q.2.room ≤ 127 := by
      intro i hi
      obtain ⟨cs', h1, h2⟩ := hc i (by omega)
      rw [cellsStep] at h1
      obtain ⟨_, hlen, hcell⟩ := World.cells?_some h1
      obtain ⟨xs, k', hk, hxy, _, hxl, hf'⟩ := DataW.trod_struct Try.underlying35 h2
      match xs, hxl, cs', hlen with
      | [y0, y1, y2, y3], _, [v0, v1, v2, v3], _ =>
        have e0 := hcell 0 (by omega)
        have e1 := hcell 1 (by omega)
        have e2 := hcell 2 (by omega)
        have e3 := hcell 3 (by omega)
        rw [Deep.add_add] at e0 e1 e2 e3
        have i0 : Try.prog.cellsOf 3 = 1 := by kernel_rfl
        have i1 : Try.prog.cellsOf 29 = 1 := by kernel_rfl
        have i2 : Try.prog.cellsOf 22 = 1 := by kernel_rfl
        have i3 : Try.prog.cellsOf 33 = 1 := by kernel_rfl
        have g0 : DataW.trod enc Try.prog W base (fun _ => true) held k' 3 [v0] = some y0 := by have this : DataW.trod enc Try.prog W base (fun _ => true) held k' 3 (([v0, v1, v2, v3].drop 0).take (Try.prog.cellsOf 3)) = some y0 := hf' 0 _ rfl; rw [i0] at this; exact this
        have g1 : DataW.trod enc Try.prog W base (fun _ => true) held k' 29 [v1] = some y1 := by have this : DataW.trod enc Try.prog W base (fun _ => true) held k' 29 (([v0, v1, v2, v3].drop 1).take (Try.prog.cellsOf 29)) = some y1 := hf' 1 _ rfl; rw [i1] at this; exact this
        have g2 : DataW.trod enc Try.prog W base (fun _ => true) held k' 22 [v2] = some y2 := by have this : DataW.trod enc Try.prog W base (fun _ => true) held k' 22 (([v0, v1, v2, v3].drop 2).take (Try.prog.cellsOf 22)) = some y2 := hf' 2 _ rfl; rw [i2] at this; exact this
        have g3 : DataW.trod enc Try.prog W base (fun _ => true) held k' 33 [v3] = some y3 := by have this : DataW.trod enc Try.prog W base (fun _ => true) held k' 33 (([v0, v1, v2, v3].drop 3).take (Try.prog.cellsOf 33)) = some y3 := hf' 3 _ rfl; rw [i3] at this; exact this
        obtain ⟨z0, c0, -, -⟩ := DataW.trod_int Try.underlying3 g0
        obtain ⟨z1, c1, -, w1⟩ := DataW.trod_int Try.underlying29 g1
        obtain ⟨z3, c3, -, w3⟩ := DataW.trod_int Try.underlying33 g3
        simp only [List.cons.injEq, and_true] at c0 c1 c3
        subst c0 c1 c3
        have hv : ∃ a n c, v2 = .slice a n c := by
          rcases DataW.trod_slice Try.underlying22 g2 with ⟨e, -⟩ | ⟨a, len, cap, _, _, _, _, e, _⟩
          · simp at e; exact ⟨_, _, _, e⟩
          · simp at e; exact ⟨_, _, _, e⟩
        obtain ⟨a2, n2, c2, rfl⟩ := hv
        obtain ⟨l, hs, hl2, hb2⟩ := open_bytes (enc := enc) (W := W) (base := base) (held := held) (a := a2) (n := n2) (c := c2) (d := y2.1) (p := y2.2) ⟨_, g2⟩
        have hlen2 : l.length ≤ 140737488351232 := by
          rcases hb2 with ⟨h0, -⟩ | ⟨elems, spare, hy, hcc, hn2⟩
          · omega
          · have hmem : (elems.length + spare.length) * Try.prog.bytesOf 5 ∈ DataW.weights Try.prog 35 (D i) := by
              simp only [Prod.mk.injEq] at hxy
              rw [hxy.1]
              simp only [DataW.weights, Try.underlying35, List.map_cons, List.map_nil]
              simp only [DataW.weightsEach, List.mem_append, hy]
              refine Or.inr (Or.inr (Or.inl ?_))
              simp [DataW.weights, Try.underlying22]
            have := hw _ (by
              simp only [DataW.weights, Try.underlying45, List.mem_cons, List.mem_append]
              exact Or.inr (Or.inl (weights_all_mem (List.mem_map.2 ⟨i, List.mem_range.2 hi, rfl⟩) _ hmem)))
            rw [bytesByte] at this
            simp only [reachBytes] at this
            omega
        have hr : -128 ≤ z3 ∧ z3 ≤ 127 := by simpa [Lit.wf, IntKind.min, IntKind.max, IntKind.signed, IntKind.bits] using w3
        refine ⟨(.slice a2 n2 c2, ⟨z0, UInt32.ofNat z1.toNat, l, z3⟩), by simpa using e0, ?_, by simpa using e2, by simpa using e3, hs, hlen2, hr⟩
        simp only
        rw [u32_ofInt w1]
        simpa using e1
    haveI : Inhabited (Value × St) := ⟨(.slice none 0 0, ⟨0, 0, [], 0⟩)⟩
    obtain ⟨g, hg⟩ := Deep.choose_lt each
    have hq : ∀ i, i < n → ((List.range n).map g)[i]? = some (g i) := fun i hi => by simp [hi]
    refine ⟨(List.range n).map g, by simp, ⟨Or.inr ⟨ad, m, by simp, by simpa using hl, hm, ?_⟩, ?_⟩, ?_, ?_⟩
    · intro j u hu
      have hj : j < n * 4 := by
        have := (List.getElem?_eq_some_iff.1 hu).1
        rw [stepCells_len] at this
        simpa using this
      have hi : j / 4 < n := by omega
      obtain ⟨h0, h1, h2, h3, -⟩ := hg (j / 4) hi
      obtain ⟨g0, g1, g2, g3⟩ := stepCells_get ((List.range n).map g) (j / 4) _ (hq _ hi)
      have hm4 : j % 4 = 0 ∨ j % 4 = 1 ∨ j % 4 = 2 ∨ j % 4 = 3 := by omega
      rcases hm4 with hm4 | hm4 | hm4 | hm4
      · have e : 4 * (j / 4) = j := by omega
        have e' : j / 4 * 4 = j := by omega
        rw [e] at g0
        rw [e'] at h0
        rw [← hu, g0, h0]
      · have e : 4 * (j / 4) + 1 = j := by omega
        have e' : j / 4 * 4 + 1 = j := by omega
        rw [e] at g1
        rw [e'] at h1
        rw [← hu, g1, h1]
      · have e : 4 * (j / 4) + 2 = j := by omega
        have e' : j / 4 * 4 + 2 = j := by omega
        rw [e] at g2
        rw [e'] at h2
        rw [← hu, g2, h2]
      · have e : 4 * (j / 4) + 3 = j := by omega
        have e' : j / 4 * 4 + 3 = j := by omega
        rw [e] at g3
        rw [e'] at h3
        rw [← hu, g3, h3]
    · intro q hqm
      obtain ⟨i, hi, rfl⟩ := List.mem_map.1 hqm
      exact (hg i (List.mem_range.1 hi)).2.2.2.2.1
    · have := hw _ (by
        simp only [DataW.weights, Try.underlying45]
        exact List.mem_cons_self)
      rw [bytesStep] at this
      simp only [reachBytes, List.length_map, List.length_range] at this ⊢
      omega
    · intro q hqm
      obtain ⟨i, hi, rfl⟩ := List.mem_map.1 hqm
      exact (hg i (List.mem_range.1 hi)).2.2.2.2.2
end
end Go.Proofs.Ytaapglpnofmmlaa
