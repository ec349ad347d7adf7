/-
  Contracts: bits.RotateLeft32, chacha20.quarterRound, spec.turn, spec.quarter.
-/
import Derived.Test.YtlafnkcmdnfcpaaRows
import Derived.Test.YtlafnkcmdnfcpaaMem
import Derived.Test.YtlafnkcmdnfcpaaCha
import Derived.WalkLawsBesides
import Derived.Deep.QuietTactic
import Derived.BigQuiet
namespace Go.Proofs.Ytlafnkcmdnfcpaa
open Go Go.RowKit
theorem and31_16 : bits .and .u64 16 31 = 16 := by decide +kernel
theorem and31_12 : bits .and .u64 12 31 = 12 := by decide +kernel
theorem and31_8 : bits .and .u64 8 31 = 8 := by decide +kernel
theorem and31_7 : bits .and .u64 7 31 = 7 := by decide +kernel
attribute [local go_sem] and31_16 and31_12 and31_8 and31_7
set_option maxHeartbeats 400000 in
theorem quarterRound_c (a b c d : UInt32) (w : World) : Calls Try.prog 79 #[.int .u32 (u32 a), .int .u32 (u32 b), .int .u32 (u32 c), .int .u32 (u32 d)] w fun e w' =>
    e = .returned (.tuple #[.int .u32 (u32 (Cha.qr a b c d).a), .int .u32 (u32 (Cha.qr a b c d).b), .int .u32 (u32 (Cha.qr a b c d).c), .int .u32 (u32 (Cha.qr a b c d).d)]) ∧ w = w' := by
  go_enter Try.func79, Try.ntmps79
  go_wp2
  refine bodyPost_ret (by simp [results, Try.results79, go_sem]; rfl) rfl ?_
  exact ⟨rfl, rfl⟩
theorem turn_16 (x : UInt32) (w : World) : Calls Try.prog 89 #[.int .u32 (u32 x), .int .i64 16] w fun e w' => e = .returned (.int .u32 (u32 (Cha.rot x 16))) ∧ ∃ n, w' = w.drewN n := by
  go_enter Try.func89, Try.ntmps89
  go_wp2
  go_quiet (fail)
  go_wp2
  go_ret
  exact ⟨rfl, _, rfl⟩
theorem turn_12 (x : UInt32) (w : World) : Calls Try.prog 89 #[.int .u32 (u32 x), .int .i64 12] w fun e w' => e = .returned (.int .u32 (u32 (Cha.rot x 12))) ∧ ∃ n, w' = w.drewN n := by
  go_enter Try.func89, Try.ntmps89
  go_wp2
  go_quiet (fail)
  go_wp2
  go_ret
  exact ⟨rfl, _, rfl⟩
theorem turn_8 (x : UInt32) (w : World) : Calls Try.prog 89 #[.int .u32 (u32 x), .int .i64 8] w fun e w' => e = .returned (.int .u32 (u32 (Cha.rot x 8))) ∧ ∃ n, w' = w.drewN n := by
  go_enter Try.func89, Try.ntmps89
  go_wp2
  go_quiet (fail)
  go_wp2
  go_ret
  exact ⟨rfl, _, rfl⟩
theorem turn_7 (x : UInt32) (w : World) : Calls Try.prog 89 #[.int .u32 (u32 x), .int .i64 7] w fun e w' => e = .returned (.int .u32 (u32 (Cha.rot x 7))) ∧ ∃ n, w' = w.drewN n := by
  go_enter Try.func89, Try.ntmps89
  go_wp2
  go_quiet (fail)
  go_wp2
  go_ret
  exact ⟨rfl, _, rfl⟩
theorem quarter_sets {α : Type} (l : List α) (i j k m : Nat) (_hij : ¬ i = j) (_hik : ¬ i = k) (_him : ¬ i = m) (_hjk : ¬ j = k) (_hjm : ¬ j = m) (_hkm : ¬ k = m) (a1 a2 b1 b2 c1 c2 d1 d2 : α) :
    (((((((l.set i a1).set m d1).set k c1).set j b1).set i a2).set m d2).set k c2).set j b2 = (((l.set i a2).set j b2).set k c2).set m d2 := by
  apply List.ext_getElem?
  intro t
  simp only [List.getElem?_set, List.length_set]
  by_cases h1 : i = t <;> by_cases h2 : j = t <;> by_cases h3 : k = t <;> by_cases h4 : m = t <;> simp [h1, h2, h3, h4] <;> omega
theorem quarter_exp (l : List UInt32) (i j k m : Nat) (x y z t : UInt32) (hx : l.getD i 0 = x) (hy : l.getD j 0 = y) (hz : l.getD k 0 = z) (ht : l.getD m 0 = t) :
    Cha.quarter l i j k m = (((l.set i ((x + y) + (Cha.rot (y ^^^ (z + (Cha.rot (t ^^^ (x + y)) 16))) 12))).set j (Cha.rot ((Cha.rot (y ^^^ (z + (Cha.rot (t ^^^ (x + y)) 16))) 12) ^^^ ((z + (Cha.rot (t ^^^ (x + y)) 16)) + (Cha.rot ((Cha.rot (t ^^^ (x + y)) 16) ^^^ ((x + y) + (Cha.rot (y ^^^ (z + (Cha.rot (t ^^^ (x + y)) 16))) 12))) 8))) 7)).set k ((z + (Cha.rot (t ^^^ (x + y)) 16)) + (Cha.rot ((Cha.rot (t ^^^ (x + y)) 16) ^^^ ((x + y) + (Cha.rot (y ^^^ (z + (Cha.rot (t ^^^ (x + y)) 16))) 12))) 8))).set m (Cha.rot ((Cha.rot (t ^^^ (x + y)) 16) ^^^ ((x + y) + (Cha.rot (y ^^^ (z + (Cha.rot (t ^^^ (x + y)) 16))) 12))) 8) := by
  subst hx; subst hy; subst hz; subst ht; rfl
set_option maxRecDepth 100000 in
set_option maxHeartbeats 1200000 in
theorem quarter_c (b : Nat) (T : TypeId) (l : List UInt32) (i j k m : Nat) (w : World) (hi : (i : Int) < 16) (hj : (j : Int) < 16) (hk : (k : Int) < 16) (hm : (m : Int) < 16)
    (hij : ¬ i = j) (hik : ¬ i = k) (him : ¬ i = m) (hjk : ¬ j = k) (hjm : ¬ j = m) (hkm : ¬ k = m) (hl : l.length = 16) (hb : w.heap[b]? = some (.cells (cells32 l) T (0, 0))) :
    Calls Try.prog 81 #[.pointer (some ⟨b, 0, none⟩), .int .i64 i, .int .i64 j, .int .i64 k, .int .i64 m] w fun e w' =>
      e = .returned (.tuple #[]) ∧ w'.heap[b]? = some (.cells (cells32 (Cha.quarter l i j k m)) T (0, 0)) ∧ Keeps (fun q => q = b) w w' := by
  have ci : w.cell? ⟨b, i, none⟩ = some (.int .u32 (u32 (l.getD i 0))) := by rw [cell_block hb]; exact cells32_get (by omega)
  have cj : w.cell? ⟨b, j, none⟩ = some (.int .u32 (u32 (l.getD j 0))) := by rw [cell_block hb]; exact cells32_get (by omega)
  have ck : w.cell? ⟨b, k, none⟩ = some (.int .u32 (u32 (l.getD k 0))) := by rw [cell_block hb]; exact cells32_get (by omega)
  have cm : w.cell? ⟨b, m, none⟩ = some (.int .u32 (u32 (l.getD m 0))) := by rw [cell_block hb]; exact cells32_get (by omega)
  have fz : ∀ o, w.frozen? ⟨b, o, none⟩ = false := free_block hb
  have HB : Hid (w.heap[b]? = some (.cells (cells32 l) T (0, 0))) := hb
  have HL : Hid (l.length = 16) := hl
  generalize hx : l.getD i 0 = x at *
  generalize hy : l.getD j 0 = y at *
  generalize hz : l.getD k 0 = z at *
  generalize ht : l.getD m 0 = t at *
  have HQ' : Hid (Cha.quarter l i j k m = (((l.set i ((x + y) + (Cha.rot (y ^^^ (z + (Cha.rot (t ^^^ (x + y)) 16))) 12))).set j (Cha.rot ((Cha.rot (y ^^^ (z + (Cha.rot (t ^^^ (x + y)) 16))) 12) ^^^ ((z + (Cha.rot (t ^^^ (x + y)) 16)) + (Cha.rot ((Cha.rot (t ^^^ (x + y)) 16) ^^^ ((x + y) + (Cha.rot (y ^^^ (z + (Cha.rot (t ^^^ (x + y)) 16))) 12))) 8))) 7)).set k ((z + (Cha.rot (t ^^^ (x + y)) 16)) + (Cha.rot ((Cha.rot (t ^^^ (x + y)) 16) ^^^ ((x + y) + (Cha.rot (y ^^^ (z + (Cha.rot (t ^^^ (x + y)) 16))) 12))) 8))).set m (Cha.rot ((Cha.rot (t ^^^ (x + y)) 16) ^^^ ((x + y) + (Cha.rot (y ^^^ (z + (Cha.rot (t ^^^ (x + y)) 16))) 12))) 8)) := quarter_exp l i j k m x y z t hx hy hz ht
  clear hb hl hx hy hz ht
  go_enter Try.func81, Try.ntmps81
  go_wp2
  refine wp_region_tailD 13 (by kernel_rfl) (by kernel_rfl) ?_
  simp only [List.take_succ_cons, List.take_zero, List.drop_succ_cons, List.drop_zero]
  repeat (quiet_step (fail))
  refine wpQuiet_nil ?_
  rintro _ ⟨n0, rfl⟩
  go_wp2
  refine wp_region_tailD 16 (by kernel_rfl) (by kernel_rfl) ?_
  simp only [List.take_succ_cons, List.take_zero, List.drop_succ_cons, List.drop_zero]
  repeat (quiet_step ((go_at_call 89; exact quiet_more (turn_16 _ _))))
  refine wpQuiet_nil ?_
  rintro _ ⟨n1, rfl⟩
  go_wp2
  refine wp_region_tailD 13 (by kernel_rfl) (by kernel_rfl) ?_
  simp only [List.take_succ_cons, List.take_zero, List.drop_succ_cons, List.drop_zero]
  repeat (quiet_step (fail))
  refine wpQuiet_nil ?_
  rintro _ ⟨n2, rfl⟩
  go_wp2
  refine wp_region_tailD 16 (by kernel_rfl) (by kernel_rfl) ?_
  simp only [List.take_succ_cons, List.take_zero, List.drop_succ_cons, List.drop_zero]
  repeat (quiet_step ((go_at_call 89; exact quiet_more (turn_12 _ _))))
  refine wpQuiet_nil ?_
  rintro _ ⟨n3, rfl⟩
  go_wp2
  refine wp_region_tailD 13 (by kernel_rfl) (by kernel_rfl) ?_
  simp only [List.take_succ_cons, List.take_zero, List.drop_succ_cons, List.drop_zero]
  repeat (quiet_step (fail))
  refine wpQuiet_nil ?_
  rintro _ ⟨n4, rfl⟩
  go_wp2
  refine wp_region_tailD 16 (by kernel_rfl) (by kernel_rfl) ?_
  simp only [List.take_succ_cons, List.take_zero, List.drop_succ_cons, List.drop_zero]
  repeat (quiet_step ((go_at_call 89; exact quiet_more (turn_8 _ _))))
  refine wpQuiet_nil ?_
  rintro _ ⟨n5, rfl⟩
  go_wp2
  refine wp_region_tailD 13 (by kernel_rfl) (by kernel_rfl) ?_
  simp only [List.take_succ_cons, List.take_zero, List.drop_succ_cons, List.drop_zero]
  repeat (quiet_step (fail))
  refine wpQuiet_nil ?_
  rintro _ ⟨n6, rfl⟩
  go_wp2
  refine wp_region_tailD 16 (by kernel_rfl) (by kernel_rfl) ?_
  simp only [List.take_succ_cons, List.take_zero, List.drop_succ_cons, List.drop_zero]
  repeat (quiet_step ((go_at_call 89; exact quiet_more (turn_7 _ _))))
  refine wpQuiet_nil ?_
  rintro _ ⟨n7, rfl⟩
  go_wp2
  go_end0
  have e0 := HB.out
  have e1 := block_set (i := i) (v := .int .u32 (u32 (x + y))) e0
  rw [cells32_set] at e1
  have e2 := block_set (i := m) (v := .int .u32 (u32 (Cha.rot (t ^^^ (x + y)) 16))) e1
  rw [cells32_set] at e2
  have e3 := block_set (i := k) (v := .int .u32 (u32 (z + (Cha.rot (t ^^^ (x + y)) 16)))) e2
  rw [cells32_set] at e3
  have e4 := block_set (i := j) (v := .int .u32 (u32 (Cha.rot (y ^^^ (z + (Cha.rot (t ^^^ (x + y)) 16))) 12))) e3
  rw [cells32_set] at e4
  have e5 := block_set (i := i) (v := .int .u32 (u32 ((x + y) + (Cha.rot (y ^^^ (z + (Cha.rot (t ^^^ (x + y)) 16))) 12)))) e4
  rw [cells32_set] at e5
  have e6 := block_set (i := m) (v := .int .u32 (u32 (Cha.rot ((Cha.rot (t ^^^ (x + y)) 16) ^^^ ((x + y) + (Cha.rot (y ^^^ (z + (Cha.rot (t ^^^ (x + y)) 16))) 12))) 8))) e5
  rw [cells32_set] at e6
  have e7 := block_set (i := k) (v := .int .u32 (u32 ((z + (Cha.rot (t ^^^ (x + y)) 16)) + (Cha.rot ((Cha.rot (t ^^^ (x + y)) 16) ^^^ ((x + y) + (Cha.rot (y ^^^ (z + (Cha.rot (t ^^^ (x + y)) 16))) 12))) 8)))) e6
  rw [cells32_set] at e7
  have e8 := block_set (i := j) (v := .int .u32 (u32 (Cha.rot ((Cha.rot (y ^^^ (z + (Cha.rot (t ^^^ (x + y)) 16))) 12) ^^^ ((z + (Cha.rot (t ^^^ (x + y)) 16)) + (Cha.rot ((Cha.rot (t ^^^ (x + y)) 16) ^^^ ((x + y) + (Cha.rot (y ^^^ (z + (Cha.rot (t ^^^ (x + y)) 16))) 12))) 8))) 7))) e7
  rw [cells32_set] at e8
  refine ⟨rfl, ?_, ?_⟩
  · rw [HQ'.out]
    rw [quarter_sets l i j k m hij hik him hjk hjm hkm] at e8
    rw [World.heap_drewN]
    exact e8
  · exact (((((((((Keeps.refl _ w).own _).own _).own _).own _).own _).own _).own _).own _).drewN _
/-- the same, the places written as the walk writes them -/
theorem quarter_at (b : Nat) (T : TypeId) (l : List UInt32) (i j k m : Nat) (I J K M : Int) (eI : (i : Int) = I) (eJ : (j : Int) = J) (eK : (k : Int) = K) (eM : (m : Int) = M) (w : World)
    (h : i < 16 ∧ j < 16 ∧ k < 16 ∧ m < 16 ∧ ¬ i = j ∧ ¬ i = k ∧ ¬ i = m ∧ ¬ j = k ∧ ¬ j = m ∧ ¬ k = m) (hl : l.length = 16) (hb : w.heap[b]? = some (.cells (cells32 l) T (0, 0))) :
    Calls Try.prog 81 #[.pointer (some ⟨b, 0, none⟩), .int .i64 I, .int .i64 J, .int .i64 K, .int .i64 M] w fun e w' =>
      e = .returned (.tuple #[]) ∧ w'.heap[b]? = some (.cells (cells32 (Cha.quarter l i j k m)) T (0, 0)) ∧ Keeps (fun q => q = b) w w' := by
  subst eI eJ eK eM
  obtain ⟨h1, h2, h3, h4, h5, h6, h7, h8, h9, h10⟩ := h
  exact quarter_c b T l i j k m w (by omega) (by omega) (by omega) (by omega) h5 h6 h7 h8 h9 h10 hl hb
end Go.Proofs.Ytlafnkcmdnfcpaa
