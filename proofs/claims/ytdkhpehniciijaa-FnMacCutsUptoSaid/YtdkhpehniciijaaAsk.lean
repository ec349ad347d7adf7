/-
  Contract: impl.ask.
-/
import Derived.Test.YtdkhpehniciijaaSessP
import Derived.Defers
import Derived.Recover
namespace Go.Proofs.Ytdkhpehniciijaa
open Go Go.RowKit
attribute [local irreducible] tagK
/-- an answer as a value -/
def anV (v : Value) (a : An) : Value := .agg #[v, .int .i64 a.n, .bool a.is, .bool a.failed]
theorem four_set {w : World} {p : Nat} {a0 a1 a2 a3 : Value} {T : TypeId} (hb : w.heap[p]? = some (.cells #[a0, a1, a2, a3] T (0, 0))) (b0 b1 b2 b3 : Value) :
    ((((w.setCell ⟨p, 0, none⟩ b0).setCell ⟨p, 1, none⟩ b1).setCell ⟨p, 2, none⟩ b2).setCell ⟨p, 3, none⟩ b3).heap[p]? = some (.cells #[b0, b1, b2, b3] T (0, 0)) := by
  have e1 := block_set (i := 0) (v := b0) hb
  have e2 := block_set (i := 1) (v := b1) e1
  have e3 := block_set (i := 2) (v := b2) e2
  exact block_set (i := 3) (v := b3) e3
theorem four_keeps {a w : World} {p : Nat} (h : Keeps (fun q => q = p) a w) (b0 b1 b2 b3 : Value) :
    Keeps (fun q => q = p) a ((((w.setCell ⟨p, 0, none⟩ b0).setCell ⟨p, 1, none⟩ b1).setCell ⟨p, 2, none⟩ b2).setCell ⟨p, 3, none⟩ b3) :=
  (((h.own _).own _).own _).own _
theorem catch_panicking (p : Nat) (a0 a1 a2 a3 : Value) (u : TypeId) (pv : Value) (older : List PanicEntry) (w : World) (hb : w.heap[p]? = some (.cells #[a0, a1, a2, a3] TAn (0, 0))) :
    CallsD Try.prog 41 #[.pointer (some ⟨p, 0, none⟩)] (.panicking ({ v := .iface u pv, recovered := false } :: older)) w fun e u' w' =>
      e = .returned (.tuple #[]) ∧ u' = .panicking ({ v := .iface u pv, recovered := true } :: older) ∧ w'.heap[p]? = some (.cells #[.slice none 0 0, .int .i64 0, .bool false, .bool true] TAn (0, 0)) ∧ Keeps (fun q => q = p) w w' := by
  have c0 : w.cell? ⟨p, 0, none⟩ = some a0 := by rw [cell_block hb]; rfl
  have c1 : w.cell? ⟨p, 1, none⟩ = some a1 := by rw [cell_block hb]; rfl
  have c2 : w.cell? ⟨p, 2, none⟩ = some a2 := by rw [cell_block hb]; rfl
  have c3 : w.cell? ⟨p, 3, none⟩ = some a3 := by rw [cell_block hb]; rfl
  have f0 := free_block hb 0
  have f1 := free_block hb 1
  have f2 := free_block hb 2
  have f3 := free_block hb 3
  refine callsD_of_wpS Try.func41 rfl fun c₀ cs hu => ?_
  apply wpS_seq
  apply wpS_region
  simp [wpOpsS, go_sem, recoverD, hu, Try.ntmps41, Exit.thenS]
  refine wpS_cond (t := true) (by simp [Act.eval, Array.replicate]) ?_
  simp only [if_true]
  apply wpS_region
  simp [wpOpsS, go_sem, c0, c1, c2, c3, f0, f1, f2, f3, bodyPostS, results, Try.results41]
  exact ⟨four_set hb _ _ _ _, four_keeps (Keeps.refl _ w) _ _ _ _⟩
theorem catch_idle (p : Value) (w : World) :
    CallsD Try.prog 41 #[p] .returning w fun e u' w' => e = .returned (.tuple #[]) ∧ u' = .returning ∧ w' = w := by
  refine callsD_of_wpS Try.func41 rfl fun c₀ cs hu => ?_
  apply wpS_seq
  apply wpS_region
  simp [wpOpsS, go_sem, recoverD, hu, Try.ntmps41, Exit.thenS]
  refine wpS_cond (t := false) (by simp [Act.eval, Array.replicate]) ?_
  simp only [Bool.false_eq_true, if_false]
  refine wpS_of_wp (wp_skip ?_)
  cases c₀
  simp_all [bodyPostS, results, Try.results41]
/-- what ask leaves -/
def AskR (key m : List UInt8) (fin : Bool) (c : Cl) (b : Nat) (w : World) (e : Ending) (w' : World) : Prop :=
  ∃ v, e = .returned (anV v (askA key m fin c)) ∧ OwnB 5 w' w.heap.size v (askA key m fin c).bytes ∧ MacK key w' b (askM m fin c) (askF fin c) ∧ Keeps (fun q => q = b) w w'
/-- the two new blocks of ask -/
theorem ask_news (w : World) (k : Int) (vb : Value) (o : Obj) : Fresh w ((w.alloc (.cells #[.int .i64 k, vb] TCl)).alloc o) := ((Keeps.refl _ w).alloc _).alloc _
theorem four_cells {w : World} {p : Nat} {a0 a1 a2 a3 : Value} {T : TypeId} (hb : w.heap[p]? = some (.cells #[a0, a1, a2, a3] T (0, 0))) :
    (w.cell? ⟨p, 0, none⟩ = some a0 ∧ w.cell? ⟨p, 1, none⟩ = some a1 ∧ w.cell? ⟨p, 2, none⟩ = some a2 ∧ w.cell? ⟨p, 3, none⟩ = some a3) ∧
    (w.frozen? ⟨p, 0, none⟩ = false ∧ w.frozen? ⟨p, 1, none⟩ = false ∧ w.frozen? ⟨p, 2, none⟩ = false ∧ w.frozen? ⟨p, 3, none⟩ = false) := by
  refine ⟨⟨?_, ?_, ?_, ?_⟩, free_block hb 0, free_block hb 1, free_block hb 2, free_block hb 3⟩ <;> (rw [cell_block hb]; rfl)
theorem ask_results {w : World} {p : Nat} {a0 a1 a2 a3 : Value} {tmps : Array Value} (ht : tmps[4]? = some (.pointer (some ⟨p, 0, none⟩))) (hb : w.heap[p]? = some (.cells #[a0, a1, a2, a3] TAn (0, 0))) :
    (results Try.f32 tmps).run Try.prog w = .ok (.agg #[a0, a1, a2, a3]) w := by
  obtain ⟨⟨c0, c1, c2, c3⟩, -⟩ := four_cells hb
  simp [results, Try.results32, go_sem, ht, c0, c1, c2, c3]
theorem ask_leave {R : Ending → World → Prop} {tmps : Array Value} {w : World} {p : Nat} {a0 a1 a2 a3 : Value} (ht : tmps[4]? = some (.pointer (some ⟨p, 0, none⟩))) (hb : w.heap[p]? = some (.cells #[a0, a1, a2, a3] TAn (0, 0)))
    (h : R (.returned (.agg #[a0, a1, a2, a3])) w) :
    Leaves Try.prog Try.f32 tmps R [{ target := .fn (.func 41) #[.pointer (some ⟨p, 0, none⟩)], args := #[] }] .returning w := by
  refine leaves_cons (f := 41) (args := #[.pointer (some ⟨p, 0, none⟩)]) (by simp) (by simp [go_sem]) ?_
  refine (catch_idle _ _).mono ?_
  rintro e u' w'' ⟨rfl, rfl, rfl⟩
  exact ⟨_, ask_results ht hb, h⟩
theorem ask_caught {R : Ending → World → Prop} {tmps : Array Value} {w : World} {p : Nat} {a0 a1 a2 a3 : Value} {u : TypeId} {pv : Value} (ht : tmps[4]? = some (.pointer (some ⟨p, 0, none⟩))) (hb : w.heap[p]? = some (.cells #[a0, a1, a2, a3] TAn (0, 0)))
    (h : ∀ w', Keeps (fun q => q = p) w w' → R (.returned (.agg #[.slice none 0 0, .int .i64 0, .bool false, .bool true])) w') :
    Leaves Try.prog Try.f32 tmps R [{ target := .fn (.func 41) #[.pointer (some ⟨p, 0, none⟩)], args := #[] }] (.panicking [{ v := .iface u pv, recovered := false }]) w := by
  refine leaves_cons (f := 41) (args := #[.pointer (some ⟨p, 0, none⟩)]) (by simp) (by simp [go_sem]) ?_
  refine (catch_panicking p a0 a1 a2 a3 u pv [] w hb).mono ?_
  rintro e u' w'' ⟨rfl, rfl, hb', hk⟩
  exact ⟨_, ask_results ht hb', h w'' hk⟩
/-- the frame of ask: what is written behind the two new blocks is the MAC, or new -/
theorem ask_frame {w w2 w3 w4 : World} {b p : Nat} (h2 : Fresh w w2) (h3 : Keeps (fun q => q = b) w2 w3) (h4 : Keeps (fun q => q = p) w3 w4) (hp : w.heap.size ≤ p) : Keeps (fun q => q = b) w w4 :=
  ⟨h4.os.trans (h3.os.trans h2.os), h4.tape.trans (h3.tape.trans h2.tape), h4.output.trans (h3.output.trans h2.output), Nat.le_trans h2.size (Nat.le_trans h3.size h4.size), fun i hi hs =>
    (h4.block i (Nat.lt_of_lt_of_le hi (Nat.le_trans h2.size h3.size)) (fun e => by omega)).trans ((h3.block i (Nat.lt_of_lt_of_le hi h2.size) hs).trans (h2.block i hi (fun x => x)))⟩
theorem zeroAn_block (w : World) (o : Obj) : ((w.alloc o).alloc (.cells #[Value.slice none 0 0, .int .i64 0, .bool false, .bool false] TAn)).heap[w.heap.size + 1]? = some (.cells #[Value.slice none 0 0, .int .i64 0, .bool false, .bool false] TAn (0, 0)) := by
  have := heap_alloc_new (w.alloc o) (.cells #[Value.slice none 0 0, .int .i64 0, .bool false, .bool false] TAn)
  simpa using this
theorem ask_write (b : Nat) (key m x : List UInt8) (vb : Value) (w : World) (hmac : MacK key w b m false) (hs : SlB w vb x) (hv : 0 < x.length → vb.ownBlock ≠ some b) :
    Calls Try.prog 32 #[.pointer (some ⟨b, 0, none⟩), .agg #[.int .i64 0, vb]] w (AskR key m false ⟨0, x⟩ b w) := by
  have hmf : ∀ (fn : Fn) (first cap : Array Value) (w : World), (Instr.makeFunc fn first cap).run Try.prog w = .ok (.func fn first cap) w := fun _ _ _ _ => rfl
  have hltb : b < w.heap.size := hmac.lt
  have HM := Lib.hid hmac
  have HS := Lib.hid hs
  have HV := Lib.hid hv
  obtain ⟨pa, ca, rfl⟩ := hs.slice
  clear hmac hs hv
  go_enter_defers Try.func32, Try.ntmps32
  go_wp2_with fail
  have HF := Lib.hid (ask_news w 0 (.slice pa x.length ca) (.cells #[Value.slice none 0 0, .int .i64 0, .bool false, .bool false] TAn))
  have HB := Lib.hid (zeroAn_block w (.cells #[.int .i64 0, .slice pa x.length ca] TCl))
  generalize ((w.alloc (.cells #[Value.int .i64 0, .slice pa x.length ca] TCl)).alloc (.cells #[Value.slice none 0 0, .int .i64 0, .bool false, .bool false] TAn)) = w2 at HF HB ⊢
  refine (MWrite_c b key m x _ w2 (Mac.keeps HM.out HF.out (fun x => x)) (HS.out.fresh HF.out) HV.out).mono ?_
  rintro e w3 ⟨rfl, hm, hk⟩
  have HB3 := Lib.hid (hk.at HB.out (by omega))
  obtain ⟨⟨c0, c1, c2, c3⟩, f0, f1, f2, f3⟩ := four_cells HB3.out
  have HM3 := Lib.hid hm
  have HK3 := Lib.hid hk
  clear hm hk
  go_wp2_with fail
  refine ask_leave rfl (four_set HB3.out _ _ _ _) ?_
  refine ⟨_, rfl, World.ownsRow_nil _ _ _ _, ?_, ask_frame HF.out HK3.out (four_keeps (Keeps.refl _ w3) _ _ _ _) (by omega)⟩
  exact Mac.keeps HM3.out (four_keeps (Keeps.refl _ w3) _ _ _ _) (by omega)
theorem ask_refused (b : Nat) (key m x : List UInt8) (vb : Value) (w : World) (hmac : MacK key w b m true) (hs : SlB w vb x) :
    Calls Try.prog 32 #[.pointer (some ⟨b, 0, none⟩), .agg #[.int .i64 0, vb]] w (AskR key m true ⟨0, x⟩ b w) := by
  have hmf : ∀ (fn : Fn) (first cap : Array Value) (w : World), (Instr.makeFunc fn first cap).run Try.prog w = .ok (.func fn first cap) w := fun _ _ _ _ => rfl
  have hltb : b < w.heap.size := hmac.lt
  have HM := Lib.hid hmac
  have HS := Lib.hid hs
  obtain ⟨pa, ca, rfl⟩ := hs.slice
  clear hmac hs
  go_enter_defers Try.func32, Try.ntmps32
  go_wp2_with fail
  have HF := Lib.hid (ask_news w 0 (.slice pa x.length ca) (.cells #[Value.slice none 0 0, .int .i64 0, .bool false, .bool false] TAn))
  have HB := Lib.hid (zeroAn_block w (.cells #[.int .i64 0, .slice pa x.length ca] TCl))
  generalize ((w.alloc (.cells #[Value.int .i64 0, .slice pa x.length ca] TCl)).alloc (.cells #[Value.slice none 0 0, .int .i64 0, .bool false, .bool false] TAn)) = w2 at HF HB ⊢
  refine (MWrite_closed b key m _ w2 (Mac.keeps HM.out HF.out (fun x => x))).mono ?_
  rintro e w3 ⟨⟨pv, rfl⟩, rfl⟩
  refine ask_caught rfl HB.out (fun w4 hk => ?_)
  exact ⟨_, rfl, World.ownsRow_nil _ _ _ _, Mac.keeps (Mac.keeps HM.out HF.out (fun x => x)) hk (by omega), ask_frame HF.out (Keeps.refl _ w3) hk (by omega)⟩
set_option maxHeartbeats 2000000 in
theorem ask_sum (b : Nat) (key m x : List UInt8) (fin : Bool) (vb : Value) (w : World) (hmac : MacK key w b m fin) (hs : SlB w vb x) (hl : x.length ≤ 140737488355000) :
    Calls Try.prog 32 #[.pointer (some ⟨b, 0, none⟩), .agg #[.int .i64 1, vb]] w (AskR key m fin ⟨1, x⟩ b w) := by
  have hmf : ∀ (fn : Fn) (first cap : Array Value) (w : World), (Instr.makeFunc fn first cap).run Try.prog w = .ok (.func fn first cap) w := fun _ _ _ _ => rfl
  have hltb : b < w.heap.size := hmac.lt
  have HM := Lib.hid hmac
  have HS := Lib.hid hs
  obtain ⟨pa, ca, rfl⟩ := hs.slice
  clear hmac hs
  go_enter_defers Try.func32, Try.ntmps32
  go_wp2_with fail
  have HF := Lib.hid (ask_news w 1 (.slice pa x.length ca) (.cells #[Value.slice none 0 0, .int .i64 0, .bool false, .bool false] TAn))
  have HB := Lib.hid (zeroAn_block w (.cells #[.int .i64 1, .slice pa x.length ca] TCl))
  generalize ((w.alloc (.cells #[Value.int .i64 1, .slice pa x.length ca] TCl)).alloc (.cells #[Value.slice none 0 0, .int .i64 0, .bool false, .bool false] TAn)) = w2 at HF HB ⊢
  refine (copiedM_c _ x w2 (HS.out.fresh HF.out) (by omega)).mono ?_
  rintro e w3 ⟨vx, rfl, ho, hf⟩
  have HO := Lib.hid ho
  have HF3 := Lib.hid hf
  have hsz : w.heap.size ≤ w2.heap.size := HF.out.size
  have hsz3 : w2.heap.size ≤ w3.heap.size := hf.size
  clear ho hf
  go_wp2_with fail
  refine (MSum_own b w2.heap.size key m x fin vx w3 (Mac.keeps (Mac.keeps HM.out HF.out (fun x => x)) HF3.out (fun x => x)) HO.out (by omega) hsz3 hl).mono ?_
  rintro e w4 ⟨v', rfl, ho, hm, hk⟩
  have HO4 := Lib.hid ho
  have HM4 := Lib.hid hm
  have HK4 : Hid (Keeps (fun q => q = b) w2 w4) := Lib.hid (by
    refine ⟨hk.os.trans HF3.out.os, hk.tape.trans HF3.out.tape, hk.output.trans HF3.out.output, Nat.le_trans hsz3 hk.size, fun i hi hs => ?_⟩
    exact (hk.block i (Nat.lt_of_lt_of_le hi hsz3) (fun e => by rcases e with e | e; exact hs e; omega)).trans (HF3.out.block i hi (fun x => x)))
  have hlt2 : w.heap.size + 1 < w2.heap.size := lt_of_block HB.out
  have HB4 := Lib.hid (HK4.out.at HB.out (by omega))
  obtain ⟨⟨c0, c1, c2, c3⟩, f0, f1, f2, f3⟩ := four_cells HB4.out
  obtain ⟨pv, cv, hvv⟩ := ho.sl.slice
  obtain ⟨nv, hnv⟩ : ∃ n, n = (x ++ tagK key m).length := ⟨_, rfl⟩
  rw [← hnv] at hvv
  subst hvv
  clear ho hm hk hnv
  go_wp2_with fail
  refine ask_leave rfl (four_set HB4.out _ _ _ _) ?_
  have K := four_keeps (Keeps.refl (fun q => q = w.heap.size + 1) w4) (.slice pv nv cv) (.int .i64 0) (.bool false) (.bool false)
  refine ⟨_, rfl, OwnB.mono (OwnB.kept HO4.out K (fun k hk e => by omega)) hsz, ?_, ask_frame HF.out HK4.out K (by omega)⟩
  exact Mac.keeps HM4.out K (by omega)
theorem ask_verify (b : Nat) (key m x : List UInt8) (fin : Bool) (vb : Value) (w : World) (hmac : MacK key w b m fin) (hs : SlB w vb x) (hv : 0 < x.length → vb.ownBlock ≠ some b) :
    Calls Try.prog 32 #[.pointer (some ⟨b, 0, none⟩), .agg #[.int .i64 2, vb]] w (AskR key m fin ⟨2, x⟩ b w) := by
  have hmf : ∀ (fn : Fn) (first cap : Array Value) (w : World), (Instr.makeFunc fn first cap).run Try.prog w = .ok (.func fn first cap) w := fun _ _ _ _ => rfl
  have hltb : b < w.heap.size := hmac.lt
  have HM := Lib.hid hmac
  have HS := Lib.hid hs
  have HV := Lib.hid hv
  obtain ⟨pa, ca, rfl⟩ := hs.slice
  clear hv
  clear hmac hs
  go_enter_defers Try.func32, Try.ntmps32
  go_wp2_with fail
  have HF := Lib.hid (ask_news w 2 (.slice pa x.length ca) (.cells #[Value.slice none 0 0, .int .i64 0, .bool false, .bool false] TAn))
  have HB := Lib.hid (zeroAn_block w (.cells #[.int .i64 2, .slice pa x.length ca] TCl))
  generalize ((w.alloc (.cells #[Value.int .i64 2, .slice pa x.length ca] TCl)).alloc (.cells #[Value.slice none 0 0, .int .i64 0, .bool false, .bool false] TAn)) = w2 at HF HB ⊢
  refine (MVerify_c b key m x fin _ w2 (Mac.keeps HM.out HF.out (fun x => x)) (HS.out.fresh HF.out) HV.out).mono ?_
  rintro e w3 ⟨rfl, hm, hk⟩
  have HB3 := Lib.hid (hk.at HB.out (by omega))
  obtain ⟨⟨c0, c1, c2, c3⟩, f0, f1, f2, f3⟩ := four_cells HB3.out
  have HM3 := Lib.hid hm
  have HK3 := Lib.hid hk
  clear hm hk
  obtain ⟨d, hd⟩ : ∃ d, d = decide (x = tagK key m) := ⟨_, rfl⟩
  have HD := Lib.hid hd
  rw [← hd]
  clear hd
  go_wp2_with fail
  refine ask_leave rfl (four_set HB3.out _ _ _ _) ?_
  refine ⟨_, by rw [askA_verify, ← HD.out]; rfl, World.ownsRow_nil _ _ _ _, ?_, ask_frame HF.out HK3.out (four_keeps (Keeps.refl _ w3) _ _ _ _) (by omega)⟩
  exact Mac.keeps HM3.out (four_keeps (Keeps.refl _ w3) _ _ _ _) (by omega)
theorem ask_size (b : Nat) (key m x : List UInt8) (fin : Bool) (vb : Value) (w : World) (hmac : MacK key w b m fin) (hs : SlB w vb x) :
    Calls Try.prog 32 #[.pointer (some ⟨b, 0, none⟩), .agg #[.int .i64 3, vb]] w (AskR key m fin ⟨3, x⟩ b w) := by
  have hmf : ∀ (fn : Fn) (first cap : Array Value) (w : World), (Instr.makeFunc fn first cap).run Try.prog w = .ok (.func fn first cap) w := fun _ _ _ _ => rfl
  have hltb : b < w.heap.size := hmac.lt
  have HM := Lib.hid hmac
  have HS := Lib.hid hs
  obtain ⟨pa, ca, rfl⟩ := hs.slice
  clear hmac hs
  go_enter_defers Try.func32, Try.ntmps32
  go_wp2_with fail
  have HF := Lib.hid (ask_news w 3 (.slice pa x.length ca) (.cells #[Value.slice none 0 0, .int .i64 0, .bool false, .bool false] TAn))
  have HB := Lib.hid (zeroAn_block w (.cells #[.int .i64 3, .slice pa x.length ca] TCl))
  generalize ((w.alloc (.cells #[Value.int .i64 3, .slice pa x.length ca] TCl)).alloc (.cells #[Value.slice none 0 0, .int .i64 0, .bool false, .bool false] TAn)) = w2 at HF HB ⊢
  refine (MSize_c _ w2).mono ?_
  rintro e w3 ⟨rfl, rfl⟩
  obtain ⟨⟨c0, c1, c2, c3⟩, f0, f1, f2, f3⟩ := four_cells HB.out
  go_wp2_with fail
  refine ask_leave rfl (four_set HB.out _ _ _ _) ?_
  refine ⟨_, rfl, World.ownsRow_nil _ _ _ _, ?_, ask_frame HF.out (Keeps.refl _ w3) (four_keeps (Keeps.refl _ w3) _ _ _ _) (by omega)⟩
  exact Mac.keeps (Mac.keeps HM.out HF.out (fun x => x)) (four_keeps (Keeps.refl _ w3) _ _ _ _) (by omega)
theorem ask_other (b : Nat) (key m x : List UInt8) (fin : Bool) (kd : Int) (vb : Value) (w : World) (h0 : kd ≠ 0) (h1 : kd ≠ 1) (h2 : kd ≠ 2) (h3 : kd ≠ 3) (hmac : MacK key w b m fin) (hs : SlB w vb x) :
    Calls Try.prog 32 #[.pointer (some ⟨b, 0, none⟩), .agg #[.int .i64 kd, vb]] w (AskR key m fin ⟨kd, x⟩ b w) := by
  have hmf : ∀ (fn : Fn) (first cap : Array Value) (w : World), (Instr.makeFunc fn first cap).run Try.prog w = .ok (.func fn first cap) w := fun _ _ _ _ => rfl
  have hltb : b < w.heap.size := hmac.lt
  have HM := Lib.hid hmac
  have HS := Lib.hid hs
  obtain ⟨pa, ca, rfl⟩ := hs.slice
  have b0 : (kd == 0) = false := by simp [h0]
  have b1 : (kd == 1) = false := by simp [h1]
  have b2 : (kd == 2) = false := by simp [h2]
  have b3 : (kd == 3) = false := by simp [h3]
  have HA := Lib.hid (askA_other key m x fin kd h0 h1 h2 h3)
  have HA2 := Lib.hid (askM_other m x fin kd h0)
  have HA3 := Lib.hid (askF_other x fin kd h1 h2)
  clear h0 h1 h2 h3
  clear hmac hs
  go_enter_defers Try.func32, Try.ntmps32
  go_wp2_with fail
  have HF := Lib.hid (ask_news w kd (.slice pa x.length ca) (.cells #[Value.slice none 0 0, .int .i64 0, .bool false, .bool false] TAn))
  have HB := Lib.hid (zeroAn_block w (.cells #[.int .i64 kd, .slice pa x.length ca] TCl))
  generalize ((w.alloc (.cells #[Value.int .i64 kd, .slice pa x.length ca] TCl)).alloc (.cells #[Value.slice none 0 0, .int .i64 0, .bool false, .bool false] TAn)) = w2 at HF HB ⊢
  refine ask_leave rfl HB.out ?_
  refine ⟨_, by rw [HA.out]; rfl, by rw [HA.out]; exact World.ownsRow_nil _ _ _ _, ?_, Fresh.to HF.out⟩
  rw [HA2.out, HA3.out]
  exact Mac.keeps HM.out HF.out (fun x => x)
/-- ask -/
theorem ask_c (b : Nat) (key m : List UInt8) (fin : Bool) (c : Cl) (vb : Value) (w : World) (hmac : MacK key w b m fin) (hs : SlB w vb c.bytes) (hv : 0 < c.bytes.length → vb.ownBlock ≠ some b) (hl : c.bytes.length ≤ 140737488355000) :
    Calls Try.prog 32 #[.pointer (some ⟨b, 0, none⟩), .agg #[.int .i64 c.kind, vb]] w (AskR key m fin c b w) := by
  obtain ⟨kd, x⟩ := c
  by_cases h0 : kd = 0
  · subst h0
    cases fin with
    | false => exact ask_write b key m x vb w hmac hs hv
    | true => exact ask_refused b key m x vb w hmac hs
  · by_cases h1 : kd = 1
    · subst h1; exact ask_sum b key m x fin vb w hmac hs hl
    · by_cases h2 : kd = 2
      · subst h2; exact ask_verify b key m x fin vb w hmac hs hv
      · by_cases h3 : kd = 3
        · subst h3; exact ask_size b key m x fin vb w hmac hs
        · exact ask_other b key m x fin kd vb w h0 h1 h2 h3 hmac hs
end Go.Proofs.Ytdkhpehniciijaa
