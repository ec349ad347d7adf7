/-
  Contract: impl.do.
-/
import Derived.Test.YtlafnkcmdnfcpaaXks
import Derived.Test.YtlafnkcmdnfcpaaStepM
import Derived.Test.YtlafnkcmdnfcpaaFil
import Derived.Test.YtlafnkcmdnfcpaaDerive
import Derived.Test.YtlafnkcmdnfcpaaStr
import Derived.Defers
import Derived.Recover
namespace Go.Proofs.Ytlafnkcmdnfcpaa
open Go Go.RowKit
set_option linter.unusedVariables false
attribute [local irreducible] Cha.iter Cha.rounds Cha.dbl Cha.qr
/-- bytes that one owns, as bytes in a block -/
theorem OwnB.dst {w : World} {base : Nat} {v : Value} {l : List UInt8} (h : OwnB 5 w base v l) (h0 : 0 < l.length) :
    ∃ g cap tl, v = .slice (some ⟨g, 0, none⟩) l.length cap ∧ base ≤ g ∧ g < w.heap.size ∧ l.length ≤ cap ∧ cap ≤ maxLen ∧ DstB w g [] tl l ∧ (∀ (w' : World) (l' : List UInt8), l'.length = l.length → DstB w' g [] tl l' → OwnB 5 w' base (.slice (some ⟨g, 0, none⟩) l.length cap) l') := by
  obtain ⟨h1, h2⟩ := h
  rcases h2 with ⟨_, h2⟩ | ⟨g, cap, cur, rfl, hb, hg, hc1, hc2, hsz, htk⟩
  · omega
  · rw [Nat.mul_one] at htk hsz
    refine ⟨g, cap, cur.toList.drop l.length, rfl, hb, lt_of_block hg, hc1, hc2, ?_, ?_⟩
    · unfold DstB
      rw [hg, List.nil_append, ← htk, List.take_append_drop]
    · intro w' l' hl' hd
      refine ⟨by rw [vals8_len, hl', Nat.mul_one], Or.inr ⟨g, cap, _, by rw [hl'], hb, hd, by rw [hl']; exact hc1, hc2, ?_, ?_⟩⟩
      · simp only [List.nil_append, Nat.mul_one, List.size_toArray, List.length_append, vals8_len, List.length_drop, Array.length_toList, hl', hsz]
        omega
      · simp only [List.nil_append, Nat.mul_one]
        rw [List.take_left' (by rw [vals8_len])]
theorem two_set {w : World} {p : Nat} {a0 a1 : Value} {T : TypeId} (hb : w.heap[p]? = some (.cells #[a0, a1] T (0, 0))) (b0 b1 : Value) :
    ((w.setCell ⟨p, 0, none⟩ b0).setCell ⟨p, 1, none⟩ b1).heap[p]? = some (.cells #[b0, b1] T (0, 0)) := by
  have e1 := block_set (i := 0) (v := b0) hb
  exact block_set (i := 1) (v := b1) e1
theorem two_keeps {a w : World} {p : Nat} (h : Keeps (fun q => q = p) a w) (b0 b1 : Value) : Keeps (fun q => q = p) a ((w.setCell ⟨p, 0, none⟩ b0).setCell ⟨p, 1, none⟩ b1) := (h.own _).own _
theorem two_cells {w : World} {p : Nat} {a0 a1 : Value} {T : TypeId} (hb : w.heap[p]? = some (.cells #[a0, a1] T (0, 0))) :
    (w.cell? ⟨p, 0, none⟩ = some a0 ∧ w.cell? ⟨p, 1, none⟩ = some a1) ∧ (w.frozen? ⟨p, 0, none⟩ = false ∧ w.frozen? ⟨p, 1, none⟩ = false) := by
  refine ⟨⟨?_, ?_⟩, free_block hb 0, free_block hb 1⟩ <;> (rw [cell_block hb]; rfl)
theorem dcatch_panicking (p : Nat) (a0 a1 : Value) (u : TypeId) (pv : Value) (older : List PanicEntry) (w : World) (hb : w.heap[p]? = some (.cells #[a0, a1] TOu (0, 0))) :
    CallsD Try.prog 51 #[.pointer (some ⟨p, 0, none⟩)] (.panicking ({ v := .iface u pv, recovered := false } :: older)) w fun e u' w' =>
      e = .returned (.tuple #[]) ∧ u' = .panicking ({ v := .iface u pv, recovered := true } :: older) ∧ w'.heap[p]? = some (.cells #[.slice none 0 0, .bool true] TOu (0, 0)) ∧ Keeps (fun q => q = p) w w' := by
  obtain ⟨⟨c0, c1⟩, f0, f1⟩ := two_cells hb
  refine callsD_of_wpS Try.func51 rfl fun c₀ cs hu => ?_
  apply wpS_seq
  apply wpS_region
  simp [wpOpsS, go_sem, recoverD, hu, Try.ntmps51, Exit.thenS]
  refine wpS_cond (t := true) (by simp [Act.eval, Array.replicate]) ?_
  simp only [if_true]
  apply wpS_region
  simp [wpOpsS, go_sem, c0, c1, f0, f1, bodyPostS, results, Try.results51]
  exact ⟨two_set hb _ _, two_keeps (Keeps.refl _ w) _ _⟩
theorem dcatch_idle (p : Value) (w : World) :
    CallsD Try.prog 51 #[p] .returning w fun e u' w' => e = .returned (.tuple #[]) ∧ u' = .returning ∧ w' = w := by
  refine callsD_of_wpS Try.func51 rfl fun c₀ cs hu => ?_
  apply wpS_seq
  apply wpS_region
  simp [wpOpsS, go_sem, recoverD, hu, Try.ntmps51, Exit.thenS]
  refine wpS_cond (t := false) (by simp [Act.eval, Array.replicate]) ?_
  simp only [Bool.false_eq_true, if_false]
  refine wpS_of_wp (wp_skip ?_)
  cases c₀
  simp_all [bodyPostS, results, Try.results51]
theorem do_results {w : World} {p : Nat} {a0 a1 : Value} {tmps : Array Value} (ht : tmps[4]? = some (.pointer (some ⟨p, 0, none⟩))) (hb : w.heap[p]? = some (.cells #[a0, a1] TOu (0, 0))) :
    (results Try.f34 tmps).run Try.prog w = .ok (.agg #[a0, a1]) w := by
  obtain ⟨⟨c0, c1⟩, -⟩ := two_cells hb
  simp [results, Try.results34, go_sem, ht, c0, c1]
theorem do_leave {R : Ending → World → Prop} {tmps : Array Value} {w : World} {p : Nat} {a0 a1 : Value} (ht : tmps[4]? = some (.pointer (some ⟨p, 0, none⟩))) (hb : w.heap[p]? = some (.cells #[a0, a1] TOu (0, 0)))
    (h : R (.returned (.agg #[a0, a1])) w) :
    Leaves Try.prog Try.f34 tmps R [{ target := .fn (.func 51) #[.pointer (some ⟨p, 0, none⟩)], args := #[] }] .returning w := by
  refine leaves_cons (f := 51) (args := #[.pointer (some ⟨p, 0, none⟩)]) (by simp) (by simp [go_sem]) ?_
  refine (dcatch_idle _ _).mono ?_
  rintro e u' w'' ⟨rfl, rfl, rfl⟩
  exact ⟨_, do_results ht hb, h⟩
theorem do_caught {R : Ending → World → Prop} {tmps : Array Value} {w : World} {p : Nat} {a0 a1 : Value} {u : TypeId} {pv : Value} (ht : tmps[4]? = some (.pointer (some ⟨p, 0, none⟩))) (hb : w.heap[p]? = some (.cells #[a0, a1] TOu (0, 0)))
    (h : ∀ w', Keeps (fun q => q = p) w w' → R (.returned (.agg #[.slice none 0 0, .bool true])) w') :
    Leaves Try.prog Try.f34 tmps R [{ target := .fn (.func 51) #[.pointer (some ⟨p, 0, none⟩)], args := #[] }] (.panicking [{ v := .iface u pv, recovered := false }]) w := by
  refine leaves_cons (f := 51) (args := #[.pointer (some ⟨p, 0, none⟩)]) (by simp) (by simp [go_sem]) ?_
  refine (dcatch_panicking p a0 a1 u pv [] w hb).mono ?_
  rintro e u' w'' ⟨rfl, rfl, hb', hk⟩
  exact ⟨_, do_results ht hb', h w'' hk⟩
/-- what do leaves -/
def DoR (K : CK) (a : Nat) (s : St) (b : Nat) (w : World) (e : Ending) (w' : World) : Prop :=
  ∃ v, e = .returned (.agg #[v, .bool (doA K a s).failed]) ∧ OwnB 5 w' w.heap.size v (doA K a s).bytes ∧ ((doA K a s).failed = false → CipS K w' b (doN a s)) ∧ Keeps (fun q => q = b) w w'
/-- the two new blocks of do -/
theorem do_news (w : World) (o o' : Obj) : Fresh w ((w.alloc o).alloc o') := ((Keeps.refl _ w).alloc _).alloc _
theorem do_block (w : World) (o : Obj) (T : TypeId) (cs : Array Value) : ((w.alloc o).alloc (.cells cs T)).heap[w.heap.size + 1]? = some (.cells cs T (0, 0)) := by
  have := heap_alloc_new (w.alloc o) (.cells cs T)
  simpa using this
/-- the frame of do -/
theorem do_frame {S : Nat → Prop} {w w2 w3 w4 : World} {b p : Nat} (h2 : Fresh w w2) (h3 : Keeps S w2 w3) (hS : ∀ q, q < w.heap.size → S q → q = b) (h4 : Keeps (fun q => q = p) w3 w4) (hp : w.heap.size ≤ p) : Keeps (fun q => q = b) w w4 :=
  ⟨h4.os.trans (h3.os.trans h2.os), h4.tape.trans (h3.tape.trans h2.tape), h4.output.trans (h3.output.trans h2.output), Nat.le_trans h2.size (Nat.le_trans h3.size h4.size), fun i hi hs =>
    (h4.block i (Nat.lt_of_lt_of_le hi (Nat.le_trans h2.size h3.size)) (fun e => by omega)).trans ((h3.block i (Nat.lt_of_lt_of_le hi h2.size) (fun e => hs (hS i hi e))).trans (h2.block i hi (fun x => x)))⟩
theorem fillB_drop (n R : Nat) : (fillB (n + R)).drop n = fillB R := by unfold fillB; rw [List.drop_replicate]; congr 1; omega
section
variable (K : CK) (b a : Nat) (ct : UInt32) (s : List UInt8) (vb : Value) (w : World)
theorem do_set_good (room : Int) (hc : CipS K w b a) (hs : SlB w vb s) (hx : ¬ 64 * ct.toNat < a) :
    Calls Try.prog 34 #[.pointer (some ⟨b, 0, none⟩), .agg #[.int .i64 2, .int .u32 (u32 ct), vb, .int .i8 room]] w (DoR K a ⟨2, ct, s, room⟩ b w) := by
  have hmf : ∀ (fn : Fn) (first cap : Array Value) (w : World), (Instr.makeFunc fn first cap).run Try.prog w = .ok (.func fn first cap) w := fun _ _ _ _ => rfl
  have hltb : b < w.heap.size := hc.lt
  obtain ⟨pa, ca, rfl⟩ := hs.slice
  have HC := Lib.hid hc
  have HX := Lib.hid hx
  have HS := Lib.hid hs
  clear hc hx hs
  go_enter_defers Try.func34, Try.ntmps34
  go_wp2_with fail
  have HF := Lib.hid (do_news w (.cells #[.int .i64 2, .int .u32 (u32 ct), .slice pa s.length ca, .int .i8 room] TSt) (.cells #[Value.slice none 0 0, .bool false] TOu))
  have HB := Lib.hid (do_block w (.cells #[.int .i64 2, .int .u32 (u32 ct), .slice pa s.length ca, .int .i8 room] TSt) TOu #[Value.slice none 0 0, .bool false])
  generalize ((w.alloc (.cells #[Value.int .i64 2, .int .u32 (u32 ct), .slice pa s.length ca, .int .i8 room] TSt)).alloc (.cells #[Value.slice none 0 0, .bool false] TOu)) = w2 at HF HB ⊢
  refine (SetCounter_good K b a ct w2 (HC.out.keeps HF.out (fun x => x)) HX.out).mono ?_
  rintro e w3 ⟨rfl, hm, hk⟩
  have HB3 := Lib.hid (hk.at HB.out (by omega))
  obtain ⟨⟨c0, c1⟩, f0, f1⟩ := two_cells HB3.out
  have HM3 := Lib.hid hm
  have HK3 := Lib.hid hk
  clear hm hk
  go_wp2_with fail
  refine do_leave rfl (two_set HB3.out _ _) ?_
  refine ⟨_, by rw [doA_set, decide_eq_false HX.out], World.ownsRow_nil _ _ _ _, fun _ => ?_, do_frame HF.out HK3.out (fun _ _ e => e) (two_keeps (Keeps.refl _ w3) _ _) (by omega)⟩
  rw [doN_set]
  exact HM3.out.keeps (two_keeps (Keeps.refl _ w3) _ _) (by omega)
theorem do_set_bad (room : Int) (hc : CipS K w b a) (hs : SlB w vb s) (hx : 64 * ct.toNat < a) :
    Calls Try.prog 34 #[.pointer (some ⟨b, 0, none⟩), .agg #[.int .i64 2, .int .u32 (u32 ct), vb, .int .i8 room]] w (DoR K a ⟨2, ct, s, room⟩ b w) := by
  have HX := Lib.hid hx
  clear hx
  have hmf : ∀ (fn : Fn) (first cap : Array Value) (w : World), (Instr.makeFunc fn first cap).run Try.prog w = .ok (.func fn first cap) w := fun _ _ _ _ => rfl
  have hltb : b < w.heap.size := hc.lt
  obtain ⟨pa, ca, rfl⟩ := hs.slice
  have HC := Lib.hid hc
  have HS := Lib.hid hs
  clear hc hs
  go_enter_defers Try.func34, Try.ntmps34
  go_wp2_with fail
  have HF := Lib.hid (do_news w (.cells #[.int .i64 2, .int .u32 (u32 ct), .slice pa s.length ca, .int .i8 room] TSt) (.cells #[Value.slice none 0 0, .bool false] TOu))
  have HB := Lib.hid (do_block w (.cells #[.int .i64 2, .int .u32 (u32 ct), .slice pa s.length ca, .int .i8 room] TSt) TOu #[Value.slice none 0 0, .bool false])
  have HBX := Lib.hid (heap_alloc2_old w (.cells #[.int .i64 2, .int .u32 (u32 ct), .slice pa s.length ca, .int .i8 room] TSt) (.cells #[Value.slice none 0 0, .bool false] TOu))
  have hsz2 : ((w.alloc (.cells #[Value.int .i64 2, .int .u32 (u32 ct), .slice pa s.length ca, .int .i8 room] TSt)).alloc (.cells #[Value.slice none 0 0, .bool false] TOu)).heap.size = w.heap.size + 2 := by simp
  generalize ((w.alloc (.cells #[Value.int .i64 2, .int .u32 (u32 ct), .slice pa s.length ca, .int .i8 room] TSt)).alloc (.cells #[Value.slice none 0 0, .bool false] TOu)) = w2 at HF HB HBX hsz2 ⊢
  refine (SetCounter_bad K b a ct w2 (HC.out.keeps HF.out (fun x => x)) HX.out).mono ?_
  rintro e w3 ⟨⟨pv, rfl⟩, hk⟩
  have HB3 := Lib.hid (hk.at HB.out (by omega))
  have HK3 := Lib.hid hk
  clear hk
  refine do_caught rfl HB3.out (fun w4 hk4 => ?_)
  refine ⟨_, by rw [doA_set, decide_eq_true HX.out], World.ownsRow_nil _ _ _ _, fun e => ?_, do_frame HF.out HK3.out (fun _ _ e => e) hk4 (by omega)⟩
  rw [doA_set, decide_eq_true HX.out] at e
  cases e
theorem do_other (kd room : Int) (hc : CipS K w b a) (hs : SlB w vb s) (h0 : kd ≠ 0) (h1 : kd ≠ 1) (h2 : kd ≠ 2) :
    Calls Try.prog 34 #[.pointer (some ⟨b, 0, none⟩), .agg #[.int .i64 kd, .int .u32 (u32 ct), vb, .int .i8 room]] w (DoR K a ⟨kd, ct, s, room⟩ b w) := by
  have b0 : (kd == 0) = false := by simp [h0]
  have b1 : (kd == 1) = false := by simp [h1]
  have b2 : (kd == 2) = false := by simp [h2]
  have HA := Lib.hid (doA_other K a ct s room kd h0 h1 h2)
  have HN := Lib.hid (doN_other a ct s room kd h0 h1 h2)
  clear h0 h1 h2
  have hmf : ∀ (fn : Fn) (first cap : Array Value) (w : World), (Instr.makeFunc fn first cap).run Try.prog w = .ok (.func fn first cap) w := fun _ _ _ _ => rfl
  have hltb : b < w.heap.size := hc.lt
  obtain ⟨pa, ca, rfl⟩ := hs.slice
  have HC := Lib.hid hc
  have HS := Lib.hid hs
  clear hc hs
  go_enter_defers Try.func34, Try.ntmps34
  go_wp2_with fail
  have HF := Lib.hid (do_news w (.cells #[.int .i64 kd, .int .u32 (u32 ct), .slice pa s.length ca, .int .i8 room] TSt) (.cells #[Value.slice none 0 0, .bool false] TOu))
  have HB := Lib.hid (do_block w (.cells #[.int .i64 kd, .int .u32 (u32 ct), .slice pa s.length ca, .int .i8 room] TSt) TOu #[Value.slice none 0 0, .bool false])
  have HBX := Lib.hid (heap_alloc2_old w (.cells #[.int .i64 kd, .int .u32 (u32 ct), .slice pa s.length ca, .int .i8 room] TSt) (.cells #[Value.slice none 0 0, .bool false] TOu))
  have hsz2 : ((w.alloc (.cells #[Value.int .i64 kd, .int .u32 (u32 ct), .slice pa s.length ca, .int .i8 room] TSt)).alloc (.cells #[Value.slice none 0 0, .bool false] TOu)).heap.size = w.heap.size + 2 := by simp
  generalize ((w.alloc (.cells #[Value.int .i64 kd, .int .u32 (u32 ct), .slice pa s.length ca, .int .i8 room] TSt)).alloc (.cells #[Value.slice none 0 0, .bool false] TOu)) = w2 at HF HB HBX hsz2 ⊢
  obtain ⟨⟨c0, c1⟩, f0, f1⟩ := two_cells HB.out
  go_wp2_with fail
  refine do_leave rfl HB.out ?_
  refine ⟨_, by rw [HA.out], by rw [HA.out]; exact World.ownsRow_nil _ _ _ _, fun _ => ?_, Fresh.to HF.out⟩
  rw [HN.out]
  exact HC.out.keeps HF.out (fun x => x)
theorem do_into_none (room : Int) (hc : CipS K w b a) (hs : SlB w vb s) (hr : -128 ≤ room) (hr2 : room ≤ 127) (h0 : s.length = 0) :
    Calls Try.prog 34 #[.pointer (some ⟨b, 0, none⟩), .agg #[.int .i64 0, .int .u32 (u32 ct), vb, .int .i8 room]] w (DoR K a ⟨0, ct, s, room⟩ b w) := by
  have w1 : IntKind.i64.wrap room = room := by rw [IntKind.wrap_i64]; omega
  have hr3 : room ≤ 140737488355328 := by omega
  have HZ := Lib.hid h0
  clear hr hr2 h0
  have hmf : ∀ (fn : Fn) (first cap : Array Value) (w : World), (Instr.makeFunc fn first cap).run Try.prog w = .ok (.func fn first cap) w := fun _ _ _ _ => rfl
  have hltb : b < w.heap.size := hc.lt
  obtain ⟨pa, ca, rfl⟩ := hs.slice
  have HC := Lib.hid hc
  have HS := Lib.hid hs
  clear hc hs
  rw [HZ.out]
  go_enter_defers Try.func34, Try.ntmps34
  go_wp2_with fail
  have HF := Lib.hid (do_news w (.cells #[.int .i64 0, .int .u32 (u32 ct), .slice pa 0 ca, .int .i8 room] TSt) (.cells #[Value.slice none 0 0, .bool false] TOu))
  have HB := Lib.hid (do_block w (.cells #[.int .i64 0, .int .u32 (u32 ct), .slice pa 0 ca, .int .i8 room] TSt) TOu #[Value.slice none 0 0, .bool false])
  have HBX := Lib.hid (heap_alloc2_old w (.cells #[.int .i64 0, .int .u32 (u32 ct), .slice pa 0 ca, .int .i8 room] TSt) (.cells #[Value.slice none 0 0, .bool false] TOu))
  have hsz2 : ((w.alloc (.cells #[Value.int .i64 0, .int .u32 (u32 ct), .slice pa 0 ca, .int .i8 room] TSt)).alloc (.cells #[Value.slice none 0 0, .bool false] TOu)).heap.size = w.heap.size + 2 := by simp
  generalize ((w.alloc (.cells #[Value.int .i64 0, .int .u32 (u32 ct), .slice pa 0 ca, .int .i8 room] TSt)).alloc (.cells #[Value.slice none 0 0, .bool false] TOu)) = w2 at HF HB HBX hsz2 ⊢
  refine (filled_c room w2 hr3).mono ?_
  rintro e w3 ⟨vd, rfl, hod, hfd⟩
  obtain ⟨pd, cd, rfl⟩ := hod.slice
  have HO := Lib.hid hod
  have HF3 := Lib.hid hfd
  have hbx := hfd.at HBX.out
  have c2 : w3.cell? ⟨w.heap.size, 2, none⟩ = some (.slice pa 0 ca) := by rw [cell_block hbx]; rfl
  have hsz3 : w2.heap.size ≤ w3.heap.size := hfd.size
  clear hod hfd hbx
  go_wp2_with fail
  have HSZ : Hid (SlB w3 (.slice pa 0 ca) []) := Lib.hid (by
    have h := HS.out
    rw [List.eq_nil_of_length_eq_zero HZ.out] at h
    exact h.fresh (HF.out.trans HF3.out))
  refine (copied_c (.slice pa 0 ca) [] w3 HSZ.out (by decide)).mono ?_
  rintro e w4 ⟨vs, rfl, hos, hfs⟩
  obtain ⟨ps, cs, rfl⟩ := hos.slice
  have HF4 := Lib.hid hfs
  clear hos hfs
  go_wp2_with fail
  refine (XKS_none b _ _ _ w4).mono ?_
  rintro e w5 ⟨rfl, rfl⟩
  have HF25 := Lib.hid (HF3.out.trans HF4.out)
  have HB5 := Lib.hid (Fresh.at HF25.out HB.out)
  obtain ⟨⟨c0, c1⟩, f0, f1⟩ := two_cells HB5.out
  have hsz5 : w3.heap.size ≤ w5.heap.size := HF4.out.size
  go_wp2_with fail
  refine do_leave rfl (two_set HB5.out _ _) ?_
  have hA' : doA K a ⟨0, ct, s, room⟩ = ⟨fillB room.toNat, false⟩ := by
    rw [doA_into _ _ _ _ _ (by have := HZ.out; omega) (by have := HZ.out; have := HC.out.le; omega), List.eq_nil_of_length_eq_zero HZ.out, xs_nil, List.nil_append]
  have K6 := two_keeps (Keeps.refl (fun q => q = w.heap.size + 1) w5) (.slice pd (fillB room.toNat).length cd) (.bool false)
  refine ⟨_, by rw [hA'], ?_, fun _ => ?_, do_frame HF.out (Fresh.to (S := fun q => q = b) HF25.out) (fun _ _ e => e) K6 (by omega)⟩
  · rw [hA']
    exact ((HO.out.kept HF4.out (fun _ _ x => x)).kept K6 (fun k hk e => by omega)).mono (by omega)
  · rw [doN_into, HZ.out]
    exact ((HC.out.keeps HF.out (fun x => x)).keeps HF25.out (fun x => x)).keeps K6 (by omega)
theorem do_into_short (room : Int) (hc : CipS K w b a) (hs : SlB w vb s) (hr : -128 ≤ room) (hr2 : room < 0) (h0 : 0 < s.length) (hl : s.length ≤ 140737488353280) :
    Calls Try.prog 34 #[.pointer (some ⟨b, 0, none⟩), .agg #[.int .i64 0, .int .u32 (u32 ct), vb, .int .i8 room]] w (DoR K a ⟨0, ct, s, room⟩ b w) := by
  have hmf : ∀ (fn : Fn) (first cap : Array Value) (w : World), (Instr.makeFunc fn first cap).run Try.prog w = .ok (.func fn first cap) w := fun _ _ _ _ => rfl
  have hltb : b < w.heap.size := hc.lt
  obtain ⟨pa, ca, rfl⟩ := hs.slice
  have HC := Lib.hid hc
  obtain ⟨n, hn⟩ : ∃ n, n = s.length := ⟨_, rfl⟩
  have HN := Lib.hid hn
  rw [← hn] at hs h0 hl ⊢
  have HS := Lib.hid hs
  clear hc hs hn
  have w1 : IntKind.i64.wrap room = room := by rw [IntKind.wrap_i64]; omega
  have w2' : IntKind.i64.wrap ((n : Int) + room) = (n : Int) + room := by rw [IntKind.wrap_i64]; omega
  go_enter_defers Try.func34, Try.ntmps34
  go_wp2_with fail
  have HF := Lib.hid (do_news w (.cells #[.int .i64 0, .int .u32 (u32 ct), .slice pa n ca, .int .i8 room] TSt) (.cells #[Value.slice none 0 0, .bool false] TOu))
  have HB := Lib.hid (do_block w (.cells #[.int .i64 0, .int .u32 (u32 ct), .slice pa n ca, .int .i8 room] TSt) TOu #[Value.slice none 0 0, .bool false])
  have HBX := Lib.hid (heap_alloc2_old w (.cells #[.int .i64 0, .int .u32 (u32 ct), .slice pa n ca, .int .i8 room] TSt) (.cells #[Value.slice none 0 0, .bool false] TOu))
  have hsz2 : ((w.alloc (.cells #[Value.int .i64 0, .int .u32 (u32 ct), .slice pa n ca, .int .i8 room] TSt)).alloc (.cells #[Value.slice none 0 0, .bool false] TOu)).heap.size = w.heap.size + 2 := by simp
  generalize ((w.alloc (.cells #[Value.int .i64 0, .int .u32 (u32 ct), .slice pa n ca, .int .i8 room] TSt)).alloc (.cells #[Value.slice none 0 0, .bool false] TOu)) = w2 at HF HB HBX hsz2 ⊢
  refine (filled_c ((n : Int) + room) w2 (by omega)).mono ?_
  rintro e w3 ⟨vd, rfl, hod, hfd⟩
  have HO := Lib.hid hod
  have HF3 := Lib.hid hfd
  have hbx := hfd.at HBX.out
  have c2 : w3.cell? ⟨w.heap.size, 2, none⟩ = some (.slice pa n ca) := by rw [cell_block hbx]; rfl
  have hsz3 : w2.heap.size ≤ w3.heap.size := hfd.size
  obtain ⟨pd, cd, rfl⟩ := hod.slice
  obtain ⟨nd, hnd⟩ : ∃ nd, nd = (fillB ((n : Int) + room).toNat).length := ⟨_, rfl⟩
  rw [← hnd]
  rw [fillB_len] at hnd
  have hlt : nd < n := by omega
  clear hod hfd hbx hnd
  go_wp2_with fail
  have HS3 := Lib.hid (HS.out.fresh (HF.out.trans HF3.out))
  refine (copied_c (.slice pa n ca) s w3 HS3.out (by have := HN.out; omega)).mono ?_
  rintro e w4 ⟨vs, rfl, hos, hfs⟩
  obtain ⟨ps, cs, rfl⟩ := hos.slice
  rw [← HN.out]
  have HF4 := Lib.hid hfs
  clear hos hfs
  go_wp2_with fail
  refine (XKS_short b pd ps nd cd n cs w4 hlt).mono ?_
  rintro e w5 ⟨⟨pv, rfl⟩, rfl⟩
  have HF25 := Lib.hid (HF3.out.trans HF4.out)
  have HB5 := Lib.hid (Fresh.at HF25.out HB.out)
  refine do_caught rfl HB5.out (fun w6 hk6 => ?_)
  refine ⟨_, by rw [doA_short _ _ _ _ _ (by have := HN.out; omega) hr2], ?_, fun e => ?_, do_frame HF.out (Fresh.to (S := fun q => q = b) HF25.out) (fun _ _ e => e) hk6 (by omega)⟩
  · rw [doA_short _ _ _ _ _ (by have := HN.out; omega) hr2]
    exact World.ownsRow_nil _ _ _ _
  · rw [doA_short _ _ _ _ _ (by have := HN.out; omega) hr2] at e
    cases e
set_option maxHeartbeats 1000000 in
theorem do_into (R : Nat) (hc : CipS K w b a) (hs : SlB w vb s) (hr : R ≤ 127) (h0 : 0 < s.length) (hl : s.length ≤ 140737488353280) :
    Calls Try.prog 34 #[.pointer (some ⟨b, 0, none⟩), .agg #[.int .i64 0, .int .u32 (u32 ct), vb, .int .i8 (R : Int)]] w (DoR K a ⟨0, ct, s, (R : Int)⟩ b w) := by
  have hmf : ∀ (fn : Fn) (first cap : Array Value) (w : World), (Instr.makeFunc fn first cap).run Try.prog w = .ok (.func fn first cap) w := fun _ _ _ _ => rfl
  have hltb : b < w.heap.size := hc.lt
  obtain ⟨pa, ca, rfl⟩ := hs.slice
  have HC := Lib.hid hc
  obtain ⟨n, hn⟩ : ∃ n, n = s.length := ⟨_, rfl⟩
  have HN := Lib.hid hn
  rw [← hn] at hs h0 hl ⊢
  have HS := Lib.hid hs
  clear hc hs hn
  have w1 : IntKind.i64.wrap (R : Int) = (R : Int) := by rw [IntKind.wrap_i64]; omega
  have w2' : IntKind.i64.wrap ((n : Int) + (R : Int)) = (n : Int) + (R : Int) := by rw [IntKind.wrap_i64]; omega
  have HOV : Hid (endK < a + n → doA K a ⟨0, ct, s, (R : Int)⟩ = ⟨[], true⟩) := Lib.hid (fun h => doA_over _ _ _ _ _ (by rw [← HN.out]; exact h))
  have HOK : Hid (¬ endK < a + n → doA K a ⟨0, ct, s, (R : Int)⟩ = ⟨xs (fun i => K.ks (a + i)) s ++ fillB R, false⟩) := Lib.hid (fun h => by rw [doA_into _ _ _ _ _ (by omega) (by rw [← HN.out]; exact h)]; rfl)
  go_enter_defers Try.func34, Try.ntmps34
  go_wp2_with fail
  have HF := Lib.hid (do_news w (.cells #[.int .i64 0, .int .u32 (u32 ct), .slice pa n ca, .int .i8 (R : Int)] TSt) (.cells #[Value.slice none 0 0, .bool false] TOu))
  have HB := Lib.hid (do_block w (.cells #[.int .i64 0, .int .u32 (u32 ct), .slice pa n ca, .int .i8 (R : Int)] TSt) TOu #[Value.slice none 0 0, .bool false])
  have HBX := Lib.hid (heap_alloc2_old w (.cells #[.int .i64 0, .int .u32 (u32 ct), .slice pa n ca, .int .i8 (R : Int)] TSt) (.cells #[Value.slice none 0 0, .bool false] TOu))
  have hsz2 : ((w.alloc (.cells #[Value.int .i64 0, .int .u32 (u32 ct), .slice pa n ca, .int .i8 (R : Int)] TSt)).alloc (.cells #[Value.slice none 0 0, .bool false] TOu)).heap.size = w.heap.size + 2 := by simp
  generalize ((w.alloc (.cells #[Value.int .i64 0, .int .u32 (u32 ct), .slice pa n ca, .int .i8 (R : Int)] TSt)).alloc (.cells #[Value.slice none 0 0, .bool false] TOu)) = w2 at HF HB HBX hsz2 ⊢
  refine (filled_c ((n : Int) + (R : Int)) w2 (by omega)).mono ?_
  rintro e w3 ⟨vd, rfl, hod, hfd⟩
  have HO := Lib.hid hod
  have HF3 := Lib.hid hfd
  have hbx := hfd.at HBX.out
  have c2 : w3.cell? ⟨w.heap.size, 2, none⟩ = some (.slice pa n ca) := by rw [cell_block hbx]; rfl
  have hsz3 : w2.heap.size ≤ w3.heap.size := hfd.size
  have hnR : ((n : Int) + (R : Int)).toNat = n + R := by omega
  rw [hnR] at HO hod
  obtain ⟨g1, cap1, tl, rfl, hg1, hg1l, hc1, hm1, hd1, hmk⟩ := hod.dst (by rw [fillB_len]; omega)
  rw [fillB_len] at hc1 hmk ⊢
  have HD1 := Lib.hid hd1
  have HMK := Lib.hid hmk
  clear hod hfd hbx hd1 hmk hnR
  go_wp2_with fail
  have HS3 := Lib.hid (HS.out.fresh (HF.out.trans HF3.out))
  refine (copied_c (.slice pa n ca) s w3 HS3.out (by have := HN.out; omega)).mono ?_
  rintro e w4 ⟨vs, rfl, hos, hfs⟩
  obtain ⟨g2, cap2, tl2, rfl, hg2, hg2l, hc2, hm2, hd2, -⟩ := hos.dst (by have := HN.out; omega)
  rw [← HN.out] at hc2 ⊢
  have hby : BytesAt w4 g2 0 s := fun i hi => hd2.cell hi
  have HF25 := Lib.hid (HF3.out.trans hfs)
  have hsz4 := hfs.size
  have HX := Lib.hid (XKS_c K b g1 0 g2 0 n (n + R) cap1 cap2 a [] tl (fillB (n + R)) s w4 ((HC.out.keeps HF.out (fun x => x)).keeps HF25.out (fun x => x)) (by omega) (by omega) (HD1.out.keeps hfs (fun x => x)) rfl (fillB_len _) HN.out.symm (by omega) (Or.inr ⟨by omega, hby⟩) hc1 hc2 hm2 h0 (by omega))
  clear hos hfs hd2 hby
  go_wp2_with fail
  by_cases hover : endK < a + n
  · refine (HX.out.mono ?_)
    rintro e w5 ⟨hk5, hx5⟩
    rw [if_pos hover] at hx5
    obtain ⟨pv, rfl⟩ := hx5
    have HB5 := Lib.hid (hk5.at (Fresh.at HF25.out HB.out) (by omega))
    have HK5 := Lib.hid hk5
    clear hk5
    refine do_caught rfl HB5.out (fun w6 hk6 => ?_)
    have hA := HOV.out hover
    refine ⟨_, by rw [hA], by rw [hA]; exact World.ownsRow_nil _ _ _ _, fun e => ?_, do_frame (HF.out.trans HF25.out) HK5.out (fun q hq e => by rcases e with e | e; exact e; omega) hk6 (by omega)⟩
    rw [hA] at e
    cases e
  · refine (HX.out.mono ?_)
    rintro e w5 ⟨hk5, hx5⟩
    rw [if_neg hover] at hx5
    obtain ⟨rfl, hd5, hc5⟩ := hx5
    have HB5 := Lib.hid (hk5.at (Fresh.at HF25.out HB.out) (by omega))
    have HK5 := Lib.hid hk5
    have HD5 := Lib.hid hd5
    have HC5 := Lib.hid hc5
    have HOVN := Lib.hid (HOK.out hover)
    have hsz5 := hk5.size
    clear hk5 hd5 hc5 hover HOV HOK
    obtain ⟨⟨c0, c1⟩, f0, f1⟩ := two_cells HB5.out
    go_wp2_with fail
    refine do_leave rfl (two_set HB5.out _ _) ?_
    have K6 := two_keeps (Keeps.refl (fun q => q = w.heap.size + 1) w5) (.slice (some ⟨g1, 0, none⟩) (n + R) cap1) (.bool false)
    have hA := HOVN.out
    refine ⟨_, by rw [hA], ?_, fun _ => ?_, do_frame (HF.out.trans HF25.out) HK5.out (fun q hq e => by rcases e with e | e; exact e; omega) K6 (by omega)⟩
    · rw [hA]
      refine OwnB.mono (base := w2.heap.size) (OwnB.kept (w := w5) ?_ K6 (fun k hk e => by omega)) (by omega)
      rw [← fillB_drop n R]
      exact HMK.out w5 _ (by rw [List.length_append, xs_len, List.length_drop, fillB_len, ← HN.out]; omega) HD5.out
    · rw [doN_into, ← HN.out]
      exact HC5.out.keeps K6 (by omega)
set_option maxHeartbeats 1000000 in
theorem do_place (room : Int) (hc : CipS K w b a) (hs : SlB w vb s) (h0 : 0 < s.length) (hl : s.length ≤ 140737488353280) :
    Calls Try.prog 34 #[.pointer (some ⟨b, 0, none⟩), .agg #[.int .i64 1, .int .u32 (u32 ct), vb, .int .i8 room]] w (DoR K a ⟨1, ct, s, room⟩ b w) := by
  have hmf : ∀ (fn : Fn) (first cap : Array Value) (w : World), (Instr.makeFunc fn first cap).run Try.prog w = .ok (.func fn first cap) w := fun _ _ _ _ => rfl
  have hltb : b < w.heap.size := hc.lt
  obtain ⟨pa, ca, rfl⟩ := hs.slice
  have HC := Lib.hid hc
  obtain ⟨n, hn⟩ : ∃ n, n = s.length := ⟨_, rfl⟩
  have HN := Lib.hid hn
  rw [← hn] at hs h0 hl ⊢
  have HS := Lib.hid hs
  clear hc hs hn
  have HOV : Hid (endK < a + n → doA K a ⟨1, ct, s, room⟩ = ⟨[], true⟩) := Lib.hid (fun h => doA_placeOver _ _ _ _ _ (by rw [← HN.out]; exact h))
  have HOK : Hid (¬ endK < a + n → doA K a ⟨1, ct, s, room⟩ = ⟨xs (fun i => K.ks (a + i)) s, false⟩) := Lib.hid (fun h => doA_place _ _ _ _ _ (by rw [← HN.out]; exact h))
  go_enter_defers Try.func34, Try.ntmps34
  go_wp2_with fail
  have HF := Lib.hid (do_news w (.cells #[.int .i64 1, .int .u32 (u32 ct), .slice pa n ca, .int .i8 room] TSt) (.cells #[Value.slice none 0 0, .bool false] TOu))
  have HB := Lib.hid (do_block w (.cells #[.int .i64 1, .int .u32 (u32 ct), .slice pa n ca, .int .i8 room] TSt) TOu #[Value.slice none 0 0, .bool false])
  have HBX := Lib.hid (heap_alloc2_old w (.cells #[.int .i64 1, .int .u32 (u32 ct), .slice pa n ca, .int .i8 room] TSt) (.cells #[Value.slice none 0 0, .bool false] TOu))
  have hsz2 : ((w.alloc (.cells #[Value.int .i64 1, .int .u32 (u32 ct), .slice pa n ca, .int .i8 room] TSt)).alloc (.cells #[Value.slice none 0 0, .bool false] TOu)).heap.size = w.heap.size + 2 := by simp
  generalize ((w.alloc (.cells #[Value.int .i64 1, .int .u32 (u32 ct), .slice pa n ca, .int .i8 room] TSt)).alloc (.cells #[Value.slice none 0 0, .bool false] TOu)) = w2 at HF HB HBX hsz2 ⊢
  have HS2 := Lib.hid (HS.out.fresh HF.out)
  refine (copied_c (.slice pa n ca) s w2 HS2.out (by have := HN.out; omega)).mono ?_
  rintro e w4 ⟨vs, rfl, hos, hfs⟩
  obtain ⟨g1, cap1, tl, rfl, hg1, hg1l, hc1, hm1, hd1, hmk⟩ := hos.dst (by have := HN.out; omega)
  rw [← HN.out] at hc1 hmk ⊢
  have HF25 : Hid (Fresh w2 w4) := Lib.hid hfs
  have hsz4 := hfs.size
  have HMK := Lib.hid hmk
  have HX := Lib.hid (XKS_c K b g1 0 g1 0 n n cap1 cap1 a [] tl s s w4 ((HC.out.keeps HF.out (fun x => x)).keeps HF25.out (fun x => x)) (by omega) (by omega) hd1 rfl HN.out.symm HN.out.symm (Nat.le_refl _) (Or.inl ⟨rfl, rfl, by rw [HN.out, List.take_length]⟩) hc1 hc1 hm1 h0 (by omega))
  clear hos hfs hd1 hmk
  go_wp2_with fail
  by_cases hover : endK < a + n
  · refine (HX.out.mono ?_)
    rintro e w5 ⟨hk5, hx5⟩
    rw [if_pos hover] at hx5
    obtain ⟨pv, rfl⟩ := hx5
    have HB5 := Lib.hid (hk5.at (Fresh.at HF25.out HB.out) (by omega))
    have HK5 := Lib.hid hk5
    clear hk5
    refine do_caught rfl HB5.out (fun w6 hk6 => ?_)
    have hA := HOV.out hover
    refine ⟨_, by rw [hA], by rw [hA]; exact World.ownsRow_nil _ _ _ _, fun e => ?_, do_frame (HF.out.trans HF25.out) HK5.out (fun q hq e => by rcases e with e | e; exact e; omega) hk6 (by omega)⟩
    rw [hA] at e
    cases e
  · refine (HX.out.mono ?_)
    rintro e w5 ⟨hk5, hx5⟩
    rw [if_neg hover] at hx5
    obtain ⟨rfl, hd5, hc5⟩ := hx5
    have HB5 := Lib.hid (hk5.at (Fresh.at HF25.out HB.out) (by omega))
    have HK5 := Lib.hid hk5
    have HD5 := Lib.hid hd5
    have HC5 := Lib.hid hc5
    have HOVN := Lib.hid (HOK.out hover)
    have hsz5 := hk5.size
    clear hk5 hd5 hc5 hover HOV HOK
    obtain ⟨⟨c0, c1⟩, f0, f1⟩ := two_cells HB5.out
    go_wp2_with fail
    refine do_leave rfl (two_set HB5.out _ _) ?_
    have K6 := two_keeps (Keeps.refl (fun q => q = w.heap.size + 1) w5) (.slice (some ⟨g1, 0, none⟩) n cap1) (.bool false)
    have hA := HOVN.out
    refine ⟨_, by rw [hA], ?_, fun _ => ?_, do_frame (HF.out.trans HF25.out) HK5.out (fun q hq e => by rcases e with e | e; exact e; omega) K6 (by omega)⟩
    · rw [hA]
      refine OwnB.mono (base := w2.heap.size) (OwnB.kept (w := w5) ?_ K6 (fun k hk e => by omega)) (by omega)
      exact HMK.out w5 _ (by rw [xs_len]; exact HN.out.symm) (by have := HD5.out; rwa [List.drop_eq_nil_of_le (by rw [HN.out]; exact Nat.le_refl _), List.append_nil] at this)
    · rw [doN_place, ← HN.out]
      exact HC5.out.keeps K6 (by omega)
theorem do_place_none (room : Int) (hc : CipS K w b a) (hs : SlB w vb s) (h0 : s.length = 0) :
    Calls Try.prog 34 #[.pointer (some ⟨b, 0, none⟩), .agg #[.int .i64 1, .int .u32 (u32 ct), vb, .int .i8 room]] w (DoR K a ⟨1, ct, s, room⟩ b w) := by
  have HZ := Lib.hid h0
  clear h0
  have hmf : ∀ (fn : Fn) (first cap : Array Value) (w : World), (Instr.makeFunc fn first cap).run Try.prog w = .ok (.func fn first cap) w := fun _ _ _ _ => rfl
  have hltb : b < w.heap.size := hc.lt
  obtain ⟨pa, ca, rfl⟩ := hs.slice
  have HC := Lib.hid hc
  have HS := Lib.hid hs
  clear hc hs
  rw [HZ.out]
  go_enter_defers Try.func34, Try.ntmps34
  go_wp2_with fail
  have HF := Lib.hid (do_news w (.cells #[.int .i64 1, .int .u32 (u32 ct), .slice pa 0 ca, .int .i8 room] TSt) (.cells #[Value.slice none 0 0, .bool false] TOu))
  have HB := Lib.hid (do_block w (.cells #[.int .i64 1, .int .u32 (u32 ct), .slice pa 0 ca, .int .i8 room] TSt) TOu #[Value.slice none 0 0, .bool false])
  have HBX := Lib.hid (heap_alloc2_old w (.cells #[.int .i64 1, .int .u32 (u32 ct), .slice pa 0 ca, .int .i8 room] TSt) (.cells #[Value.slice none 0 0, .bool false] TOu))
  have hsz2 : ((w.alloc (.cells #[Value.int .i64 1, .int .u32 (u32 ct), .slice pa 0 ca, .int .i8 room] TSt)).alloc (.cells #[Value.slice none 0 0, .bool false] TOu)).heap.size = w.heap.size + 2 := by simp
  generalize ((w.alloc (.cells #[Value.int .i64 1, .int .u32 (u32 ct), .slice pa 0 ca, .int .i8 room] TSt)).alloc (.cells #[Value.slice none 0 0, .bool false] TOu)) = w2 at HF HB HBX hsz2 ⊢
  have HSZ : Hid (SlB w2 (.slice pa 0 ca) []) := Lib.hid (by
    have h := HS.out
    rw [List.eq_nil_of_length_eq_zero HZ.out] at h
    exact h.fresh HF.out)
  refine (copied_c (.slice pa 0 ca) [] w2 HSZ.out (by decide)).mono ?_
  rintro e w4 ⟨vs, rfl, hos, hfs⟩
  obtain ⟨ps, cs, rfl⟩ := hos.slice
  have HO := Lib.hid hos
  have HF25 : Hid (Fresh w2 w4) := Lib.hid hfs
  clear hos hfs
  go_wp2_with fail
  refine (XKS_none b _ _ _ w4).mono ?_
  rintro e w5 ⟨rfl, rfl⟩
  have HB5 := Lib.hid (Fresh.at HF25.out HB.out)
  obtain ⟨⟨c0, c1⟩, f0, f1⟩ := two_cells HB5.out
  have hsz5 : w2.heap.size ≤ w5.heap.size := HF25.out.size
  go_wp2_with fail
  refine do_leave rfl (two_set HB5.out _ _) ?_
  have hA' : doA K a ⟨1, ct, s, room⟩ = ⟨[], false⟩ := by
    rw [doA_place _ _ _ _ _ (by have := HZ.out; have := HC.out.le; omega), List.eq_nil_of_length_eq_zero HZ.out, xs_nil]
  have K6 := two_keeps (Keeps.refl (fun q => q = w.heap.size + 1) w5) (.slice ps 0 cs) (.bool false)
  refine ⟨_, by rw [hA'], ?_, fun _ => ?_, do_frame HF.out (Fresh.to (S := fun q => q = b) HF25.out) (fun _ _ e => e) K6 (by omega)⟩
  · rw [hA']
    exact (HO.out.kept K6 (fun k hk e => by omega)).mono (by omega)
  · rw [doN_place, HZ.out]
    exact ((HC.out.keeps HF.out (fun x => x)).keeps HF25.out (fun x => x)).keeps K6 (by omega)
end
/-- do -/
theorem do_c (K : CK) (b a : Nat) (s : St) (vb : Value) (w : World) (hc : CipS K w b a) (hs : SlB w vb s.src) (hr : -128 ≤ s.room ∧ s.room ≤ 127) (hl : s.src.length ≤ 140737488353280) :
    Calls Try.prog 34 #[.pointer (some ⟨b, 0, none⟩), .agg #[.int .i64 s.kind, .int .u32 (u32 s.counter), vb, .int .i8 s.room]] w (DoR K a s b w) := by
  obtain ⟨kd, ct, x, room⟩ := s
  simp only at hs hr hl ⊢
  by_cases h0 : kd = 0
  · subst h0
    by_cases hn : x.length = 0
    · exact do_into_none K b a ct x vb w room hc hs hr.1 hr.2 hn
    · by_cases hr0 : room < 0
      · exact do_into_short K b a ct x vb w room hc hs hr.1 hr0 (by omega) hl
      · obtain ⟨R, rfl⟩ : ∃ R : Nat, room = R := ⟨room.toNat, by omega⟩
        exact do_into K b a ct x vb w R hc hs (by omega) (by omega) hl
  · by_cases h1 : kd = 1
    · subst h1
      by_cases hn : x.length = 0
      · exact do_place_none K b a ct x vb w room hc hs hn
      · exact do_place K b a ct x vb w room hc hs (by omega) hl
    · by_cases h2 : kd = 2
      · subst h2
        by_cases hx : 64 * ct.toNat < a
        · exact do_set_bad K b a ct x vb w room hc hs hx
        · exact do_set_good K b a ct x vb w room hc hs hx
      · exact do_other K b a ct x vb w kd room hc hs h0 h1 h2
end Go.Proofs.Ytlafnkcmdnfcpaa
