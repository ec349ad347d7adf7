/-
  The walk of laws.FnCuts.
-/
import Derived.Test.YtaapglpnofmmlaaLawR
import Derived.Test.YtaapglpnofmmlaaArgRows
import Derived.Test.YtaapglpnofmmlaaAppS
import Derived.Deep.QuietTactic
namespace Go.Proofs.Ytaapglpnofmmlaa
open Go Go.RowKit
set_option linter.unusedVariables false
attribute [local irreducible] Cha.iter Cha.rounds Cha.dbl Cha.qr ckOf run doA doN CK.ks withinB xs
/-- the script: the counter, then the pieces -/
def stepsOf (c : UInt32) (qs : List (Value × List UInt8)) : List (Value × St) := (.slice none 0 0, atS c) :: qs.map fun q => (q.1, intoS q.2)
theorem stepsOf_snoc (c : UInt32) (qs : List (Value × List UInt8)) (q : Value × List UInt8) : stepsOf c (qs ++ [q]) = stepsOf c qs ++ [(q.1, intoS q.2)] := by simp [stepsOf]
theorem stepsOf_len (c : UInt32) (qs : List (Value × List UInt8)) : (stepsOf c qs).length = qs.length + 1 := by simp [stepsOf]
theorem stepsOf_map (c : UInt32) (qs : List (Value × List UInt8)) : (stepsOf c qs).map (·.2) = atS c :: (qs.map (·.2)).map intoS := by simp [stepsOf, List.map_map, Function.comp]
theorem flat_len (l : List (List UInt8)) : l.flatten.length = totalR l := by
  induction l with
  | nil => rfl
  | cons x r ih => simp only [List.flatten_cons, List.length_append, ih, totalR]
theorem totalR_mem {l : List (List UInt8)} {x : List UInt8} (h : x ∈ l) : x.length ≤ totalR l := by
  induction l with
  | nil => cases h
  | cons y r ih =>
    simp only [totalR]
    rcases List.mem_cons.1 h with rfl | h
    · omega
    · have := ih h; omega
theorem totalR_append (a b : List (List UInt8)) : totalR (a ++ b) = totalR a + totalR b := by
  induction a with
  | nil => simp [totalR]
  | cons x r ih => simp only [List.cons_append, totalR, ih]; omega
theorem Ran.pieces (K : CK) (c : UInt32) (ps : List (List UInt8)) (h : 64 * c.toNat + ps.flatten.length ≤ endK) : Ran K (atS c :: ps.map intoS) (xs (fun i => K.ks (64 * c.toNat + i)) ps.flatten) := by
  obtain ⟨a1, a2, a3⟩ := run_pieces K ps (64 * c.toNat) h
  unfold Ran
  rw [run_at _ _ _ _ (Nat.zero_le _)]
  refine ⟨by rw [outsOk_cons, a2]; rfl, by simp [a3], by rw [outsB_cons, a1]; rfl⟩
theorem take_succ_get {α : Type} {l : List α} {k : Nat} {q : α} (h : l[k]? = some q) : l.take (k + 1) = l.take k ++ [q] := by
  rw [List.take_add_one, h]; rfl
/-- append of one step -/
theorem wpList_appSt {ops : Array Oper} {rest : List Oper} {o : Oper} {a : Act} {w : World} {Q : Exit → Act → World → Prop} (hgd : o.guard = none) (s x : Operand)
    (ho : o.op = .call { callee := .builtin .append, args := #[s, x], argTypes := #[45, 45] }) (base : Nat) (v : Value) (qs : List (Value × St)) (q : Value × St) (g : Nat)
    (hs : a.eval s = v) (hx : a.eval x = .slice (some ⟨g, 0, none⟩) 1 1) (hown : w.ownsRow base TSt 4 v qs.length (stepCells qs)) (hg : w.heap[g]? = some (.cells #[.int .i64 q.2.kind, .int .u32 (u32 q.2.counter), q.1, .int .i8 q.2.room] TSt (0, 0)))
    (hone : q.1.oneCell' = true) (hlen : qs.length < 2000000000) (hbase : base ≤ w.heap.size)
    (h : ∀ v' w', Hid (w'.ownsRow base TSt 4 v' (qs.length + 1) (stepCells (qs ++ [q]))) → Hid (Keeps (fun q => v.ownBlock = some q) w w') → wpList Try.prog ops Q rest (a.put o.dst v') w') : wpList Try.prog ops Q (o :: rest) a w := by
  obtain ⟨i0, hi, hz0, hz1, hz2⟩ := info_parts infoSt
  refine wpList_append_own_wide _ hgd s x 45 ho base TSt i0 _ 4 48 Try.underlying45 hi hz0 hz1 hz2 rfl (by decide) v qs.length (stepCells qs) hs hown ⟨g, 0, none⟩ 1 1 (stepCells [q]) hx rfl ?_ (stepCells_one ?_) (by unfold maxLen; omega) (by omega) hbase ?_
  · intro j u hu
    rw [Addr.add_lit, Nat.zero_add, cell_block hg]
    simpa [stepCells] using hu
  · intro p hp
    rw [List.mem_singleton] at hp
    subst hp
    exact hone
  · intro v' w' h1 h2 _
    refine h v' w' (Lib.hid ?_) (Lib.hid ((Keeps.refl _ w).grown h2 (fun k hk => Or.inl hk)))
    rw [stepCells_append]
    exact h1
theorem StepsL.ofRow {w : World} {base : Nat} {v : Value} {ss : List (Value × St)} (h : w.ownsRow base TSt 4 v ss.length (stepCells ss)) (hs : ∀ q ∈ ss, SlB w q.1 q.2.src) : StepsL w v ss := by
  refine ⟨?_, hs⟩
  rcases h.2 with ⟨hv, h0⟩ | ⟨g, cap, cur, hv, hb, hg, h1, h2, h3, h4⟩
  · exact Or.inl ⟨hv, List.eq_nil_of_length_eq_zero h0⟩
  · exact Or.inr ⟨⟨g, 0, none⟩, cap, hv, h1, h2, World.ownsRow.cells h (g := g) (by rw [hv]; rfl)⟩
def CutsSRel (c : UInt32) (qs : List (Value × List UInt8)) (w2 : World) (vs vw i : Value) (wr : World) : Prop :=
  ∃ k : Nat, k ≤ qs.length ∧ i = .int .i64 k ∧ wr.ownsRow w2.heap.size TSt 4 vs (k + 1) (stepCells (stepsOf c (qs.take k))) ∧ OwnB 5 wr w2.heap.size vw ((qs.take k).map (·.2)).flatten ∧ Fresh w2 wr
set_option maxRecDepth 100000 in
set_option maxHeartbeats 4000000 in
theorem fnCuts_c (key nonce : List UInt8) (long : Bool) (c : UInt32) (qs : List (Value × List UInt8)) (vp : Value) (w : World) (hk : key.length = 32) (hnl : nonce.length = 24) (hc : RowsL w vp qs) (hb : totalR (qs.map (·.2)) + qs.length ≤ 1048576) :
    Calls Try.prog 8 #[.agg (cells8 key), .agg (cells8 nonce), .bool long, .int .u32 (u32 c), vp] w fun e w' => e = .returned (.bool true) ∧ Fresh w w' := by
  obtain ⟨pa, ca, rfl⟩ := hc.shape
  have HC := Lib.hid hc
  clear hc
  have HKL := Lib.hid hk
  have HNL := Lib.hid hnl
  have h1 := cells8_one key
  have h2 := cells8_one nonce
  clear hk hnl
  go_enter Try.func8, Try.ntmps8
  refine wp_seq_hold (fun K0 HK0 => ?_)
  go_wp2_with fail
  have HBK := Lib.hid (heap_alloc2_old w (.cells (cells8 key) 27) (.cells (cells8 nonce) 28))
  have HBN := Lib.hid (heap_alloc2_new w (.cells (cells8 key) 27) (.cells (cells8 nonce) 28))
  have HF2 : Hid (Fresh w ((w.alloc (.cells (cells8 key) 27)).alloc (.cells (cells8 nonce) 28))) := Lib.hid (((Keeps.refl _ w).alloc _).alloc _)
  generalize ((w.alloc (.cells (cells8 key) 27)).alloc (.cells (cells8 nonce) 28)) = w2 at HBK HBN HF2 ⊢
  refine HK0.out _ _ ?_
  clear HK0
  have HC2 := Lib.hid (HC.out.fresh HF2.out)
  go_wp2_with fail
  refine (at_c c w2).mono ?_
  rintro e w3 ⟨rfl, hf⟩
  have HF3 := Lib.hid hf
  have hsz3 := hf.size
  clear hf
  simp only [stV, atS]
  go_wp2_with fail
  have HS1 : Hid (((w3.alloc (.cells #[.int .i64 2, .int .u32 (Go.Proofs.Ytaapglpnofmmlaa.u32 c), .slice none 0 0, .int .i8 0] TSt)).alloc (.cells #[] 5)).ownsRow w2.heap.size TSt 4 (.slice (some ⟨w3.heap.size, 0, none⟩) 1 1) 1 (stepCells (stepsOf c []))) := Lib.hid (by
    refine World.ownsRow.alloc ?_ _
    exact World.ownsRow_lit (base := w2.heap.size) (e := TSt) (size := 4) w3 #[.int .i64 2, .int .u32 (Go.Proofs.Ytaapglpnofmmlaa.u32 c), .slice none 0 0, .int .i8 0] 1 hsz3 (by decide) rfl)
  have HM1 : Hid (OwnB 5 ((w3.alloc (.cells #[.int .i64 2, .int .u32 (Go.Proofs.Ytaapglpnofmmlaa.u32 c), .slice none 0 0, .int .i8 0] TSt)).alloc (.cells #[] 5)) w2.heap.size (.slice (some ⟨w3.heap.size + 1, 0, none⟩) 0 0) []) := Lib.hid (by
    have := World.ownsRow_lit (base := w2.heap.size) (e := 5) (size := 1) (w3.alloc (.cells #[.int .i64 2, .int .u32 (Go.Proofs.Ytaapglpnofmmlaa.u32 c), .slice none 0 0, .int .i8 0] TSt)) #[] 0 (by simp; omega) (by decide) rfl
    rw [show (w3.alloc (.cells #[.int .i64 2, .int .u32 (Go.Proofs.Ytaapglpnofmmlaa.u32 c), .slice none 0 0, .int .i8 0] TSt)).heap.size = w3.heap.size + 1 by simp] at this
    exact this)
  have HF1 : Hid (Fresh w2 ((w3.alloc (.cells #[.int .i64 2, .int .u32 (Go.Proofs.Ytaapglpnofmmlaa.u32 c), .slice none 0 0, .int .i8 0] TSt)).alloc (.cells #[] 5))) := Lib.hid ((HF3.out.alloc _).alloc _)
  generalize ((w3.alloc (.cells #[.int .i64 2, .int .u32 (Go.Proofs.Ytaapglpnofmmlaa.u32 c), .slice none 0 0, .int .i8 0] TSt)).alloc (.cells #[] 5)) = w1 at HS1 HM1 HF1 ⊢
  go_loopw [11, 12, 25] (fun vs vw i wr => CutsSRel c qs w2 vs vw i wr) (fun _ _ i _ => qs.length - (intOf i).toNat)
  case atStart => exact ⟨0, Nat.zero_le _, rfl, HS1.out, HM1.out, HF1.out⟩
  case round =>
    clear HS1 HM1 HF1
    obtain ⟨k, hk, rfl, hos, how, hf⟩ := hrel
    have HOS := Lib.hid hos
    have HOW := Lib.hid how
    have HF := Lib.hid hf
    have hszr : w2.heap.size ≤ wr.heap.size := hf.size
    clear hos how hf
    by_cases hlt : k < qs.length
    · obtain ⟨⟨vq, xq⟩, hq⟩ : ∃ q, qs[k]? = some q := ⟨_, List.getElem?_eq_getElem hlt⟩
      obtain ⟨bc, oc, c', he, -, -, hbc, hlie⟩ := HC2.out.form (by omega)
      injection he with e1 e2 e3
      subst e1 e3
      have hsq : SlB w2 vq xq := HC2.out.2 _ (List.mem_of_getElem? hq)
      have c0 := RowsL.at (hlie.fresh HF.out) hq
      simp only at c0
      obtain ⟨pq, cq, hqv⟩ := hsq.slice
      obtain ⟨nq, hnq⟩ : ∃ n, n = xq.length := ⟨_, rfl⟩
      rw [← hnq] at hqv
      subst hqv
      have htk := take_succ_get hq
      have hlt2 : totalR ((qs.take (k + 1)).map (·.2)) ≤ 1048576 := by
        have : totalR (qs.map (·.2)) = totalR ((qs.take (k + 1)).map (·.2)) + totalR ((qs.drop (k + 1)).map (·.2)) := by
          rw [← totalR_append, ← List.map_append, List.take_append_drop]
        omega
      rw [htk, List.map_append, totalR_append] at hlt2
      simp only [List.map_cons, List.map_nil, totalR] at hlt2
      have HSQ := Lib.hid hsq
      have HTK := Lib.hid htk
      have hsl : (stepsOf c (qs.take k)).length = k + 1 := by rw [stepsOf_len, List.length_take]; omega
      have HSL := Lib.hid hsl
      have HWR := Lib.hid (flat_len ((qs.take k).map (·.2)))
      have HLT := Lib.hid hlt2
      clear hq hlie hsq hnq htk hsl hlt2
      go_wp2_with fail
      refine (into_c (.slice pq nq cq) xq wr (HSQ.out.fresh HF.out)).mono ?_
      rintro e w4 ⟨rfl, hf⟩
      have HF4 : Hid (Fresh w2 w4) := Lib.hid (HF.out.trans hf)
      have HX4 := Lib.hid hf
      clear hf
      simp only [stV, intoS]
      have HG4 := Lib.hid (heap_alloc_new w4 (.cells #[.int .i64 0, .int .u32 (Go.Proofs.Ytaapglpnofmmlaa.u32 0), Value.slice pq nq cq, .int .i8 0] TSt))
      have HF5 : Hid (Fresh w2 (w4.alloc (.cells #[.int .i64 0, .int .u32 (Go.Proofs.Ytaapglpnofmmlaa.u32 0), Value.slice pq nq cq, .int .i8 0] TSt))) := Lib.hid (HF4.out.alloc _)
      have HOS5 : Hid ((w4.alloc (.cells #[.int .i64 0, .int .u32 (Go.Proofs.Ytaapglpnofmmlaa.u32 0), Value.slice pq nq cq, .int .i8 0] TSt)).ownsRow w2.heap.size TSt 4 u11 (stepsOf c (qs.take k)).length (stepCells (stepsOf c (qs.take k)))) := Lib.hid (by
        rw [HSL.out]
        exact World.ownsRow.alloc (ownsRow_keeps HOS.out HX4.out (fun _ _ x => x)) _)
      have HOW5 : Hid (OwnB 5 (w4.alloc (.cells #[.int .i64 0, .int .u32 (Go.Proofs.Ytaapglpnofmmlaa.u32 0), Value.slice pq nq cq, .int .i8 0] TSt)) w2.heap.size u12 ((qs.take k).map (·.2)).flatten) := Lib.hid ((HOW.out.kept HX4.out (fun _ _ x => x)).kept ((Keeps.refl (fun _ => False) w4).alloc _) (fun _ _ x => x))
      go_upto_region 7 with (at_builtin; refine wpList_appSt rfl (.tmp 29) (.tmp 32) rfl w2.heap.size u11 (stepsOf c (qs.take k)) (.slice pq nq cq, intoS xq) w4.heap.size rfl rfl HOS5.out HG4.out rfl (by rw [HSL.out]; omega) HF5.out.size ?_; intro v5 w5 HO5 HK5)
      have HF6 : Hid (Fresh w2 w5) := Lib.hid (Fresh.then HF5.out HK5.out (fun q hq e => by have := (World.ownsRow.lt HOS5.out q e).1; omega))
      have HOW6 : Hid (OwnB 5 w5 w2.heap.size u12 ((qs.take k).map (·.2)).flatten) := Lib.hid (OwnB.kept' HOW5.out HK5.out (fun q e e2 => HOW5.out.apart HOS5.out (by decide) q e e2))
      have HOS6 : Hid (w5.ownsRow w2.heap.size TSt 4 v5 (k + 1 + 1) (stepCells (stepsOf c (qs.take (k + 1))))) := Lib.hid (by
        have h := HO5.out
        rw [HSL.out] at h
        rw [HTK.out, stepsOf_snoc]
        exact h)
      clear HO5 HK5 HOS5 HOW5 HOS HOW HG4 HF5
      go_wp2_with (at_builtin; refine wpList_appS rfl (.tmp 34) (.tmp 35) rfl w2.heap.size u12 _ ((qs.take k).map (·.2)).flatten xq rfl rfl HOW6.out (HSQ.out.fresh HF6.out) (by have := HWR.out; have := HLT.out; omega) HF6.out.size ?_; intro v6 w6 HO7 HK7)
      go_roundw
      case rel =>
        refine ⟨k + 1, by omega, by go_num, ?_, ?_, Fresh.then HF6.out HK7.out (fun q hq e => by have := (HOW6.out.lt q e).1; omega)⟩
        · exact ownsRow_keeps HOS6.out HK7.out (fun q e e2 => HOW6.out.apart HOS6.out (by decide) q e2 e)
        · have h := HO7.out
          rw [HTK.out, List.map_append, List.flatten_append]
          simp only [List.map_cons, List.map_nil, List.flatten_cons, List.flatten_nil, List.append_nil]
          exact h
      case measure => simp [intOf]; omega
    · have hks : k = qs.length := by omega
      have hos := HOS.out
      have how := HOW.out
      rw [hks, List.take_length] at hos how
      obtain ⟨whole, hwh⟩ : ∃ m, m = (qs.map (·.2)).flatten := ⟨_, rfl⟩
      rw [← hwh] at how
      have hwt : whole.length = totalR (qs.map (·.2)) := by rw [hwh]; exact flat_len _
      obtain ⟨n, hn⟩ : ∃ n, n = whole.length := ⟨_, rfl⟩
      obtain ⟨N, hN⟩ : ∃ N, N = (stepsOf c qs).length := ⟨_, rfl⟩
      have hNq : N = qs.length + 1 := by rw [hN, stepsOf_len]
      rw [← hNq] at hos
      have hnb : n ≤ 1048576 := by omega
      have HSTP0 : Hid (StepsL wr u11 (stepsOf c qs)) := Lib.hid (StepsL.ofRow (by rw [← hN]; exact hos) (fun q hq => by
        rcases List.mem_cons.1 hq with rfl | hq
        · exact SlB.nil _
        · obtain ⟨p, hp, rfl⟩ := List.mem_map.1 hq
          exact (HC2.out.2 p hp).fresh HF.out))
      have HSB : Hid (∀ q ∈ stepsOf c qs, q.2.src.length ≤ 140737488353280 ∧ -128 ≤ q.2.room ∧ q.2.room ≤ 127) := Lib.hid (fun q hq => by
        rcases List.mem_cons.1 hq with rfl | hq
        · exact okAt c
        · obtain ⟨p, hp, rfl⟩ := List.mem_map.1 hq
          exact okInto (by have := totalR_mem (List.mem_map_of_mem (f := fun x : Value × List UInt8 => x.2) hp); omega))
      have HNB : Hid (N ≤ 4398046511104) := Lib.hid (by omega)
      obtain ⟨pS, cS, hvS⟩ := HSTP0.out.shape
      rw [← hN] at hvS
      subst hvS
      obtain ⟨pW, cW, hvW⟩ := how.slice
      rw [← hn] at hvW
      subst hvW
      have HSTP := HSTP0
      have HOWL := Lib.hid how.sl
      have HWH := Lib.hid hwh
      have HE := Lib.hid hn
      have HNE := Lib.hid hN
      have HFW : Hid (Fresh w wr) := Lib.hid (HF2.out.trans HF.out)
      obtain ⟨w0, hw0⟩ : ∃ w0, w0 = wr := ⟨_, rfl⟩
      subst hw0
      clear hos how hwh hn hN hwt HOS HOW hNq hks HSTP0
      go_wp2_with fail
      have HA1_ : Hid (Fresh w0 w0) := Lib.hid (Keeps.refl _ _)
      refine (within2_c c n w0 (by omega)).mono ?_
      rintro e w3 ⟨rfl, hw3⟩
      subst w3
      cases hwi : withinB c n with
      | false =>
        go_wp2_with fail
        go_ret
        exact ⟨rfl, HFW.out⟩
      | true =>
        have HWI := Lib.hid (within_true hwi)
        clear hwi
        have HXL : Hid (∀ z, (xs z whole).length = n) := Lib.hid (fun z => by rw [xs_len]; exact HE.out.symm)
        go_wp2_with fail
        refine wp_region_ord (fun w' => Fresh w0 w') [(0, true), (1, true), (2, true), (4, true), (3, false), (5, false), (6, true), (7, true), (8, true), (9, true), (10, true)] (by kernel_rfl) (by kernel_rfl) ((Keeps.refl _ w0).drew) ?_
        have HA2_ : Hid (Fresh w0 w0) := Lib.hid (Keeps.refl _ _)
        have HA3_ : Hid (Fresh w w0.drew) := Lib.hid (HFW.out.drew)
        have HA4_ : Hid (Fresh w2 w0.drew) := Lib.hid (HF.out.drew)
        have HA5_ : Hid (Fresh w0 w0.drew) := Lib.hid (HA1_.out.drew)
        have HA6_ : Hid (Fresh w0 w0.drew) := Lib.hid (HA2_.out.drew)
        refine ord_load (.agg (cells8 key)) rfl (by rfl) (fun w' hw' => load32 _ rfl rfl HKL.out HBK.out (HF.out.trans hw')) ?_
        refine ord_load (.agg (cells8 nonce)) rfl (by rfl) (fun w' hw' => load24 _ rfl rfl HNL.out HBN.out (HF.out.trans hw')) ?_
        iterate 2 (refine ord_quiet rfl (fun K hK => ?_); go_simp; refine hK _ ?_; clear hK K)
        refine ord_loud rfl (fun K hK => ?_)
        go_wp2_with fail
        refine (nonceOf_c nonce long _ HNL.out).mono ?_
        rintro e w7_ ⟨vN, rfl, hs, hf⟩
        obtain ⟨p8_, c9_, rfl⟩ := hs.slice
        have HN10_ := Lib.hid hs
        have HA11_ : Hid (Fresh w w7_) := Lib.hid (HA3_.out.trans hf)
        have HA12_ : Hid (Fresh w2 w7_) := Lib.hid (HA4_.out.trans hf)
        have HA13_ : Hid (Fresh w0 w7_) := Lib.hid (HA5_.out.trans hf)
        have HA14_ : Hid (Fresh w0 w7_) := Lib.hid (HA6_.out.trans hf)
        clear hs hf
        have HA15_ : Hid (Fresh w7_ w7_) := Lib.hid (Keeps.refl _ _)
        go_wp2_with fail
        refine hK _ _ HA14_.out ?_
        clear hK K
        refine ord_loud rfl (fun K hK => ?_)
        go_wp2_with fail
        refine (ran_lit (.slice p8_ (nonL nonce long).length c9_) (.slice pS N cS) key (nonL nonce long) (xs (fun i => (ckOf key (nonL nonce long)).ks (64 * c.toNat + i)) whole) (stepsOf c qs) _ HKL.out (HN10_.out.fresh HA15_.out) (nonL_len HNL.out long) (HSTP.out.fresh HA13_.out) (by rw [← HNE.out]; exact HNB.out) HSB.out (by rw [stepsOf_map, HWH.out]; exact Ran.pieces _ c _ (by rw [← HWH.out, ← HE.out]; exact HWI.out.2)) (by rw [HXL.out]; omega)).mono ?_
        rintro e w16_ ⟨vA, rfl, ho, hf⟩
        obtain ⟨pA, cA, hv⟩ := ho.slice
        rw [HXL.out] at hv
        subst hv
        have HOA := Lib.hid ho.sl
        have HA17_ : Hid (Fresh w w16_) := Lib.hid (HA11_.out.trans hf)
        have HA18_ : Hid (Fresh w2 w16_) := Lib.hid (HA12_.out.trans hf)
        have HA19_ : Hid (Fresh w0 w16_) := Lib.hid (HA13_.out.trans hf)
        have HA20_ : Hid (Fresh w0 w16_) := Lib.hid (HA14_.out.trans hf)
        have HA21_ : Hid (Fresh w7_ w16_) := Lib.hid (HA15_.out.trans hf)
        clear ho hf
        have HA22_ : Hid (Fresh w16_ w16_) := Lib.hid (Keeps.refl _ _)
        go_wp2_with fail
        refine hK _ _ HA20_.out ?_
        clear hK K
        iterate 5 (refine ord_quiet rfl (fun K hK => ?_); go_simp; refine hK _ ?_; clear hK K)
        refine ord_last ?_
        go_wp2_with fail
        refine wp_region_ord (fun w' => Fresh w16_ w') [(0, true), (1, true), (2, true), (4, true), (6, true), (3, false), (5, false), (7, false), (8, false), (9, false), (10, true), (11, true), (12, true), (13, true), (14, true)] (by kernel_rfl) (by kernel_rfl) ((Keeps.refl _ w16_).drew) ?_
        have HA23_ : Hid (Fresh w16_ w16_) := Lib.hid (Keeps.refl _ _)
        have HA24_ : Hid (Fresh w w16_.drew) := Lib.hid (HA17_.out.drew)
        have HA25_ : Hid (Fresh w2 w16_.drew) := Lib.hid (HA18_.out.drew)
        have HA26_ : Hid (Fresh w0 w16_.drew) := Lib.hid (HA19_.out.drew)
        have HA27_ : Hid (Fresh w16_ w16_.drew) := Lib.hid (HA22_.out.drew)
        have HA28_ : Hid (Fresh w16_ w16_.drew) := Lib.hid (HA23_.out.drew)
        refine ord_load (.agg (cells8 key)) rfl (by rfl) (fun w' hw' => load32 _ rfl rfl HKL.out HBK.out (HA18_.out.trans hw')) ?_
        refine ord_load (.agg (cells8 nonce)) rfl (by rfl) (fun w' hw' => load24 _ rfl rfl HNL.out HBN.out (HA18_.out.trans hw')) ?_
        iterate 3 (refine ord_quiet rfl (fun K hK => ?_); go_simp; refine hK _ ?_; clear hK K)
        refine ord_loud rfl (fun K hK => ?_)
        go_wp2_with fail
        refine (nonceOf_c nonce long _ HNL.out).mono ?_
        rintro e w29_ ⟨vN, rfl, hs, hf⟩
        obtain ⟨p30_, c31_, rfl⟩ := hs.slice
        have HN32_ := Lib.hid hs
        have HA33_ : Hid (Fresh w w29_) := Lib.hid (HA24_.out.trans hf)
        have HA34_ : Hid (Fresh w2 w29_) := Lib.hid (HA25_.out.trans hf)
        have HA35_ : Hid (Fresh w0 w29_) := Lib.hid (HA26_.out.trans hf)
        have HA36_ : Hid (Fresh w16_ w29_) := Lib.hid (HA27_.out.trans hf)
        have HA37_ : Hid (Fresh w16_ w29_) := Lib.hid (HA28_.out.trans hf)
        clear hs hf
        have HA38_ : Hid (Fresh w29_ w29_) := Lib.hid (Keeps.refl _ _)
        go_wp2_with fail
        refine hK _ _ HA37_.out ?_
        clear hK K
        refine ord_loud rfl (fun K hK => ?_)
        go_wp2_with fail
        refine (at_c (c) _).mono ?_
        rintro e w39_ ⟨rfl, hf⟩
        have HA40_ : Hid (Fresh w w39_) := Lib.hid (HA33_.out.trans hf)
        have HA41_ : Hid (Fresh w2 w39_) := Lib.hid (HA34_.out.trans hf)
        have HA42_ : Hid (Fresh w0 w39_) := Lib.hid (HA35_.out.trans hf)
        have HA43_ : Hid (Fresh w16_ w39_) := Lib.hid (HA36_.out.trans hf)
        have HA44_ : Hid (Fresh w16_ w39_) := Lib.hid (HA37_.out.trans hf)
        have HA45_ : Hid (Fresh w29_ w39_) := Lib.hid (HA38_.out.trans hf)
        clear hf
        try simp only [stV, atS]
        go_wp2_with fail
        refine hK _ _ HA44_.out ?_
        clear hK K
        refine ord_loud rfl (fun K hK => ?_)
        go_wp2_with fail
        refine (into_c (.slice pW n cW) (whole) _ (HOWL.out.fresh HA42_.out)).mono ?_
        rintro e w46_ ⟨rfl, hf⟩
        have HA47_ : Hid (Fresh w w46_) := Lib.hid (HA40_.out.trans hf)
        have HA48_ : Hid (Fresh w2 w46_) := Lib.hid (HA41_.out.trans hf)
        have HA49_ : Hid (Fresh w0 w46_) := Lib.hid (HA42_.out.trans hf)
        have HA50_ : Hid (Fresh w16_ w46_) := Lib.hid (HA43_.out.trans hf)
        have HA51_ : Hid (Fresh w16_ w46_) := Lib.hid (HA44_.out.trans hf)
        have HA52_ : Hid (Fresh w29_ w46_) := Lib.hid (HA45_.out.trans hf)
        clear hf
        try simp only [stV, intoS]
        go_wp2_with fail
        refine hK _ _ HA51_.out ?_
        clear hK K
        refine ord_loud rfl (fun K hK => ?_)
        go_wp2_with fail
        generalize hw54_ : w46_.alloc _ = w53_
        have HA56_ : Hid (Fresh w w53_) := Lib.hid ((by rw [← hw54_]; exact HA47_.out.alloc _))
        have HA57_ : Hid (Fresh w2 w53_) := Lib.hid ((by rw [← hw54_]; exact HA48_.out.alloc _))
        have HA58_ : Hid (Fresh w0 w53_) := Lib.hid ((by rw [← hw54_]; exact HA49_.out.alloc _))
        have HA59_ : Hid (Fresh w16_ w53_) := Lib.hid ((by rw [← hw54_]; exact HA50_.out.alloc _))
        have HA60_ : Hid (Fresh w16_ w53_) := Lib.hid ((by rw [← hw54_]; exact HA51_.out.alloc _))
        have HA61_ : Hid (Fresh w29_ w53_) := Lib.hid ((by rw [← hw54_]; exact HA52_.out.alloc _))
        have HB55_ := Lib.hid hw54_
        clear hw54_
        refine hK _ _ HA60_.out ?_
        clear hK K
        refine ord_loud rfl (fun K hK => ?_)
        go_wp2_with fail
        refine (ran_lit (.slice p30_ (nonL nonce long).length c31_) _ key (nonL nonce long) (xs (fun i => (ckOf key (nonL nonce long)).ks (64 * c.toNat + i)) whole) [(.slice none 0 0, atS (c)), (.slice pW n cW, intoS (whole))] _ HKL.out (HN32_.out.fresh HA61_.out) (nonL_len HNL.out long) (StepsL.lit (b := w46_.heap.size) [(.slice none 0 0, atS (c)), (.slice pW n cW, intoS (whole))] (by rw [← HB55_.out]; exact heap_alloc_new _ _) rfl (Nat.le_of_ble_eq_true rfl) ?_) (Nat.le_of_ble_eq_true rfl) ?_ (Ran.one _ c whole (by rw [← HE.out]; exact HWI.out.2)) (by rw [HXL.out]; omega)).mono ?_
        · intro q hq; simp only [List.mem_cons, List.not_mem_nil, or_false] at hq; rcases hq with rfl | rfl
          · exact SlB.nil _
          · exact HOWL.out.fresh HA58_.out
        · intro q hq; simp only [List.mem_cons, List.not_mem_nil, or_false] at hq; rcases hq with rfl | rfl
          · exact okAt _
          · exact okInto (by rw [← HE.out]; omega)
        rintro e w62_ ⟨v63_, rfl, ho, hf⟩
        obtain ⟨p64_, c65_, hv⟩ := ho.slice
        rw [HXL.out] at hv
        subst hv
        have HO66_ := Lib.hid ho.sl
        have HA67_ : Hid (Fresh w w62_) := Lib.hid (HA56_.out.trans hf)
        have HA68_ : Hid (Fresh w2 w62_) := Lib.hid (HA57_.out.trans hf)
        have HA69_ : Hid (Fresh w0 w62_) := Lib.hid (HA58_.out.trans hf)
        have HA70_ : Hid (Fresh w16_ w62_) := Lib.hid (HA59_.out.trans hf)
        have HA71_ : Hid (Fresh w16_ w62_) := Lib.hid (HA60_.out.trans hf)
        have HA72_ : Hid (Fresh w29_ w62_) := Lib.hid (HA61_.out.trans hf)
        clear ho hf
        have HA73_ : Hid (Fresh w62_ w62_) := Lib.hid (Keeps.refl _ _)
        go_wp2_with fail
        refine hK _ _ HA71_.out ?_
        clear hK K
        iterate 5 (refine ord_quiet rfl (fun K hK => ?_); go_simp; refine hK _ ?_; clear hK K)
        refine ord_last ?_
        have hr1 := run_strB _ _ _ (HO66_.out.fresh HA73_.out)
        have hr2 := run_strB _ _ _ (HOA.out.fresh HA70_.out)
        go_wp2_with fail
        go_ret
        exact ⟨rfl, HA67_.out⟩
end Go.Proofs.Ytaapglpnofmmlaa
