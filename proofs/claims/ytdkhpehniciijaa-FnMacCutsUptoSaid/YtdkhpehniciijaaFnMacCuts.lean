/-
  The walk of laws.FnMacCuts.
-/
import Derived.Test.YtdkhpehniciijaaLawKit
import Derived.Test.YtdkhpehniciijaaArgRows
import Derived.Test.YtdkhpehniciijaaAppS
namespace Go.Proofs.Ytdkhpehniciijaa
open Go Go.RowKit
attribute [local irreducible] tagK
/-- the calls that write pieces -/
def writes (qs : List (Value × List UInt8)) : List (Value × Cl) := qs.map fun q => (q.1, ⟨0, q.2⟩)
/-- all bytes of pieces -/
def wholeR : List (List UInt8) → List UInt8
  | [] => []
  | x :: r => x ++ wholeR r
theorem wholeR_append (a b : List (List UInt8)) : wholeR (a ++ b) = wholeR a ++ wholeR b := by
  induction a with
  | nil => rfl
  | cons x r ih => simp only [List.cons_append, wholeR, ih, List.append_assoc]
theorem wholeR_len (l : List (List UInt8)) : (wholeR l).length = totalR l := by
  induction l with
  | nil => rfl
  | cons x r ih => simp only [wholeR, totalR, List.length_append, ih]
theorem totalR_append (a b : List (List UInt8)) : totalR (a ++ b) = totalR a + totalR b := by
  induction a with
  | nil => simp [totalR]
  | cons x r ih => simp only [List.cons_append, totalR, ih]; omega
theorem totalR_mem {l : List (List UInt8)} {x : List UInt8} (h : x ∈ l) : x.length ≤ totalR l := by
  induction l with
  | nil => cases h
  | cons y r ih =>
    simp only [totalR]
    rcases List.mem_cons.1 h with rfl | h
    · omega
    · have := ih h; omega
/-- the session of writes and a sum -/
theorem sess_writes (key : List UInt8) : ∀ (l : List (List UInt8)) (m : List UInt8), ∃ r, sess key m false (l.map (fun x => (⟨0, x⟩ : Cl)) ++ [⟨1, []⟩]) = r ++ [⟨tagK key (m ++ wholeR l), 0, false, false⟩] ∧ r.length = l.length := by
  intro l
  induction l with
  | nil =>
    intro m
    refine ⟨[], ?_, rfl⟩
    rw [List.map_nil, List.nil_append, List.nil_append, sess_cons, askA_sum, List.nil_append]
    simp only [Bool.false_eq_true, if_false, sess_nil, wholeR, List.append_nil]
  | cons x l ih =>
    intro m
    obtain ⟨r, hr, hl⟩ := ih (m ++ x)
    refine ⟨⟨[], (x.length : Int), false, false⟩ :: r, ?_, by simp [hl]⟩
    rw [List.map_cons, List.cons_append, sess_cons, askA_write, askM_write]
    simp only [Bool.false_eq_true, if_false]
    rw [askF_other x false 0 (by decide) (by decide), hr, wholeR, List.append_assoc, List.cons_append]
def CutsRel (key : List UInt8) (qs : List (Value × List UInt8)) (w : World) (vc vw i : Value) (wr : World) : Prop :=
  ∃ k : Nat, k ≤ qs.length ∧ i = .int .i64 k ∧ wr.ownsRow (w.heap.size + 1) TCl 2 vc k (callCells (writes (qs.take k))) ∧ OwnB 5 wr (w.heap.size + 1) vw (wholeR ((qs.take k).map (·.2))) ∧ Fresh w wr ∧ wr.heap[w.heap.size]? = some (.cells (cells8 key) 22 (0, 0))
theorem take_succ_get {α : Type} {l : List α} {k : Nat} {q : α} (h : l[k]? = some q) : l.take (k + 1) = l.take k ++ [q] := by
  rw [List.take_add_one, h]; rfl
set_option maxRecDepth 100000 in
set_option maxHeartbeats 2000000 in
theorem fnMacCuts_c (key : List UInt8) (qs : List (Value × List UInt8)) (vp : Value) (w : World) (hk : key.length = 32) (hc : RowsL w vp qs) (hb : totalR (qs.map (·.2)) + qs.length ≤ 1048576) :
    Calls Try.prog 14 #[.agg (cells8 key), vp] w fun e w' => e = .returned (.bool true) ∧ Fresh w w' := by
  obtain ⟨pa, ca, rfl⟩ := hc.shape
  have HC := Lib.hid hc
  have HK := Lib.hid hk
  have H1 := cells8_one key
  have HKS := Lib.hid (show (cells8 key).size = 32 by rw [cells8_size, hk])
  have HTS : ∀ m, Hid ((cells8 (tagK key m)).size = 16) := fun m => Lib.hid (by rw [cells8_size, tagK_length])
  clear hc hk
  go_enter Try.func14, Try.ntmps14
  go_wp2_with fail
  have HF1 : Hid (Fresh w (((w.alloc (.cells (cells8 key) 22)).alloc (.cells #[] TCl)).alloc (.cells #[] 5))) := Lib.hid ((((Keeps.refl _ w).alloc _).alloc _).alloc _)
  have HBK : Hid ((((w.alloc (.cells (cells8 key) 22)).alloc (.cells #[] TCl)).alloc (.cells #[] 5)).heap[w.heap.size]? = some (.cells (cells8 key) 22 (0, 0))) := Lib.hid (block_alloc (heap_alloc2_old w _ _))
  have HO1 : Hid ((((w.alloc (.cells (cells8 key) 22)).alloc (.cells #[] TCl)).alloc (.cells #[] 5)).ownsRow (w.heap.size + 1) TCl 2 (.slice (some ⟨w.heap.size + 1, 0, none⟩) 0 0) 0 []) := Lib.hid (by
    refine World.ownsRow.alloc ?_ _
    have := World.ownsRow_lit (base := w.heap.size + 1) (e := TCl) (size := 2) (w.alloc (.cells (cells8 key) 22)) #[] 0 (by simp) (by decide) rfl
    rw [show (w.alloc (.cells (cells8 key) 22)).heap.size = w.heap.size + 1 by simp] at this
    exact this)
  have HM1 : Hid (OwnB 5 (((w.alloc (.cells (cells8 key) 22)).alloc (.cells #[] TCl)).alloc (.cells #[] 5)) (w.heap.size + 1) (.slice (some ⟨w.heap.size + 1 + 1, 0, none⟩) 0 0) []) := Lib.hid (by
    have := World.ownsRow_lit (base := w.heap.size + 1) (e := 5) (size := 1) ((w.alloc (.cells (cells8 key) 22)).alloc (.cells #[] TCl)) #[] 0 (by simp) (by decide) rfl
    rw [show ((w.alloc (.cells (cells8 key) 22)).alloc (.cells #[] TCl)).heap.size = w.heap.size + 1 + 1 by simp] at this
    exact this)
  generalize (((w.alloc (.cells (cells8 key) 22)).alloc (.cells #[] TCl)).alloc (.cells #[] 5)) = w1 at HF1 HBK HO1 HM1 ⊢
  go_loopw [5, 6, 15] (fun vc vw i wr => CutsRel key qs w vc vw i wr) (fun _ _ i _ => qs.length - (intOf i).toNat)
  case atStart => exact ⟨0, Nat.zero_le _, rfl, HO1.out, HM1.out, HF1.out, HBK.out⟩
  case round =>
    clear HO1 HM1 HF1 HBK
    obtain ⟨k, hk, rfl, hoc, how, hf, hbk⟩ := hrel
    have HOC := Lib.hid hoc
    have HOW := Lib.hid how
    have HF := Lib.hid hf
    have HBK := Lib.hid hbk
    have hszr : w.heap.size + 1 ≤ wr.heap.size := lt_of_block hbk
    clear hoc how hf hbk
    by_cases hlt : k < qs.length
    · obtain ⟨⟨vq, xq⟩, hq⟩ : ∃ q, qs[k]? = some q := ⟨_, List.getElem?_eq_getElem hlt⟩
      obtain ⟨bc, oc, c', he, -, -, hbc, hlie⟩ := HC.out.form (by omega)
      injection he with e1 e2 e3
      subst e1 e3
      have hsq : SlB w vq xq := HC.out.2 _ (List.mem_of_getElem? hq)
      have c0 := RowsL.at (hlie.fresh HF.out) hq
      simp only at c0
      obtain ⟨pq, cq, hqv⟩ := hsq.slice
      obtain ⟨nq, hnq⟩ : ∃ n, n = xq.length := ⟨_, rfl⟩
      rw [← hnq] at hqv
      subst hqv
      have htk := take_succ_get hq
      have hlt2 : totalR ((qs.take (k + 1)).map (·.2)) ≤ 1048576 := by
        have : totalR (qs.map (·.2)) = totalR ((qs.take (k + 1)).map (·.2)) + totalR ((qs.drop (k + 1)).map (·.2)) := by
          rw [← totalR_append, ← List.map_append, List.take_append_drop]
        omega
      rw [htk, List.map_append, totalR_append] at hlt2
      simp only [List.map_cons, List.map_nil, totalR] at hlt2
      have HSQ := Lib.hid hsq
      have HTK := Lib.hid htk
      have hwl : (writes (qs.take k)).length = k := by unfold writes; rw [List.length_map, List.length_take]; omega
      have HWL := Lib.hid hwl
      have hwr : (wholeR ((qs.take k).map (·.2))).length = totalR ((qs.take k).map (·.2)) := wholeR_len _
      clear hq hlie hsq hnq htk hwl
      have HF2 : Hid (Fresh wr (wr.alloc (.cells #[Value.int .i64 0, .slice pq nq cq] TCl))) := Lib.hid ((Keeps.refl _ wr).alloc _)
      have HB2 := Lib.hid (heap_alloc_new wr (.cells #[Value.int .i64 0, .slice pq nq cq] TCl))
      have HOC2 : Hid ((wr.alloc (.cells #[Value.int .i64 0, .slice pq nq cq] TCl)).ownsRow (w.heap.size + 1) TCl 2 u5 (writes (qs.take k)).length (callCells (writes (qs.take k)))) := Lib.hid (by
        rw [HWL.out]
        exact World.ownsRow.alloc HOC.out _)
      have hszA : w.heap.size + 1 ≤ (wr.alloc (.cells #[Value.int .i64 0, .slice pq nq cq] TCl)).heap.size := Nat.le_trans hszr HF2.out.size
      have HSZA := Lib.hid hszA
      clear hszA
      go_upto_region 7 with (at_builtin; refine wpList_appC rfl (.tmp 19) (.tmp 22) rfl (w.heap.size + 1) u5 _ (writes (qs.take k)) [(.slice pq nq cq, ⟨0, xq⟩)] rfl rfl HOC2.out (CallsL.lit [(.slice pq nq cq, ⟨0, xq⟩)] HB2.out rfl one_le (by simpa using HSQ.out.fresh (HF.out.trans HF2.out))) (by rw [HWL.out]; simp; omega) HSZA.out ?_; intro v3 w3 HO3 HK3)
      have hkr : ∀ q, u5.ownBlock = some q → w.heap.size + 1 ≤ q ∧ q < wr.heap.size := fun q hq => World.ownsRow.lt HOC.out q hq
      have HKR := Lib.hid hkr
      have hsz3 : wr.heap.size ≤ w3.heap.size := Nat.le_trans HF2.out.size HK3.out.size
      have HF3 : Hid (Fresh w w3) := Lib.hid (Fresh.then (HF.out.trans HF2.out) HK3.out (fun q hq e => by have := HKR.out q e; omega))
      have HBK3 : Hid (w3.heap[w.heap.size]? = some (.cells (cells8 key) 22 (0, 0))) := Lib.hid (HK3.out.at (HF2.out.at HBK.out) (fun e => by have := HKR.out _ e; omega))
      have HOW3 : Hid (OwnB 5 w3 (w.heap.size + 1) u6 (wholeR ((qs.take k).map (·.2)))) := Lib.hid (OwnB.kept' (OwnB.kept HOW.out HF2.out (fun _ _ x => x)) HK3.out (fun q e e2 => (OwnB.kept HOW.out HF2.out (fun _ _ x => x)).apart HOC2.out (by decide) q e e2))
      have HO3' : Hid (w3.ownsRow (w.heap.size + 1) TCl 2 v3 (k + 1) (callCells (writes (qs.take (k + 1))))) := Lib.hid (by
        have h := HO3.out
        rw [List.length_append, HWL.out] at h
        rw [HTK.out]
        unfold writes at h ⊢
        rw [List.map_append]
        exact h)
      clear hkr HO3 HK3 HOC2 HOC HOW HB2 HSZA
      have hszb : w.heap.size + 1 ≤ w3.heap.size := by omega
      have HSZB := Lib.hid hszb
      clear hszb
      go_wp2_with (at_builtin; refine wpList_appS rfl (.tmp 24) (.tmp 25) rfl (w.heap.size + 1) u6 _ (wholeR ((qs.take k).map (·.2))) xq rfl rfl HOW3.out (HSQ.out.fresh HF3.out) (by omega) HSZB.out ?_; intro v4 w4 HO4 HK4)
      go_roundw
      case rel =>
        have hkw : ∀ q, u6.ownBlock = some q → w.heap.size + 1 ≤ q := fun q hq => (HOW3.out.lt q hq).1
        refine ⟨k + 1, by omega, by go_num, ?_, ?_, Fresh.then HF3.out HK4.out (fun q hq e => by have := hkw q e; omega), HK4.out.at HBK3.out (fun e => by have := hkw _ e; omega)⟩
        · exact ownsRow_keeps HO3'.out HK4.out (fun q e e2 => HOW3.out.apart HO3'.out (by decide) q e2 e)
        · have h := HO4.out
          rw [HTK.out, List.map_append, wholeR_append]
          simp only [List.map_cons, List.map_nil, wholeR, List.append_nil]
          exact h
      case measure => simp [intOf]; omega
    · have hks : k = qs.length := by omega
      have hoc := HOC.out
      have how := HOW.out
      rw [hks, List.take_length] at hoc how
      have HOC' := Lib.hid hoc
      have HOW' := Lib.hid how
      clear hoc how HOC HOW
      obtain ⟨m, hm⟩ : ∃ m, m = wholeR (qs.map (·.2)) := ⟨_, rfl⟩
      rw [← hm] at HOW'
      have hwl : (writes qs).length = qs.length := by unfold writes; rw [List.length_map]
      obtain ⟨pc, cc, hvc⟩ : ∃ p c, u5 = .slice p qs.length c := by
        rcases HOC'.out.2 with ⟨h, h0⟩ | ⟨g, cap, cur, h, -⟩
        · exact ⟨none, 0, by rw [h, h0]⟩
        · exact ⟨_, _, h⟩
      subst hvc
      have HM := Lib.hid hm
      have HWL := Lib.hid hwl
      clear hm hwl
      obtain ⟨w0, hw0⟩ : ∃ w0, w0 = wr := ⟨_, rfl⟩
      subst hw0
      go_wp2_with fail
      refine wp_region_ord (fun w' => w'.heap[w.heap.size]? = some (.cells (cells8 key) 22 (0, 0))) [(0, true), (1, true), (2, true), (3, false), (4, false), (5, false), (6, true)] (by kernel_rfl) (by kernel_rfl) HBK.out ?_
      refine ord_load (.agg (cells8 key)) rfl (by rfl) (fun w' hw' => exec_load_row _ _ rfl w.heap.size rfl _ _ _ hw' Try.underlying22 rfl (by rw [HKS.out]; exact info32B)) ?_
      iterate 2 (refine ord_quiet rfl (fun K hK => ?_); go_simp; refine hK _ ?_; clear hK K)
      refine ord_loud rfl (fun K hK => ?_)
      go_wp2_with fail
      obtain ⟨w2, hw2⟩ : ∃ w2, w2 = (w0.alloc (.cells #[.int .i64 1, Value.slice none 0 0] TCl)).drew := ⟨_, rfl⟩
      have HG2 : Hid (w2.heap[w0.heap.size]? = some (.cells #[.int .i64 1, Value.slice none 0 0] TCl (0, 0))) := Lib.hid (by rw [hw2]; exact heap_alloc_new w0 _)
      have HX2 : Hid (Fresh w0 w2) := Lib.hid (by rw [hw2]; exact ((Keeps.refl _ w0).alloc _).drew)
      rw [← hw2]
      clear hw2
      refine hK _ _ (HX2.out.at HBK.out) ?_
      clear hK K
      have HOC2 : Hid (w2.ownsRow (w.heap.size + 1) TCl 2 (.slice pc qs.length cc) (writes qs).length (callCells (writes qs))) := Lib.hid (by
        rw [HWL.out]
        exact ownsRow_keeps HOC'.out HX2.out (fun _ _ x => x))
      have HOW2 : Hid (OwnB 5 w2 (w.heap.size + 1) u6 m) := Lib.hid (OwnB.kept HOW'.out HX2.out (fun _ _ x => x))
      have hkr : ∀ q, (Value.slice pc qs.length cc).ownBlock = some q → w.heap.size + 1 ≤ q := fun q hq => (World.ownsRow.lt HOC2.out q hq).1
      have HKR := Lib.hid hkr
      have hsz2 : w.heap.size + 1 ≤ w2.heap.size := Nat.le_trans hszr HX2.out.size
      clear hkr
      refine ord_loud rfl (fun K hK => ?_)
      refine wpList_appC rfl (.tmp 29) (.tmp 31) rfl (w.heap.size + 1) _ _ (writes qs) [(.slice none 0 0, ⟨1, []⟩)] rfl rfl HOC2.out (CallsL.lit [(.slice none 0 0, ⟨1, []⟩)] HG2.out rfl one_le (by simpa using SlB.nil w2)) (by rw [HWL.out]; simp; omega) hsz2 ?_
      intro v3 w3 HO3 HK3
      have HF3 : Hid (Fresh w w3) := Lib.hid (Fresh.then (HF.out.trans HX2.out) HK3.out (fun q hq e => by have := HKR.out q e; omega))
      have HBK3 : Hid (w3.heap[w.heap.size]? = some (.cells (cells8 key) 22 (0, 0))) := Lib.hid (HK3.out.at (HX2.out.at HBK.out) (fun e => by have := HKR.out _ e; omega))
      have HOW3 : Hid (OwnB 5 w3 (w.heap.size + 1) u6 m) := Lib.hid (OwnB.kept' HOW2.out HK3.out (fun q e e2 => HOW2.out.apart HOC2.out (by decide) q e e2))
      have HC3 : Hid (CallsL w3 v3 (writes qs ++ [(.slice none 0 0, ⟨1, []⟩)])) := Lib.hid (CallsL.of_own HO3.out (fun q hq => by
        rcases List.mem_append.1 hq with hq | hq
        · unfold writes at hq
          obtain ⟨q', hq', rfl⟩ := List.mem_map.1 hq
          exact (HC.out.2 q' hq').fresh HF3.out
        · rw [List.mem_singleton] at hq
          subst hq
          exact SlB.nil _))
      have HLB : Hid (∀ q ∈ writes qs ++ [((.slice none 0 0, ⟨1, []⟩) : Value × Cl)], q.2.bytes.length ≤ 140737488355000) := Lib.hid (fun q hq => by
        rcases List.mem_append.1 hq with hq | hq
        · unfold writes at hq
          obtain ⟨q', hq', rfl⟩ := List.mem_map.1 hq
          have := totalR_mem (List.mem_map_of_mem (f := fun x : Value × List UInt8 => x.2) hq')
          show q'.2.length ≤ _
          omega
        · rw [List.mem_singleton] at hq
          subst hq
          exact Nat.zero_le _)
      clear HO3 HK3 HOC2 HOW2 HG2 HX2
      go_wp2_with fail
      refine hK _ _ HBK3.out ?_
      clear hK K
      refine ord_loud rfl (fun K hK => ?_)
      go_wp2_with fail
      refine (Session_c key _ v3 w3 HK.out HC3.out (by rw [List.length_append, HWL.out]; simp; omega) HLB.out).mono ?_
      rintro e w4 ⟨v4, ps, rfl, ho, hp, hf⟩
      have HF4 : Hid (Fresh w w4) := Lib.hid (HF3.out.trans hf)
      have HBK4 := Lib.hid (hf.at HBK3.out)
      have HSW4 := Lib.hid (HOW3.out.sl.fresh hf)
      obtain ⟨r, hr, hrl⟩ := sess_writes key (qs.map (·.2)) []
      rw [List.nil_append, ← HM.out] at hr
      have hpe : ps.map (·.2) = r ++ [⟨tagK key m, 0, false, false⟩] := by
        rw [hp, ← hr]
        congr 1
        unfold writes
        rw [List.map_append, List.map_map, List.map_map]
        rfl
      have hrl' : r.length = qs.length := by rw [hrl, List.length_map]
      have hpl : ps.length = qs.length + 1 := by
        have := congrArg List.length hpe
        rw [List.length_map, List.length_append, hrl'] at this
        exact this
      obtain ⟨⟨vz, az⟩, hz⟩ : ∃ p, ps[qs.length]? = some p := ⟨_, List.getElem?_eq_getElem (by omega)⟩
      have haz : az = ⟨tagK key m, 0, false, false⟩ := by
        have := congrArg (fun l => l[qs.length]?) hpe
        simp only [List.getElem?_map, hz, Option.map_some] at this
        rw [List.getElem?_append_right (by omega), hrl', Nat.sub_self] at this
        simpa using this
      subst haz
      obtain ⟨g, o, c, rfl, -, -, hlie⟩ := ho.sl.form (by omega)
      obtain ⟨x0, -, -, -⟩ := AnsL.at hlie hz
      have hsz : SlB w4 vz (tagK key m) := ho.sl.2 _ (List.mem_of_getElem? hz)
      have HX0 := Lib.hid (And.intro x0 hsz)
      rw [hpl]
      clear hp hr hrl hpe hrl' hpl hz hlie x0 hsz ho hf HC3 HLB HOW3 HBK3 HF3
      go_wp2_with fail
      refine hK _ _ HBK4.out ?_
      clear hK K
      refine ord_quiet rfl (fun K hK => ?_); go_simp; refine hK _ ?_; clear hK K
      refine ord_last ?_
      go_wp2_with (refine wpList_load_row rfl 22 (.tmp 2) rfl w.heap.size rfl 22 (cells8 key) (0, 0) _ HBK4.out Try.underlying22 rfl ?_ ?_; (rw [HKS.out]; exact info32B))
      refine (Tag_c u6 m key w4 HSW4.out HK.out).mono ?_
      rintro e w5 ⟨rfl, hf⟩
      have HF5 : Hid (Fresh w w5) := Lib.hid (HF4.out.trans hf)
      have HX5 := Lib.hid (And.intro (hf.cellAt HX0.out.1 (fun x => x)) (HX0.out.2.fresh hf))
      clear hf HX0 HF4 HBK4 HSW4
      go_wp2_with (refine wpList_store_row rfl 25 (.tmp 10) (.tmp 36) rfl w5.heap.size (cells8 (tagK key m)) rfl rfl 25 _ (heap_alloc_new w5 _) ?_ ?_ (cells8_one _) ?_; (rw [(HTS m).out]; exact info16B); (rw [(HTS m).out]; rfl))
      have HBT := Lib.hid (row_heap (cs := cells8 (tagK key m)) (heap_alloc_new w5 (.cells (cells8 (List.replicate 16 0)) 25)))
      have HX6 : Hid (Fresh w5 ((w5.alloc (.cells (cells8 (List.replicate 16 0)) 25)).setRow w5.heap.size (cells8 (tagK key m)))) := Lib.hid (((Keeps.refl _ w5).alloc _).setRow (Or.inr (Nat.le_refl _)) _)
      rw [cells8_zeros16] at HBT HX6
      generalize ((w5.alloc _).setRow w5.heap.size (cells8 (tagK key m))) = w6 at HBT HX6 ⊢
      simp only [Act.put]
      have c0 := HX6.out.cellAt HX5.out.1 (fun x => x)
      have q0 := fun n => run_strB (w6.drewN n) _ _ (HX5.out.2.fresh (HX6.out.drewN n))
      have q2 := fun n => run_strB (w6.drewN n) _ _ (SlB.all16 (block_drewN (n := n) HBT.out) (tagK_length _ _))
      have hql : (qs.length : Int) ≤ 1048576 := by omega
      have HFZ : Hid (∀ n, Fresh w (w6.drewN n)) := Lib.hid (fun n => (HF5.out.trans HX6.out).drewN n)
      clear HBT HX5 HX6 HF5
      go_quiet (fail)
      go_wp2_with fail
      go_ret
      exact ⟨rfl, HFZ.out _⟩
end Go.Proofs.Ytdkhpehniciijaa
