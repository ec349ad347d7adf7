/-
  Contract: spec.SessionOf.
-/
import Derived.Test.YtdkhpehniciijaaCall
namespace Go.Proofs.Ytdkhpehniciijaa
open Go Go.RowKit
attribute [local irreducible] tagK
/-- what sentences tell of a session, and whether they tell all -/
def sessT (key : List UInt8) : List UInt8 → Bool → List Cl → List An × Bool
  | _, _, [] => ([], true)
  | m, fin, c :: cs => if askT fin c then (if (askA key m fin c).failed then ([askA key m fin c], true) else (askA key m fin c :: (sessT key (askM m fin c) (askF fin c) cs).1, (sessT key (askM m fin c) (askF fin c) cs).2)) else ([], false)
theorem sessT_cons (key m : List UInt8) (fin : Bool) (c : Cl) (cs : List Cl) : sessT key m fin (c :: cs) = if askT fin c then (if (askA key m fin c).failed then ([askA key m fin c], true) else (askA key m fin c :: (sessT key (askM m fin c) (askF fin c) cs).1, (sessT key (askM m fin c) (askF fin c) cs).2)) else ([], false) := rfl
/-- all is told: it is the session; else the session goes on with one answer at least -/
theorem sessT_sess (key : List UInt8) : ∀ (cs : List Cl) (m : List UInt8) (fin : Bool), ((sessT key m fin cs).2 = true → (sessT key m fin cs).1 = sess key m fin cs) ∧ ((sessT key m fin cs).2 = false → ∃ a r, sess key m fin cs = (sessT key m fin cs).1 ++ a :: r) := by
  intro cs
  induction cs with
  | nil => intro m fin; exact ⟨fun _ => rfl, fun h => by cases h⟩
  | cons c cs ih =>
    intro m fin
    rw [sessT_cons, sess_cons]
    by_cases h1 : askT fin c = true
    · rw [if_pos h1]
      by_cases h2 : (askA key m fin c).failed = true
      · rw [if_pos h2, if_pos h2]
        exact ⟨fun _ => rfl, fun h => by cases h⟩
      · rw [if_neg h2, if_neg h2]
        obtain ⟨i1, i2⟩ := ih (askM m fin c) (askF fin c)
        refine ⟨fun h => by simp only; rw [i1 h], fun h => ?_⟩
        obtain ⟨a, r, e⟩ := i2 h
        exact ⟨a, r, by simp only; rw [e, List.cons_append]⟩
    · rw [if_neg h1]
      exact ⟨fun h => (by cases h), fun _ => ⟨_, _, rfl⟩⟩
/-- all bytes of calls -/
def totalB : List Cl → Nat
  | [] => 0
  | c :: cs => c.bytes.length + totalB cs
theorem askM_total (m : List UInt8) (fin : Bool) (c : Cl) : (askM m fin c).length ≤ m.length + c.bytes.length := by
  unfold askM
  split
  · split
    · omega
    · rw [List.length_append]; exact Nat.le_refl _
  · omega
def SessTRel (key : List UInt8) (qs : List (Value × Cl)) (w : World) (vo vm vf i : Value) (wr : World) : Prop :=
  ∃ (k : Nat) (ps : List (Value × An)) (m : List UInt8) (fin : Bool), k ≤ qs.length ∧ i = .int .i64 k ∧ vf = .bool fin ∧ ps.length = k ∧ AnsOwn wr (w.heap.size + 1) vo ps ∧ OwnB 5 wr (w.heap.size + 1) vm m ∧ Fresh w wr ∧ wr.heap[w.heap.size]? = some (.cells (cells8 key) 22 (0, 0)) ∧
    m.length + totalB ((qs.drop k).map (·.2)) ≤ 140737488351232 ∧ ps.map (·.2) ++ (sessT key m fin ((qs.drop k).map (·.2))).1 = (sessT key [] false (qs.map (·.2))).1 ∧ (sessT key m fin ((qs.drop k).map (·.2))).2 = (sessT key [] false (qs.map (·.2))).2
/-- what SessionOf returns -/
def SessTR (key : List UInt8) (cs : List Cl) (w : World) (e : Ending) (w' : World) : Prop :=
  ∃ v ps, e = .returned (.tuple #[v, .bool (sessT key [] false cs).2]) ∧ AnsL w' v ps ∧ ps.map (·.2) = (sessT key [] false cs).1 ∧ Fresh w w'
theorem drop_map_consT {qs : List (Value × Cl)} {k : Nat} {q : Value × Cl} (h : qs[k]? = some q) : (qs.drop k).map (·.2) = q.2 :: (qs.drop (k + 1)).map (·.2) := by
  obtain ⟨hk, rfl⟩ := List.getElem?_eq_some_iff.1 h
  rw [List.drop_eq_getElem_cons hk, List.map_cons]
set_option maxRecDepth 100000 in
set_option maxHeartbeats 2000000 in
theorem SessionOf_c (key : List UInt8) (qs : List (Value × Cl)) (vc : Value) (w : World) (hk : key.length = 32) (hc : CallsL w vc qs) (hn : qs.length ≤ 4398046511104) (ht : totalB (qs.map (·.2)) ≤ 140737488351232) :
    Calls Try.prog 21 #[.agg (cells8 key), vc] w (SessTR key (qs.map (·.2)) w) := by
  obtain ⟨pa, ca, rfl⟩ := hc.shape
  have HC := Lib.hid hc
  have HK := Lib.hid hk
  have H1 := cells8_one key
  have HKS := Lib.hid (show (cells8 key).size = 32 by rw [cells8_size, hk])
  have HT := Lib.hid ht
  clear hc hk ht
  go_enter Try.func21, Try.ntmps21
  go_wp2_with fail
  have HF1 := Lib.hid (call_news w (.cells (cells8 key) 22) (.cells #[] TAn) (.cells #[] 5))
  have HBK : Hid ((((w.alloc (.cells (cells8 key) 22)).alloc (.cells #[] TAn)).alloc (.cells #[] 5)).heap[w.heap.size]? = some (.cells (cells8 key) 22 (0, 0))) := Lib.hid (block_alloc (heap_alloc2_old w _ _))
  have HO1 : Hid (AnsOwn (((w.alloc (.cells (cells8 key) 22)).alloc (.cells #[] TAn)).alloc (.cells #[] 5)) (w.heap.size + 1) (.slice (some ⟨w.heap.size + 1, 0, none⟩) 0 0) []) := Lib.hid (by
    refine ⟨World.ownsRow.alloc ?_ _, fun _ h => by cases h⟩
    have := World.ownsRow_lit (base := w.heap.size + 1) (e := TAn) (size := 4) (w.alloc (.cells (cells8 key) 22)) #[] 0 (by simp) (by decide) rfl
    rw [show (w.alloc (.cells (cells8 key) 22)).heap.size = w.heap.size + 1 by simp] at this
    exact this)
  have HM1 : Hid (OwnB 5 (((w.alloc (.cells (cells8 key) 22)).alloc (.cells #[] TAn)).alloc (.cells #[] 5)) (w.heap.size + 1) (.slice (some ⟨w.heap.size + 1 + 1, 0, none⟩) 0 0) []) := Lib.hid (by
    have := World.ownsRow_lit (base := w.heap.size + 1) (e := 5) (size := 1) ((w.alloc (.cells (cells8 key) 22)).alloc (.cells #[] TAn)) #[] 0 (by simp) (by decide) rfl
    rw [show ((w.alloc (.cells (cells8 key) 22)).alloc (.cells #[] TAn)).heap.size = w.heap.size + 1 + 1 by simp] at this
    exact this)
  generalize (((w.alloc (.cells (cells8 key) 22)).alloc (.cells #[] TAn)).alloc (.cells #[] 5)) = w1 at HF1 HBK HO1 HM1 ⊢
  go_loopw [6, 7, 8, 19] (fun vo vm vf i wr => SessTRel key qs w vo vm vf i wr) (fun _ _ _ i _ => qs.length - (intOf i).toNat)
  case atStart => exact ⟨0, [], [], false, Nat.zero_le _, rfl, rfl, rfl, HO1.out, HM1.out, HF1.out, HBK.out, by simpa using HT.out, rfl, rfl⟩
  case round =>
    clear HO1 HM1 HF1 HBK HT
    obtain ⟨k, ps, m, fin, hk, rfl, rfl, hpl, hown, hm, hf, hbk, htt, hse, hsb⟩ := hrel
    have HO := Lib.hid hown
    have HM := Lib.hid hm
    have HF := Lib.hid hf
    have HBK := Lib.hid hbk
    have HE := Lib.hid hse
    have HE2 := Lib.hid hsb
    have HTT := Lib.hid htt
    clear hown hm hf hse hsb hbk htt
    by_cases hlt : k < qs.length
    · obtain ⟨⟨vq, kd, xq⟩, hq⟩ : ∃ q, qs[k]? = some q := ⟨_, List.getElem?_eq_getElem hlt⟩
      obtain ⟨bc, oc, c', he, -, -, hbc, hlie⟩ := HC.out.form (by omega)
      injection he with e1 e2 e3
      subst e1 e3
      have hqm : (⟨vq, kd, xq⟩ : Value × Cl) ∈ qs := List.mem_of_getElem? hq
      have hsq : SlB w vq xq := HC.out.2 _ hqm
      have ⟨c0, c1⟩ := CallsL.at (hlie.fresh HF.out) hq
      simp only at c0 c1
      obtain ⟨pq, cq, hqv⟩ := hsq.slice
      obtain ⟨nq, hnq⟩ : ∃ n, n = xq.length := ⟨_, rfl⟩
      rw [← hnq] at hqv
      subst hqv
      have HSQ := Lib.hid hsq
      have htt := HTT.out
      rw [drop_map_consT hq] at htt
      simp only [totalB] at htt
      have hse := HE.out
      have hsb := HE2.out
      rw [drop_map_consT hq, sessT_cons] at hse hsb
      have HSE := Lib.hid hse
      have HSB := Lib.hid hsb
      clear hq hlie hqm hsq hnq hse hsb HE HE2 HTT
      go_wp2_with (refine wpList_load_row rfl 22 (.tmp 2) rfl w.heap.size rfl 22 (cells8 key) (0, 0) _ (block_alloc HBK.out) Try.underlying22 rfl ?_ ?_; (rw [HKS.out]; exact info32B))
      have HF2 : Hid (Fresh wr (wr.alloc (.cells #[Value.int .i64 kd, .slice pq nq cq] TCl))) := Lib.hid ((Keeps.refl _ wr).alloc _)
      generalize (wr.alloc (.cells #[Value.int .i64 kd, .slice pq nq cq] TCl)) = w2 at HF2 ⊢
      have hszw : w.heap.size + 1 ≤ wr.heap.size := lt_of_block HBK.out
      have hsz2 : wr.heap.size ≤ w2.heap.size := HF2.out.size
      refine (call_c key m fin ⟨kd, xq⟩ (w.heap.size + 1) _ _ w2 HK.out (OwnB.kept HM.out HF2.out (fun _ _ x => x)) (HSQ.out.fresh (HF.out.trans HF2.out)) (by omega) (by simp only; omega)).mono ?_
      rintro e w3 ⟨va, vm', rfl, ho, hm, hf3⟩
      obtain ⟨a, ha⟩ : ∃ a, a = askA key m fin ⟨kd, xq⟩ := ⟨_, rfl⟩
      obtain ⟨t, htt2⟩ : ∃ t, t = askT fin ⟨kd, xq⟩ := ⟨_, rfl⟩
      obtain ⟨fin', hfin⟩ : ∃ f, f = askF fin ⟨kd, xq⟩ := ⟨_, rfl⟩
      have hse := HSE.out
      have hsb := HSB.out
      rw [← ha, ← htt2, ← hfin] at hse hsb
      rw [← ha] at ho
      rw [← ha, ← htt2, ← hfin]
      have HSE := Lib.hid hse
      have HSB := Lib.hid hsb
      have hml := askM_total m fin ⟨kd, xq⟩
      simp only at hml
      obtain ⟨pv, cv, hvv⟩ := ho.sl.slice
      obtain ⟨nv, hnv⟩ : ∃ n, n = a.bytes.length := ⟨_, rfl⟩
      rw [← hnv] at hvv
      subst hvv
      have HO3 := Lib.hid ho
      have HM3 := Lib.hid hm
      have HX3 : Hid (Fresh wr w3) := Lib.hid (HF2.out.trans hf3)
      have hsz3 : w2.heap.size ≤ w3.heap.size := hf3.size
      obtain ⟨ab, an, ai, af⟩ := a
      clear ho hm hf3 ha hnv htt2 hfin hse hsb
      unfold anV
      simp only
      have HOA : Hid (AnsOwn w3 (w.heap.size + 1) u6 ps) := Lib.hid (AnsOwn.kept HO.out HX3.out (fun _ _ x => x))
      cases t with
      | false =>
        go_wp2_with fail
        go_ret2
        have hse := HSE.out
        have hsb := HSB.out
        simp only [Bool.false_eq_true, if_false, List.append_nil] at hse hsb
        refine ⟨_, ps, congrArg (fun b => Ending.returned (.tuple #[u6, .bool b])) hsb, ?_, hse, (HF.out.trans HX3.out).alloc _⟩
        exact (AnsOwn.sl HOA.out).fresh ((Keeps.refl _ w3).alloc _)
      | true =>
        have HW : Hid (Fresh w3 ((w3.alloc (.cells #[Value.slice pv nv cv, .int .i64 an, .bool ai, .bool af] TAn)).alloc (.cells #[Value.slice pv nv cv, .int .i64 an, .bool ai, .bool af] TAn))) := Lib.hid (((Keeps.refl _ w3).alloc _).alloc _)
        have HG := Lib.hid (heap_alloc2_new w3 (.cells #[Value.slice pv nv cv, .int .i64 an, .bool ai, .bool af] TAn) (.cells #[Value.slice pv nv cv, .int .i64 an, .bool ai, .bool af] TAn))
        have HG0 := Lib.hid (heap_alloc2_old w3 (.cells #[Value.slice pv nv cv, .int .i64 an, .bool ai, .bool af] TAn) (.cells #[Value.slice pv nv cv, .int .i64 an, .bool ai, .bool af] TAn))
        have HOW := Lib.hid (AnsOwn.kept HOA.out HW.out (fun _ _ x => x))
        have HPW := Lib.hid (OwnB.kept (OwnB.mono HO3.out (show w.heap.size + 1 ≤ w2.heap.size by omega)) HW.out (fun _ _ x => x))
        have HMW := Lib.hid (OwnB.kept HM3.out HW.out (fun _ _ x => x))
        have hU : ∀ q, u6.ownBlock = some q → q < w3.heap.size := fun q hq => (World.ownsRow.lt HOA.out.1 q hq).2
        have hU2 : ∀ q, u6.ownBlock = some q → w.heap.size + 1 ≤ q := fun q hq => (World.ownsRow.lt HOA.out.1 q hq).1
        have HU := Lib.hid hU
        have HU2 := Lib.hid hU2
        have hszW := HW.out.size
        have hbs : w.heap.size + 1 ≤ w3.heap.size := by omega
        have HBS := Lib.hid (Nat.le_trans hbs hszW)
        have hpl2 : ps.length < 4398046511104 := by omega
        have HPL := Lib.hid hpl2
        clear hU hU2 hszW hbs hpl2
        have hFR : ∀ w5, Keeps (fun q => u6.ownBlock = some q) ((w3.alloc (.cells #[Value.slice pv nv cv, .int .i64 an, .bool ai, .bool af] TAn)).alloc (.cells #[Value.slice pv nv cv, .int .i64 an, .bool ai, .bool af] TAn)) w5 → Fresh w w5 := fun w5 hk5 => Fresh.then (HF.out.trans (HX3.out.trans HW.out)) hk5 (fun q hq e => by have := HU2.out _ e; omega)
        have HFR := Lib.hid hFR
        clear hFR
        cases af with
        | false =>
          go_wp2_with (at_builtin; refine wpList_appA rfl (.tmp 38) (.tmp 40) rfl (w.heap.size + 1) u6 ps (Value.slice pv nv cv, ⟨ab, an, ai, false⟩) (w3.heap.size + 1) rfl rfl HOW.out HG.out HPW.out HPL.out HBS.out ?_; intro v5 w5 HO5 HK5; have c9 : w5.cell? ⟨w3.heap.size, 3, none⟩ = some (.bool false) := HK5.out.cellAt (by rw [cell_block HG0.out]; rfl) (fun e => Nat.lt_irrefl _ (HU.out _ e)))
          go_roundw
          case rel =>
            have hse := HSE.out
            have hsb := HSB.out
            simp only [if_true, Bool.false_eq_true, if_false] at hse hsb
            refine ⟨k + 1, ps ++ [(Value.slice pv nv cv, ⟨ab, an, ai, false⟩)], _, _, by omega, by go_num, rfl, by simp [hpl], HO5.out, ?_, HFR.out _ HK5.out, ?_, ?_, ?_, hsb⟩
            · exact OwnB.kept' HMW.out HK5.out (fun q e e2 => HMW.out.apart HOW.out.1 (by decide) q e e2)
            · exact HK5.out.at (HW.out.at (HX3.out.at HBK.out)) (fun e => by have := HU2.out _ e; omega)
            · omega
            · rw [← hse]; simp
          case measure => simp [intOf]; omega
        | true =>
          go_wp2_with (at_builtin; refine wpList_appA rfl (.tmp 38) (.tmp 40) rfl (w.heap.size + 1) u6 ps (Value.slice pv nv cv, ⟨ab, an, ai, true⟩) (w3.heap.size + 1) rfl rfl HOW.out HG.out HPW.out HPL.out HBS.out ?_; intro v5 w5 HO5 HK5; have c9 : w5.cell? ⟨w3.heap.size, 3, none⟩ = some (.bool true) := HK5.out.cellAt (by rw [cell_block HG0.out]; rfl) (fun e => Nat.lt_irrefl _ (HU.out _ e)))
          go_ret2
          have hse := HSE.out
          have hsb := HSB.out
          simp only [if_true] at hse hsb
          refine ⟨_, ps ++ [(Value.slice pv nv cv, ⟨ab, an, ai, true⟩)], congrArg (fun b => Ending.returned (.tuple #[v5, .bool b])) hsb, HO5.out.sl, ?_, HFR.out _ HK5.out⟩
          rw [← hse]; simp
    · have hks : k = qs.length := by omega
      have hse := HE.out
      have hsb := HE2.out
      rw [hks, List.drop_length] at hse hsb
      have HSE := Lib.hid hse
      have HSB := Lib.hid hsb
      clear hse hsb
      go_wp2_with fail
      go_ret2
      refine ⟨_, ps, congrArg (fun b => Ending.returned (.tuple #[u6, .bool b])) HSB.out, HO.out.sl, ?_, HF.out⟩
      have := HSE.out
      simpa [sessT] using this
end Go.Proofs.Ytdkhpehniciijaa
