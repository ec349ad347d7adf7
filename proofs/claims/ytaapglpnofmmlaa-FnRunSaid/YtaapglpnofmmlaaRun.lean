/-
  Contract: impl.Run.
-/
import Derived.Test.YtaapglpnofmmlaaDo
import Derived.Test.YtaapglpnofmmlaaNewC
namespace Go.Proofs.Ytaapglpnofmmlaa
open Go Go.RowKit
attribute [local irreducible] Cha.iter Cha.rounds Cha.dbl Cha.qr ckOf run doA doN
/-- what a run returns -/
def RunR (K : CK) (ss : List St) (w : World) (e : Ending) (w' : World) : Prop :=
  ∃ v ps, e = .returned (.tuple #[v, .bool true]) ∧ OutsOwn w' w.heap.size v ps ∧ ps.map (·.2) = run K 0 ss ∧ Fresh w w'
/-- no cipher: nothing -/
def RunN (w : World) (e : Ending) (w' : World) : Prop := e = .returned (.tuple #[.slice none 0 0, .bool false]) ∧ Fresh w w'
/-- what its loop keeps -/
def RunRel (K : CK) (qs : List (Value × St)) (w : World) (b base : Nat) (va i : Value) (wr : World) : Prop :=
  ∃ (k : Nat) (ps : List (Value × Ou)) (a : Nat), k ≤ qs.length ∧ i = .int .i64 k ∧ ps.length = k ∧ OutsOwn wr base va ps ∧ CipS K wr b a ∧ Fresh w wr ∧ base ≤ wr.heap.size ∧
    ps.map (·.2) ++ run K a ((qs.drop k).map (·.2)) = run K 0 (qs.map (·.2))
theorem drop_map_consS {qs : List (Value × St)} {k : Nat} {q : Value × St} (h : qs[k]? = some q) : (qs.drop k).map (·.2) = q.2 :: (qs.drop (k + 1)).map (·.2) := by
  obtain ⟨hk, rfl⟩ := List.getElem?_eq_some_iff.1 h
  rw [List.drop_eq_getElem_cons hk, List.map_cons]
theorem Run_bad (v1 v2 v3 : Value) (l1 l2 : List UInt8) (w : World) (h1 : SlB w v1 l1) (h2 : SlB w v2 l2) (b1 : l1.length ≤ 140737488353280) (b2 : l2.length ≤ 140737488353280) (h : ¬ (l1.length = 32 ∧ (l2.length = 12 ∨ l2.length = 24))) :
    Calls Try.prog 23 #[v1, v2, v3] w (RunN w) := by
  have H1 := Lib.hid h1
  have H2 := Lib.hid h2
  have HH := Lib.hid h
  clear h1 h2 h
  go_enter Try.func23, Try.ntmps23
  go_wp2_with fail
  refine (copied_c v1 l1 _ H1.out b1).mono ?_
  rintro e w1 ⟨u1, rfl, ho1, hf1⟩
  have HF1 := Lib.hid hf1
  obtain ⟨a1, c1, rfl⟩ := ho1.slice
  clear hf1 ho1
  go_wp2_with fail
  refine (copied_c v2 l2 _ (H2.out.fresh HF1.out) b2).mono ?_
  rintro e w2 ⟨u2, rfl, ho2, hf2⟩
  have HF2 := Lib.hid hf2
  obtain ⟨a2, c2, rfl⟩ := ho2.slice
  clear hf2 ho2
  go_wp2_with fail
  refine (NewU_bad a1 a2 l1.length c1 l2.length c2 _ HH.out).mono ?_
  rintro e w3 ⟨x, rfl, hf3⟩
  have HF3 := Lib.hid hf3
  clear hf3
  go_wp2
  go_ret2
  exact ⟨rfl, (HF1.out.trans HF2.out).trans HF3.out⟩
set_option maxRecDepth 100000 in
set_option maxHeartbeats 2000000 in
theorem Run_good (v1 v2 vc : Value) (key nonce : List UInt8) (qs : List (Value × St)) (w : World) (h1 : SlB w v1 key) (h2 : SlB w v2 nonce) (hk : key.length = 32) (hn : nonce.length = 12 ∨ nonce.length = 24)
    (hc : StepsL w vc qs) (hq : qs.length ≤ 4398046511104) (hb : ∀ q ∈ qs, q.2.src.length ≤ 140737488353280 ∧ -128 ≤ q.2.room ∧ q.2.room ≤ 127) :
    Calls Try.prog 23 #[v1, v2, vc] w (RunR (ckOf key nonce) (qs.map (·.2)) w) := by
  obtain ⟨pa, ca, rfl⟩ := hc.shape
  obtain ⟨K, hK⟩ : ∃ K, K = ckOf key nonce := ⟨_, rfl⟩
  obtain ⟨nn, hnn⟩ : ∃ nn, nn = nonce.length := ⟨_, rfl⟩
  rw [← hnn] at hn
  rw [← hK]
  have HNN := Lib.hid hnn
  have HNO := Lib.hid hn
  have HKE := Lib.hid hK
  have HC := Lib.hid hc
  have HKL := Lib.hid hk
  have HB := Lib.hid hb
  have H1 := Lib.hid h1
  have H2 := Lib.hid h2
  clear hc hk hb h1 h2 hnn hK hn
  go_enter Try.func23, Try.ntmps23
  go_wp2_with fail
  refine (copied_c v1 key _ H1.out (by rw [HKL.out]; decide)).mono ?_
  rintro e w1 ⟨u1, rfl, ho1, hf1⟩
  have HF1 := Lib.hid hf1
  have HO1 := Lib.hid ho1
  clear hf1 ho1
  go_wp2_with fail
  refine (copied_c v2 nonce _ (H2.out.fresh HF1.out) (by rw [← HNN.out]; have := HNO.out; omega)).mono ?_
  rintro e w2 ⟨u2, rfl, ho2, hf2⟩
  have HF2 := Lib.hid hf2
  obtain ⟨g1, o1, c1, e1, k1, _, _, q1⟩ := ((HO1.out.sl).fresh hf2).form (by rw [HKL.out]; decide)
  obtain ⟨g2, o2, c2, e2, k2, m2, _, q2⟩ := (ho2.sl).form (by rw [← HNN.out]; have := HNO.out; omega)
  rw [HKL.out] at e1 k1
  rw [← HNN.out] at e2 k2
  subst e1 e2
  have HX := Lib.hid (NewU_good g1 o1 c1 g2 o2 c2 nn key nonce w2 HKL.out HNN.out.symm HNO.out q1 q2 (by omega) (by omega) m2)
  clear hf2 ho2 q1 q2 k1 k2 m2
  go_wp2_with fail
  refine HX.out.mono ?_
  rintro e w3 ⟨b, rfl, hbs, hcs, hf3⟩
  rw [← HKE.out] at hcs
  have HF3 : Hid (Fresh w w3) := Lib.hid ((HF1.out.trans HF2.out).trans hf3)
  have HCS := Lib.hid hcs
  have hbl := hcs.lt
  have hbw : w.heap.size ≤ b := Nat.le_trans (Nat.le_trans HF1.out.size HF2.out.size) hbs
  clear HX hbs hcs hf3
  go_wp2_with fail
  go_loopw [10, 26] (fun va i wr => RunRel K qs w b w3.heap.size va i wr) (fun _ i _ => qs.length - (intOf i).toNat)
  case atStart => exact ⟨0, [], 0, Nat.zero_le _, rfl, rfl, OutsOwn.nil _ _, HCS.out, HF3.out, Nat.le_refl _, by simp⟩
  case round =>
    obtain ⟨k, ps, a, hk, rfl, hpl, hown, hcip, hf, hsz, hse⟩ := hrel
    have HO := Lib.hid hown
    have HM := Lib.hid hcip
    have HF := Lib.hid hf
    have HE := Lib.hid hse
    clear hown hcip hf hse HF3 HCS
    by_cases hlt : k < qs.length
    · obtain ⟨⟨vq, kd, ct, xq, rm⟩, hq'⟩ : ∃ q, qs[k]? = some q := ⟨_, List.getElem?_eq_getElem hlt⟩
      obtain ⟨bc, oc, c', he, -, -, hbc, hlie⟩ := HC.out.form (by omega)
      injection he with e1 e2 e3
      subst e1 e3
      have hqm : (⟨vq, kd, ct, xq, rm⟩ : Value × St) ∈ qs := List.mem_of_getElem? hq'
      have hsq : SlB w vq xq := HC.out.2 _ hqm
      have ⟨d0, d1, d2, d3⟩ := StepsL.at (hlie.fresh HF.out) hq'
      simp only at d0 d1 d2 d3
      obtain ⟨pq, cq, hqv⟩ := hsq.slice
      obtain ⟨nq, hnq⟩ : ∃ n, n = xq.length := ⟨_, rfl⟩
      rw [← hnq] at hqv
      subst hqv
      have HQ := Lib.hid hq'
      have HSQ := Lib.hid hsq
      have HLX := Lib.hid (HB.out _ hqm)
      clear hq' hlie hqm hsq hnq
      go_wp2_with fail
      have HF2' : Hid (Fresh wr (wr.alloc (.cells #[Value.int .i64 kd, .int .u32 (Go.Proofs.Ytaapglpnofmmlaa.u32 ct), .slice pq nq cq, .int .i8 rm] TSt))) := Lib.hid ((Keeps.refl _ wr).alloc _)
      have hsz2 : wr.heap.size < (wr.alloc (.cells #[Value.int .i64 kd, .int .u32 (Go.Proofs.Ytaapglpnofmmlaa.u32 ct), .slice pq nq cq, .int .i8 rm] TSt)).heap.size := by simp
      generalize (wr.alloc (.cells #[Value.int .i64 kd, .int .u32 (Go.Proofs.Ytaapglpnofmmlaa.u32 ct), .slice pq nq cq, .int .i8 rm] TSt)) = w4 at HF2' hsz2 ⊢
      have hszw : w.heap.size ≤ wr.heap.size := HF.out.size
      refine (do_c K b a ⟨kd, ct, xq, rm⟩ _ w4 (HM.out.keeps HF2'.out (fun x => x)) (HSQ.out.fresh (HF.out.trans HF2'.out)) HLX.out.2 HLX.out.1).mono ?_
      rintro e w5 ⟨va, rfl, ho, hm, hk3⟩
      obtain ⟨ou, hou⟩ : ∃ o, o = doA K a ⟨kd, ct, xq, rm⟩ := ⟨_, rfl⟩
      rw [← hou] at ho hm ⊢
      have HA := Lib.hid hou
      obtain ⟨pv, cv, hvv⟩ := ho.sl.slice
      obtain ⟨nv, hnv⟩ : ∃ n, n = ou.bytes.length := ⟨_, rfl⟩
      rw [← hnv] at hvv
      subst hvv
      have HO3 := Lib.hid ho
      have HM3 := Lib.hid hm
      have HK3 := Lib.hid hk3
      have hsz3 : w4.heap.size ≤ w5.heap.size := hk3.size
      obtain ⟨ob, of⟩ := ou
      clear ho hm hk3 hou hnv
      have HOA : Hid (OutsOwn w5 w3.heap.size u10 ps) := Lib.hid (OutsOwn.kept (OutsOwn.kept HO.out HF2'.out (fun _ _ x => x)) HK3.out (fun k hk e => by omega))
      have HW : Hid (Fresh w5 ((w5.alloc (.cells #[Value.slice pv nv cv, .bool of] TOu)).alloc (.cells #[Value.slice pv nv cv, .bool of] TOu))) := Lib.hid (((Keeps.refl _ w5).alloc _).alloc _)
      have HG := Lib.hid (heap_alloc2_new w5 (.cells #[Value.slice pv nv cv, .bool of] TOu) (.cells #[Value.slice pv nv cv, .bool of] TOu))
      have HG0 := Lib.hid (heap_alloc2_old w5 (.cells #[Value.slice pv nv cv, .bool of] TOu) (.cells #[Value.slice pv nv cv, .bool of] TOu))
      have HOW := Lib.hid (OutsOwn.kept HOA.out HW.out (fun _ _ x => x))
      have HPW := Lib.hid (OwnB.kept (OwnB.mono HO3.out (show w3.heap.size ≤ w4.heap.size by omega)) HW.out (fun _ _ x => x))
      have hU : ∀ q, u10.ownBlock = some q → q < w5.heap.size := fun q hq => (World.ownsRow.lt HOA.out.1 q hq).2
      have hU2 : ∀ q, u10.ownBlock = some q → w3.heap.size ≤ q := fun q hq => (World.ownsRow.lt HOA.out.1 q hq).1
      have HU := Lib.hid hU
      have HU2 := Lib.hid hU2
      have hszW := HW.out.size
      have HSZ := Lib.hid hszW
      have hbs : w3.heap.size ≤ w5.heap.size := by omega
      have HBS := Lib.hid (Nat.le_trans hbs hszW)
      have hpl2 : ps.length < 4398046511104 := by omega
      have HPL := Lib.hid hpl2
      clear hU hU2 hszW hbs hpl2
      have HS : Hid (((ps ++ [((Value.slice pv nv cv, ⟨ob, of⟩) : Value × Ou)]).map (·.2)) ++ (if of then [] else run K (doN a ⟨kd, ct, xq, rm⟩) ((qs.drop (k + 1)).map (·.2))) = run K 0 (qs.map (·.2))) := Lib.hid (by
        rw [← HE.out, drop_map_consS HQ.out, run_cons, ← HA.out]
        simp)
      simp only
      cases of with
      | false =>
        go_wp2_with (at_builtin; refine wpList_appO rfl (.tmp 33) (.tmp 35) rfl w3.heap.size u10 ps (Value.slice pv nv cv, ⟨ob, false⟩) (w5.heap.size + 1) rfl rfl HOW.out HG.out HPW.out HPL.out HBS.out ?_; intro v6 w6 HO5 HK5; have c9 : w6.cell? ⟨w5.heap.size, 1, none⟩ = some (.bool false) := HK5.out.cellAt (by rw [cell_block HG0.out]; rfl) (fun e => Nat.lt_irrefl _ (HU.out _ e)))
        go_roundw
        case rel =>
          have HS' := HS.out
          simp only [Bool.false_eq_true, if_false] at HS'
          refine ⟨k + 1, ps ++ [(Value.slice pv nv cv, ⟨ob, false⟩)], _, by omega, by go_num, by simp [hpl], HO5.out, ?_, ?_, ?_, HS'⟩
          · refine CipS.keeps (CipS.keeps (HM3.out rfl) HW.out (fun x => x)) HK5.out (fun e => ?_)
            have := HU2.out _ e
            omega
          · exact Fresh.then (Fresh.then (HF.out.trans HF2'.out) HK3.out (fun q hq e => by omega)) (S := fun q => u10.ownBlock = some q) ((Fresh.to HW.out).trans HK5.out) (fun q hq e => by have := HU2.out _ e; have := HF.out.size; omega)
          · exact Nat.le_trans HBS.out HK5.out.size
        case measure => simp [intOf]; omega
      | true =>
        go_wp2_with (at_builtin; refine wpList_appO rfl (.tmp 33) (.tmp 35) rfl w3.heap.size u10 ps (Value.slice pv nv cv, ⟨ob, true⟩) (w5.heap.size + 1) rfl rfl HOW.out HG.out HPW.out HPL.out HBS.out ?_; intro v6 w6 HO5 HK5; have c9 : w6.cell? ⟨w5.heap.size, 1, none⟩ = some (.bool true) := HK5.out.cellAt (by rw [cell_block HG0.out]; rfl) (fun e => Nat.lt_irrefl _ (HU.out _ e)))
        go_ret2
        have HS' := HS.out
        simp only [if_true, List.append_nil] at HS'
        refine ⟨_, _, rfl, HO5.out.mono (by omega), HS', ?_⟩
        have hk := HK5.out
        exact Fresh.then (Fresh.then (HF.out.trans HF2'.out) HK3.out (fun q hq e => by omega)) (S := fun q => u10.ownBlock = some q) ((Fresh.to HW.out).trans hk) (fun q hq e => by have := HU2.out _ e; omega)
    · have hks : k = qs.length := by omega
      go_wp2_with fail
      go_ret2
      refine ⟨_, ps, rfl, HO.out.mono (by omega), ?_, HF.out⟩
      have := HE.out
      rw [hks, List.drop_length] at this
      simpa [run_nil] using this
end Go.Proofs.Ytaapglpnofmmlaa
