/-
  Contract: impl.Session.
-/
import Derived.Test.YtdkhpehniciijaaAsk
namespace Go.Proofs.Ytdkhpehniciijaa
open Go Go.RowKit
attribute [local irreducible] tagK
/-- what a session returns -/
def SessR (key : List UInt8) (cs : List Cl) (w : World) (e : Ending) (w' : World) : Prop :=
  ∃ v ps, e = .returned v ∧ AnsOwn w' w.heap.size v ps ∧ ps.map (·.2) = sess key [] false cs ∧ Fresh w w'
/-- what its loop keeps -/
def SessRel (key : List UInt8) (qs : List (Value × Cl)) (w : World) (b : Nat) (va i : Value) (wr : World) : Prop :=
  ∃ (k : Nat) (ps : List (Value × An)) (m : List UInt8) (fin : Bool), k ≤ qs.length ∧ i = .int .i64 k ∧ ps.length = k ∧ AnsOwn wr (b + 1) va ps ∧ MacK key wr b m fin ∧ Fresh w wr ∧
    ps.map (·.2) ++ sess key m fin ((qs.drop k).map (·.2)) = sess key [] false (qs.map (·.2))
theorem AnsOwn.mono {w : World} {base base' : Nat} {v : Value} {ps : List (Value × An)} (h : AnsOwn w base v ps) (hb : base' ≤ base) : AnsOwn w base' v ps := by
  refine ⟨⟨h.1.1, ?_⟩, fun p hp => (h.2 p hp).mono hb⟩
  rcases h.1.2 with h2 | ⟨g, cap, cur, hv, hbg, r⟩
  · exact Or.inl h2
  · exact Or.inr ⟨g, cap, cur, hv, Nat.le_trans hb hbg, r⟩
theorem drop_map_cons {qs : List (Value × Cl)} {k : Nat} {q : Value × Cl} (h : qs[k]? = some q) : (qs.drop k).map (·.2) = q.2 :: (qs.drop (k + 1)).map (·.2) := by
  obtain ⟨hk, rfl⟩ := List.getElem?_eq_some_iff.1 h
  rw [List.drop_eq_getElem_cons hk, List.map_cons]
set_option maxRecDepth 100000 in
theorem Session_c (key : List UInt8) (qs : List (Value × Cl)) (vc : Value) (w : World) (hk : key.length = 32) (hc : CallsL w vc qs) (hn : qs.length ≤ 4398046511104) (hb : ∀ q ∈ qs, q.2.bytes.length ≤ 140737488355000) :
    Calls Try.prog 22 #[.agg (cells8 key), vc] w (SessR key (qs.map (·.2)) w) := by
  obtain ⟨pa, ca, rfl⟩ := hc.shape
  have HC := Lib.hid hc
  have HK := Lib.hid hk
  have HB := Lib.hid hb
  clear hc hk hb
  go_enter Try.func22, Try.ntmps22
  go_wp2_with fail
  have HF0 : Hid (Fresh w (w.alloc (.cells (cells8 key) 22))) := Lib.hid ((Keeps.refl _ w).alloc _)
  have hsz0 : (w.alloc (.cells (cells8 key) 22)).heap.size = w.heap.size + 1 := by simp
  refine (New_c w.heap.size key _ (BytesIn.of (heap_alloc_new w _)) HK.out (by rw [hsz0]; omega)).mono ?_
  rintro e w1 ⟨rfl, hm, hf⟩
  rw [hsz0] at hm ⊢
  have HM1 := Lib.hid hm
  have HF1 : Hid (Fresh w w1) := Lib.hid (HF0.out.trans hf)
  clear hm hf hsz0 HF0
  go_wp2_with fail
  go_loopw [6, 13] (fun va i wr => SessRel key qs w (w.heap.size + 1) va i wr) (fun _ i _ => qs.length - (intOf i).toNat)
  case atStart => exact ⟨0, [], [], false, Nat.zero_le _, rfl, rfl, AnsOwn.nil _ _, HM1.out, HF1.out, by simp⟩
  case round =>
    obtain ⟨k, ps, m, fin, hk, rfl, hpl, hown, hmac, hf, hse⟩ := hrel
    have HO := Lib.hid hown
    have HM := Lib.hid hmac
    have HF := Lib.hid hf
    have HE := Lib.hid hse
    clear hown hmac hf hse HM1 HF1
    by_cases hlt : k < qs.length
    · obtain ⟨⟨vq, kd, xq⟩, hq⟩ : ∃ q, qs[k]? = some q := ⟨_, List.getElem?_eq_getElem hlt⟩
      obtain ⟨bc, oc, c', he, -, -, hbc, hlie⟩ := HC.out.form (by omega)
      injection he with e1 e2 e3
      subst e1 e3
      have hqm : (⟨vq, kd, xq⟩ : Value × Cl) ∈ qs := List.mem_of_getElem? hq
      have hsq : SlB w vq xq := HC.out.2 _ hqm
      have ⟨c0, c1⟩ := CallsL.at (hlie.fresh HF.out) hq
      simp only at c0 c1
      obtain ⟨pq, cq, hqv⟩ := hsq.slice
      obtain ⟨nq, hnq⟩ : ∃ n, n = xq.length := ⟨_, rfl⟩
      rw [← hnq] at hqv
      subst hqv
      have HQ := Lib.hid hq
      have HSQ := Lib.hid hsq
      have HLX : Hid (xq.length ≤ 140737488355000) := Lib.hid (HB.out _ hqm)
      clear hq hlie hqm hsq hnq
      go_wp2_with fail
      have HF2 : Hid (Fresh wr (wr.alloc (.cells #[Value.int .i64 kd, .slice pq nq cq] TCl))) := Lib.hid ((Keeps.refl _ wr).alloc _)
      have hsz2 : wr.heap.size < (wr.alloc (.cells #[Value.int .i64 kd, .slice pq nq cq] TCl)).heap.size := by simp
      generalize (wr.alloc (.cells #[Value.int .i64 kd, .slice pq nq cq] TCl)) = w2 at HF2 hsz2 ⊢
      have hszw : w.heap.size ≤ wr.heap.size := HF.out.size
      have hlb : w.heap.size + 1 < wr.heap.size := HM.out.lt
      refine (ask_c (w.heap.size + 1) key m fin ⟨kd, xq⟩ _ w2 (Mac.keeps HM.out HF2.out (fun x => x)) (HSQ.out.fresh (HF.out.trans HF2.out)) (fun h0 e => by have := HSQ.out.lt h0 _ e; omega) HLX.out).mono ?_
      rintro e w3 ⟨va, rfl, ho, hm, hk3⟩
      obtain ⟨a, ha⟩ : ∃ a, a = askA key m fin ⟨kd, xq⟩ := ⟨_, rfl⟩
      rw [← ha] at ho ⊢
      have HA := Lib.hid ha
      obtain ⟨pv, cv, hvv⟩ := ho.sl.slice
      obtain ⟨nv, hnv⟩ : ∃ n, n = a.bytes.length := ⟨_, rfl⟩
      rw [← hnv] at hvv
      subst hvv
      have HO3 := Lib.hid ho
      have HM3 := Lib.hid hm
      have HK3 := Lib.hid hk3
      have hsz3 : w2.heap.size ≤ w3.heap.size := hk3.size
      obtain ⟨ab, an, ai, af⟩ := a
      clear ho hm hk3 ha hnv
      have HOA : Hid (AnsOwn w3 (w.heap.size + 2) u6 ps) := Lib.hid (AnsOwn.kept (AnsOwn.kept HO.out HF2.out (fun _ _ x => x)) HK3.out (fun k hk e => by omega))
      unfold anV
      simp only
      have HW : Hid (Fresh w3 ((w3.alloc (.cells #[Value.slice pv nv cv, .int .i64 an, .bool ai, .bool af] TAn)).alloc (.cells #[Value.slice pv nv cv, .int .i64 an, .bool ai, .bool af] TAn))) := Lib.hid (((Keeps.refl _ w3).alloc _).alloc _)
      have HG := Lib.hid (heap_alloc2_new w3 (.cells #[Value.slice pv nv cv, .int .i64 an, .bool ai, .bool af] TAn) (.cells #[Value.slice pv nv cv, .int .i64 an, .bool ai, .bool af] TAn))
      have HG0 := Lib.hid (heap_alloc2_old w3 (.cells #[Value.slice pv nv cv, .int .i64 an, .bool ai, .bool af] TAn) (.cells #[Value.slice pv nv cv, .int .i64 an, .bool ai, .bool af] TAn))
      have HOW := Lib.hid (AnsOwn.kept HOA.out HW.out (fun _ _ x => x))
      have HPW := Lib.hid (OwnB.kept (OwnB.mono HO3.out (show w.heap.size + 2 ≤ w2.heap.size by omega)) HW.out (fun _ _ x => x))
      have hU : ∀ q, u6.ownBlock = some q → q < w3.heap.size := fun q hq => (World.ownsRow.lt HOA.out.1 q hq).2
      have hU2 : ∀ q, u6.ownBlock = some q → w.heap.size + 2 ≤ q := fun q hq => (World.ownsRow.lt HOA.out.1 q hq).1
      have HU := Lib.hid hU
      have HU2 := Lib.hid hU2
      have hszW := HW.out.size
      have HSZ := Lib.hid hszW
      have hbs : w.heap.size + 2 ≤ w3.heap.size := by omega
      have HBS := Lib.hid (Nat.le_trans hbs hszW)
      have hpl2 : ps.length < 4398046511104 := by omega
      have HPL := Lib.hid hpl2
      clear hU hU2 hszW hbs hpl2
      have HS : Hid (((ps ++ [((Value.slice pv nv cv, ⟨ab, an, ai, af⟩) : Value × An)]).map (·.2)) ++ (if af then [] else sess key (askM m fin ⟨kd, xq⟩) (askF fin ⟨kd, xq⟩) ((qs.drop (k + 1)).map (·.2))) = sess key [] false (qs.map (·.2))) := Lib.hid (by
        rw [← HE.out, drop_map_cons HQ.out, sess_cons, ← HA.out]
        simp)
      cases af with
      | false =>
        go_wp2_with (at_builtin; refine wpList_appA rfl (.tmp 20) (.tmp 22) rfl (w.heap.size + 2) u6 ps (Value.slice pv nv cv, ⟨ab, an, ai, false⟩) (w3.heap.size + 1) rfl rfl HOW.out HG.out HPW.out HPL.out HBS.out ?_; intro v5 w5 HO5 HK5; have c9 : w5.cell? ⟨w3.heap.size, 3, none⟩ = some (.bool false) := HK5.out.cellAt (by rw [cell_block HG0.out]; rfl) (fun e => Nat.lt_irrefl _ (HU.out _ e)))
        go_roundw
        case rel =>
          have HS' := HS.out
          simp only [Bool.false_eq_true, if_false] at HS'
          refine ⟨k + 1, ps ++ [(Value.slice pv nv cv, ⟨ab, an, ai, false⟩)], _, _, by omega, by go_num, by simp [hpl], HO5.out, ?_, ?_, HS'⟩
          · refine Mac.keeps (Mac.keeps HM3.out HW.out (fun x => x)) HK5.out (fun e => ?_)
            have := HU2.out _ e
            omega
          · exact Fresh.then (Fresh.then (HF.out.trans HF2.out) HK3.out (fun q hq e => by omega)) (S := fun q => u6.ownBlock = some q) ((Fresh.to HW.out).trans HK5.out) (fun q hq e => by have := HU2.out _ e; omega)
        case measure => simp [intOf]; omega
      | true =>
        go_wp2_with (at_builtin; refine wpList_appA rfl (.tmp 20) (.tmp 22) rfl (w.heap.size + 2) u6 ps (Value.slice pv nv cv, ⟨ab, an, ai, true⟩) (w3.heap.size + 1) rfl rfl HOW.out HG.out HPW.out HPL.out HBS.out ?_; intro v5 w5 HO5 HK5; have c9 : w5.cell? ⟨w3.heap.size, 3, none⟩ = some (.bool true) := HK5.out.cellAt (by rw [cell_block HG0.out]; rfl) (fun e => Nat.lt_irrefl _ (HU.out _ e)))
        go_ret
        have HS' := HS.out
        simp only [if_true, List.append_nil] at HS'
        refine ⟨_, _, rfl, HO5.out.mono (by omega), HS', ?_⟩
        have hk := HK5.out
        exact Fresh.then (Fresh.then (HF.out.trans HF2.out) HK3.out (fun q hq e => by omega)) (S := fun q => u6.ownBlock = some q) ((Fresh.to HW.out).trans hk) (fun q hq e => by have := HU2.out _ e; omega)
    · have hks : k = qs.length := by omega
      go_wp2_with fail
      go_ret
      refine ⟨_, ps, rfl, HO.out.mono (by omega), ?_, HF.out⟩
      have := HE.out
      rw [hks, List.drop_length] at this
      simpa [sess_nil] using this
end Go.Proofs.Ytdkhpehniciijaa
