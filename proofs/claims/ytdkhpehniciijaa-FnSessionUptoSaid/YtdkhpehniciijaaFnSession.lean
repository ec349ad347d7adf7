/-
  The walk of laws.FnSession.
-/
import Derived.Test.YtdkhpehniciijaaSessionOf
import Derived.Test.YtdkhpehniciijaaSame
import Derived.Test.YtdkhpehniciijaaArgCalls
namespace Go.Proofs.Ytdkhpehniciijaa
open Go Go.RowKit
attribute [local irreducible] tagK
theorem ansCells_take (ps : List (Value × An)) (n : Nat) (j : Nat) (u : Value) (h : (ansCells (ps.take n))[j]? = some u) : (ansCells ps)[j]? = some u := by
  have e : ansCells ps = ansCells (ps.take n) ++ ansCells (ps.drop n) := by rw [← ansCells_append, List.take_append_drop]
  rw [e, List.getElem?_append_left ((List.getElem?_eq_some_iff.1 h).1)]
  exact h
theorem AnsL.take {w : World} {g o c : Nat} {ps : List (Value × An)} (n : Nat) (h : Lie w ⟨g, o, none⟩ (ansCells ps)) (hs : ∀ q ∈ ps, SlB w q.1 q.2.bytes) (hn : n ≤ ps.length) (hc : ps.length ≤ c) (hm : c ≤ maxLen) : AnsL w (.slice (some ⟨g, o, none⟩) n c) (ps.take n) := by
  have e : (ps.take n).length = n := by rw [List.length_take]; omega
  refine ⟨Or.inr ⟨g, o, c, by rw [e], by omega, hm, ?_⟩, fun q hq => hs q (List.mem_of_mem_take hq)⟩
  intro j u hu
  exact h j u (ansCells_take ps n j u hu)
set_option maxRecDepth 100000 in
set_option maxHeartbeats 2000000 in
theorem fnSession_c (key : List UInt8) (qs : List (Value × Cl)) (vc : Value) (w : World) (hk : key.length = 32) (hc : CallsL w vc qs) (hn : qs.length ≤ 1000000000) (ht : totalB (qs.map (·.2)) ≤ 1000000000) (hb : ∀ q ∈ qs, q.2.bytes.length ≤ 1000000000) :
    Calls Try.prog 10 #[.agg (cells8 key), vc] w fun e w' => e = .returned (.bool true) ∧ Fresh w w' := by
  have HC := Lib.hid hc
  have HK := Lib.hid hk
  have H1 := cells8_one key
  have HKS := Lib.hid (show (cells8 key).size = 32 by rw [cells8_size, hk])
  have HT := Lib.hid ht
  have HB := Lib.hid hb
  clear hc hk ht hb
  go_enter Try.func10, Try.ntmps10
  have HF1 : Hid (Fresh w (w.alloc (.cells (cells8 key) 22))) := Lib.hid ((Keeps.refl _ w).alloc _)
  have HB1 := Lib.hid (heap_alloc_new w (.cells (cells8 key) 22))
  go_wp2_with (refine wpList_load_row rfl 22 (.tmp 2) rfl w.heap.size rfl 22 (cells8 key) (0, 0) _ HB1.out Try.underlying22 rfl ?_ ?_; (rw [HKS.out]; exact info32B))
  refine (SessionOf_c key qs vc _ HK.out (HC.out.fresh HF1.out) (by omega) (by have := HT.out; omega)).mono ?_
  rintro e w2 ⟨v2, rs, rfl, ha2, hp2, hf2⟩
  obtain ⟨t, htt⟩ : ∃ t, t = (sessT key [] false (qs.map (·.2))).2 := ⟨_, rfl⟩
  rw [← htt]
  have HTT := Lib.hid htt
  have HA2 := Lib.hid ha2
  have HP2 := Lib.hid hp2
  have HF2 := Lib.hid (HF1.out.trans hf2)
  have HB2 := Lib.hid (hf2.at HB1.out)
  clear ha2 hp2 hf2 htt HB1 HF1
  go_wp2_with (refine wpList_load_row rfl 22 (.tmp 2) rfl w.heap.size rfl 22 (cells8 key) (0, 0) _ HB2.out Try.underlying22 rfl ?_ ?_; (rw [HKS.out]; exact info32B))
  refine (Session_c key qs vc w2 HK.out (HC.out.fresh HF2.out) (by omega) (fun q hq => by have := HB.out q hq; omega)).mono ?_
  rintro e w3 ⟨v3, ps, rfl, ha3, hp3, hf3⟩
  have HA3 := Lib.hid ha3.sl
  have HP3 := Lib.hid hp3
  have HF3 := Lib.hid (HF2.out.trans hf3)
  have HA23 := Lib.hid (HA2.out.fresh hf3)
  clear ha3 hp3 hf3 HA2 HB2
  cases t with
  | true =>
    have HE : Hid (ps.map (·.2) = rs.map (·.2)) := Lib.hid (by
      rw [HP3.out, HP2.out]
      exact ((sessT_sess key (qs.map (·.2)) [] false).1 HTT.out.symm).symm)
    go_wp2_with fail
    refine (SameAnswers_c v3 v2 ps rs w3 HA3.out HA23.out HE.out).mono ?_
    rintro e w4 ⟨rfl, hf4⟩
    have HF4 := Lib.hid (HF3.out.trans hf4)
    clear hf4
    go_wp2_with fail
    go_ret
    exact ⟨rfl, HF4.out⟩
  | false =>
    obtain ⟨a, r, hr⟩ := (sessT_sess key (qs.map (·.2)) [] false).2 HTT.out.symm
    have hps : ps.map (·.2) = rs.map (·.2) ++ a :: r := by rw [HP3.out, HP2.out, hr]
    have hlen : rs.length < ps.length := by
      have := congrArg List.length hps
      simp at this
      omega
    have HE : Hid ((ps.take rs.length).map (·.2) = rs.map (·.2)) := Lib.hid (by
      rw [List.map_take, hps, List.take_append_of_le_length (by simp)]
      rw [List.take_of_length_le (by simp)])
    obtain ⟨g, o, c, rfl, h1, h2, h3⟩ := HA3.out.form (by omega)
    have HA4 := Lib.hid (AnsL.take rs.length h3 HA3.out.2 (by omega) h1 h2)
    obtain ⟨pr, cr, rfl⟩ := HA23.out.shape
    have hgt : (rs.length : Int) < (ps.length : Int) := by omega
    have hle : (rs.length : Int) ≤ (c : Int) := by omega
    clear hps hlen h3 hr
    go_wp2_with fail
    refine (SameAnswers_c _ _ _ rs w3 HA4.out HA23.out HE.out).mono ?_
    rintro e w4 ⟨rfl, hf4⟩
    have HF4 := Lib.hid (HF3.out.trans hf4)
    clear hf4
    go_wp2_with fail
    go_ret
    exact ⟨rfl, HF4.out⟩
theorem totalB_eq (cs : List Cl) : totalB cs = totalL cs := by
  induction cs with
  | nil => rfl
  | cons c cs ih => simp only [totalB, totalL, ih]
theorem totalL_mem {cs : List Cl} {c : Cl} (h : c ∈ cs) : c.bytes.length ≤ totalL cs := by
  induction cs with
  | nil => cases h
  | cons x r ih =>
    simp only [totalL]
    rcases List.mem_cons.1 h with rfl | h
    · omega
    · have := ih h; omega
theorem fnSession_u (key : List UInt8) (qs : List (Value × Cl)) (vc : Value) (w : World) (hk : key.length = 32) (hc : CallsL w vc qs) (hb : totalL (qs.map (·.2)) + qs.length ≤ 1048576) :
    Calls Try.prog 10 #[.agg (cells8 key), vc] w fun e w' => e = .returned (.bool true) ∧ Fresh w w' :=
  fnSession_c key qs vc w hk hc (by omega) (by rw [totalB_eq]; omega) (fun q hq => by have := totalL_mem (List.mem_map_of_mem (f := fun x : Value × Cl => x.2) hq); omega)
end Go.Proofs.Ytdkhpehniciijaa
