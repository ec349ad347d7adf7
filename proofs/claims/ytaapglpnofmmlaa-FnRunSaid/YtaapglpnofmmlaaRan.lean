/-
  Contracts: laws.ran, laws.nonceOf, laws.at, laws.into, laws.within.
-/
import Derived.Test.YtaapglpnofmmlaaRun
import Derived.Test.YtaapglpnofmmlaaRanP
namespace Go.Proofs.Ytaapglpnofmmlaa
open Go Go.RowKit
attribute [local irreducible] Cha.iter Cha.rounds Cha.dbl Cha.qr ckOf run doA doN
theorem run_len (K : CK) : ∀ (ss : List St) (a : Nat), (run K a ss).length ≤ ss.length := by
  intro ss
  induction ss with
  | nil => intro a; rw [run_nil]; exact Nat.le_refl _
  | cons s ss ih =>
    intro a
    rw [run_cons, List.length_cons, List.length_cons]
    have := ih (doN a s)
    split
    · simp
    · omega
theorem beq_len (a b : Nat) : ((a : Int) == (b : Int)) = decide (a = b) := by
  by_cases h : a = b
  · subst h; simp
  · rw [decide_eq_false h, beq_eq_false_iff_ne]; omega
/-- what ran returns -/
def RanR (K : CK) (ss : List St) (w : World) (e : Ending) (w' : World) : Prop :=
  ∃ v, e = .returned (.tuple #[v, .bool (outsOk (run K 0 ss) && decide ((run K 0 ss).length = ss.length))]) ∧ OwnB 5 w' w.heap.size v (outsB (run K 0 ss)) ∧ Fresh w w'
/-- what its loop keeps -/
def RanRel (w1 : World) (os : List Ou) (ok all i : Value) (wr : World) : Prop :=
  ∃ k : Nat, k ≤ os.length ∧ i = .int .i64 k ∧ ok = .bool (outsOk (os.take k)) ∧ OwnB 5 wr w1.heap.size all (outsB (os.take k)) ∧ Fresh w1 wr
theorem outsB_take_le (os : List Ou) (k : Nat) : (outsB (os.take k)).length ≤ (outsB os).length := by
  conv => rhs; rw [← List.take_append_drop k os, outsB_append, List.length_append]
  omega
theorem take_snoc_Ou {os : List Ou} {k : Nat} {o : Ou} (h : os[k]? = some o) : os.take (k + 1) = os.take k ++ [o] := by
  obtain ⟨hk, rfl⟩ := List.getElem?_eq_some_iff.1 h
  rw [List.take_succ_eq_append_getElem hk]
theorem SlB.all32 {w : World} {b : Nat} {T : TypeId} {l : List UInt8} {n : Nat} (h : w.heap[b]? = some (.cells (cells8 l) T (0, 0))) (hl : l.length = n) (hn : n ≤ maxLen) : SlB w (.slice (some ⟨b, 0, none⟩) n n) l := by
  subst hl
  exact SlB.of (Nat.le_refl _) hn (fun i hi => by rw [cell_block h, Nat.zero_add]; exact cells8_get hi)
set_option maxRecDepth 100000 in
set_option maxHeartbeats 2000000 in
theorem ran_c (vn vc : Value) (key nonce : List UInt8) (qs : List (Value × St)) (w : World) (hk : key.length = 32) (h2 : SlB w vn nonce) (hn : nonce.length = 12 ∨ nonce.length = 24)
    (hc : StepsL w vc qs) (hq : qs.length ≤ 4398046511104) (hb : ∀ q ∈ qs, q.2.src.length ≤ 140737488353280 ∧ -128 ≤ q.2.room ∧ q.2.room ≤ 127)
    (hz : (outsB (run (ckOf key nonce) 0 (qs.map (·.2)))).length ≤ 140737488355328) :
    Calls Try.prog 18 #[.agg (cells8 key), vn, vc] w (RanR (ckOf key nonce) (qs.map (·.2)) w) := by
  obtain ⟨pa, ca, rfl⟩ := hc.shape
  obtain ⟨os, hos⟩ : ∃ os, os = run (ckOf key nonce) 0 (qs.map (·.2)) := ⟨_, rfl⟩
  unfold RanR
  rw [← hos] at hz ⊢
  have hol : os.length ≤ 4398046511104 := by rw [hos]; exact Nat.le_trans (run_len _ _ _) (by rw [List.length_map]; exact hq)
  have HOS := Lib.hid hos
  have HC := Lib.hid hc
  have HKL := Lib.hid hk
  have HB := Lib.hid hb
  have HQ := Lib.hid hq
  have H2 := Lib.hid h2
  have HN := Lib.hid hn
  have HZ := Lib.hid hz
  have h1 := cells8_one key
  clear hc hk hb h2 hn hz hos hq
  rw [List.length_map]
  go_enter Try.func18, Try.ntmps18
  go_wp2_with fail
  have HF0 : Hid (Fresh w (w.alloc (.cells (cells8 key) 27))) := Lib.hid ((Keeps.refl _ w).alloc _)
  refine (Run_good _ vn _ key nonce qs _ (SlB.all32 (heap_alloc_new w _) HKL.out (by decide)) (H2.out.fresh HF0.out) HKL.out HN.out (HC.out.fresh HF0.out) HQ.out HB.out).mono ?_
  rintro e w1 ⟨v, ps, rfl, ho, hp, hf⟩
  rw [← HOS.out] at hp
  have HF1 : Hid (Fresh w w1) := Lib.hid (HF0.out.trans hf)
  have HL := Lib.hid ho.sl
  have HP := Lib.hid hp
  have hpl : ps.length = os.length := by rw [← hp, List.length_map]
  obtain ⟨pv, cv, rfl⟩ := ho.sl.shape
  rw [hpl]
  have HPL := Lib.hid hpl
  clear ho hp hf hpl HF0
  go_wp2_with fail
  go_loopw [9, 10, 23] (fun ok all i wr => RanRel w1 os ok all i wr) (fun _ _ i _ => os.length - (intOf i).toNat)
  case atStart => exact ⟨0, Nat.zero_le _, rfl, rfl, World.ownsRow_lit w1 #[] 0 (Nat.le_refl _) (by decide) rfl, (Keeps.refl _ w1).alloc _⟩
  case round =>
    obtain ⟨k, hk, rfl, rfl, hown, hf⟩ := hrel
    have HO := Lib.hid hown
    have HF := Lib.hid hf
    clear hown hf
    by_cases hlt : k < os.length
    · have hkp : k < ps.length := by rw [HPL.out]; exact hlt
      obtain ⟨⟨vx, xb, xf⟩, hx⟩ : ∃ p, ps[k]? = some p := ⟨_, List.getElem?_eq_getElem hkp⟩
      have hox : os[k]? = some ⟨xb, xf⟩ := by rw [← HP.out, List.getElem?_map, hx]; rfl
      obtain ⟨bo, oo, co, he, -, -, hlie⟩ := HL.out.form (by omega)
      rw [HPL.out] at he
      injection he with e1 e2 e3
      subst e1 e3
      have hsx : SlB w1 vx xb := HL.out.2 _ (List.mem_of_getElem? hx)
      have ⟨d0, d1⟩ := OutsL.at (hlie.fresh HF.out) hx
      simp only at d0 d1
      obtain ⟨px, cx, hvx⟩ := hsx.slice
      obtain ⟨nx, hnx⟩ : ∃ n, n = xb.length := ⟨_, rfl⟩
      rw [← hnx] at hvx
      subst hvx
      have HSX := Lib.hid (hsx.fresh HF.out)
      have HT := Lib.hid (take_snoc_Ou hox)
      have HLE := Lib.hid (Nat.le_trans (outsB_take_le os (k + 1)) HZ.out)
      obtain ⟨okb, hokb⟩ : ∃ o, o = outsOk (os.take k) := ⟨_, rfl⟩
      rw [← hokb]
      have HOK := Lib.hid hokb
      clear hokb hlie hx hox hsx hnx
      have HW : Hid (Fresh wr (wr.alloc (.cells #[.slice px nx cx, .bool xf] TOu))) := Lib.hid ((Keeps.refl _ wr).alloc _)
      have HSXW := Lib.hid (HSX.out.fresh HW.out)
      have HOW := Lib.hid (OwnB.kept HO.out HW.out (fun _ _ x => x))
      have HSZ := Lib.hid (Nat.le_trans HF.out.size HW.out.size)
      have HLEN : Hid ((outsB (os.take k)).length + xb.length ≤ 140737488355328) := Lib.hid (by
        have := HLE.out
        rw [HT.out, outsB_append, List.length_append, outsB_cons, outsB_nil, List.append_nil] at this
        exact this)
      have HREL : Hid (∀ v' w', AppB (wr.alloc (.cells #[.slice px nx cx, .bool xf] TOu)) w1.heap.size u10 (outsB (os.take k)) xb v' w' → RanRel w1 os (.bool (okb && !xf)) v' (.int .i64 ((k : Int) + 1)) w') := Lib.hid (fun v' w' hA => by
        refine ⟨k + 1, by omega, by go_num, ?_, ?_, Fresh.then (HF.out.trans HW.out) hA.2.1 (by intro q hq; omega)⟩
        · rw [HT.out, outsOk_append, outsOk_cons, outsOk_nil, Bool.and_true, HOK.out]
        · rw [HT.out, outsB_append, outsB_cons, outsB_nil, List.append_nil]
          exact hA.1)
      cases okb <;> cases xf
      all_goals
        go_wp2_with (at_builtin; refine wpList_appB rfl (.tmp 33) (.tmp 35) rfl w1.heap.size u10 _ (outsB (os.take k)) xb rfl rfl HOW.out HSXW.out HLEN.out HSZ.out ?_; intro v6 w6 hA)
        go_roundw
        case rel => exact HREL.out _ _ hA
        case measure => simp [intOf]; omega
    · have hks : k = os.length := by omega
      have hok := HO.out
      rw [hks, List.take_length] at hok
      have HO2 := Lib.hid hok
      rw [hks, List.take_length]
      obtain ⟨okb, hokb⟩ : ∃ o, o = outsOk os := ⟨_, rfl⟩
      rw [← hokb]
      have HOKB := Lib.hid hokb
      clear hok hokb HO
      cases okb
      all_goals
        go_wp2_with fail
        go_ret2
        exact ⟨u10, by rw [← HOKB.out]; first | rfl | (rw [Bool.true_and, ← beq_len]; rfl), HO2.out.mono HF1.out.size, HF1.out.trans HF.out⟩
end Go.Proofs.Ytaapglpnofmmlaa
