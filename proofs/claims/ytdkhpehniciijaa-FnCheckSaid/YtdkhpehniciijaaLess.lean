/-
  Contracts: spec.less, spec.prime.
-/
import Derived.Test.YtdkhpehniciijaaMinus
import Derived.Test.YtdkhpehniciijaaPoly
import Derived.Deep.QuietTactic
import Derived.BigQuiet
namespace Go.Proofs.Ytdkhpehniciijaa
open Go Go.RowKit
theorem dig_ge (n : Nat) (h : 0 < n) : 256 ^ ((Dig.dig n).length - 1) ≤ n := by
  induction n using Nat.strongRecOn with
  | _ n ih =>
    rw [Dig.dig_pos n h]
    by_cases h0 : n / 256 = 0
    · rw [h0, Dig.dig_zero]; simp; omega
    · have := ih (n / 256) (by omega) (by omega)
      rw [Dig.dig_pos (n / 256) (by omega)] at this ⊢
      simp only [List.length_cons, Nat.add_sub_cancel] at this ⊢
      rw [Nat.pow_succ]
      have h2 : n / 256 * 256 ≤ n := Nat.div_mul_le_self n 256
      exact Nat.le_trans (Nat.mul_le_mul_right _ this) h2
theorem dig_lt (n : Nat) : n < 256 ^ (Dig.dig n).length := by
  have := Dig.val_lt (Dig.dig n) (Dig.small_dig n)
  rwa [Dig.val_dig] at this
theorem dig_len_lt {x y : Nat} (h : (Dig.dig x).length < (Dig.dig y).length) : x < y := by
  have hy : 0 < y := by
    rcases Nat.eq_zero_or_pos y with rfl | hy
    · rw [Dig.dig_zero] at h; simp at h
    · exact hy
  have h1 := dig_ge y hy
  have h2 := dig_lt x
  have h3 : 256 ^ (Dig.dig x).length ≤ 256 ^ ((Dig.dig y).length - 1) := Nat.pow_le_pow_right (by decide) (by omega)
  omega
theorem dig_len_mono {x y : Nat} (h : x ≤ y) : (Dig.dig x).length ≤ (Dig.dig y).length := by
  by_cases hc : (Dig.dig x).length ≤ (Dig.dig y).length
  · exact hc
  · have := dig_len_lt (Nat.lt_of_not_le hc); omega
/-- two numbers whose digits agree from place k on -/
theorem cmp_digits (la lb : List Nat) (k : Nat) (hsa : Dig.Small la) (hsb : Dig.Small lb) (hl : la.length = lb.length) (hk : k < la.length) (he : la.drop (k + 1) = lb.drop (k + 1)) (hne : la.getD k 0 ≠ lb.getD k 0) :
    Dig.val la < Dig.val lb ↔ la.getD k 0 < lb.getD k 0 := by
  have split : ∀ l : List Nat, k < l.length → Dig.val l = Dig.val (l.take k) + 256 ^ k * (l.getD k 0 + 256 * Dig.val (l.drop (k + 1))) := by
    intro l hkl
    conv => lhs; rw [← List.take_append_drop k l, Dig.val_append, List.length_take, Nat.min_eq_left (Nat.le_of_lt hkl), List.drop_eq_getElem_cons hkl]
    simp [Dig.val, List.getD, hkl]
  have small : ∀ l : List Nat, Dig.Small l → k < l.length → Dig.val (l.take k) < 256 ^ k := by
    intro l hs hkl
    have := Dig.val_lt (l.take k) (fun d hd => hs d (List.mem_of_mem_take hd))
    rwa [List.length_take, Nat.min_eq_left (Nat.le_of_lt hkl)] at this
  have ha := small la hsa hk
  have hb := small lb hsb (by omega)
  rw [split la hk, split lb (by omega), he]
  generalize Dig.val (lb.drop (k + 1)) = s at *
  generalize la.getD k 0 = x at *
  generalize lb.getD k 0 = y at *
  generalize Dig.val (la.take k) = p at *
  generalize Dig.val (lb.take k) = q at *
  generalize 256 ^ k = P at *
  constructor
  · intro h
    by_cases hxy : x < y
    · exact hxy
    · have h1 : P * (y + 256 * s + 1) ≤ P * (x + 256 * s) := Nat.mul_le_mul_left _ (by omega)
      rw [Nat.mul_add, Nat.mul_one] at h1
      omega
  · intro h
    have h1 : P * (x + 256 * s + 1) ≤ P * (y + 256 * s) := Nat.mul_le_mul_left _ (by omega)
    rw [Nat.mul_add, Nat.mul_one] at h1
    omega
/-- the loop of less -/
def LessRel (w : World) (la lb : List Nat) (i : Value) (wr : World) : Prop := ∃ k : Nat, k ≤ la.length ∧ i = .int .i64 ((k : Int) - 1) ∧ la.drop k = lb.drop k ∧ Fresh w wr
set_option maxRecDepth 100000 in
set_option maxHeartbeats 2000000 in
theorem less_c (va vb : Value) (x y : Nat) (w : World) (ha : SlI w va (Dig.dig x)) (hb : SlI w vb (Dig.dig y)) :
    Calls Try.prog 37 #[va, vb] w fun e w' => e = .returned (.bool (decide (x < y))) ∧ Fresh w w' := by
  obtain ⟨la, hla⟩ : ∃ la, la = Dig.dig x := ⟨_, rfl⟩
  obtain ⟨lb, hlb⟩ : ∃ lb, lb = Dig.dig y := ⟨_, rfl⟩
  have HX : Hid (Dig.val la = x) := Lib.hid (by rw [hla, Dig.val_dig])
  have HY : Hid (Dig.val lb = y) := Lib.hid (by rw [hlb, Dig.val_dig])
  have HSA : Hid (Dig.Small la) := Lib.hid (by rw [hla]; exact Dig.small_dig x)
  have HSB : Hid (Dig.Small lb) := Lib.hid (by rw [hlb]; exact Dig.small_dig y)
  have HLT : Hid (¬ la.length = lb.length → decide (x < y) = decide (la.length < lb.length)) := Lib.hid (by
    intro hne
    rw [hla, hlb] at hne ⊢
    by_cases h : (Dig.dig x).length < (Dig.dig y).length
    · rw [decide_eq_true h, decide_eq_true (dig_len_lt h)]
    · rw [decide_eq_false h, decide_eq_false]
      intro hxy
      have := dig_len_lt (x := y) (y := x) (by omega)
      omega)
  rw [← hla] at ha
  rw [← hlb] at hb
  have HA := Lib.hid ha
  have HBB := Lib.hid hb
  obtain ⟨pa, ca, rfl⟩ := ha.shape
  obtain ⟨pb, cb, rfl⟩ := hb.shape
  have hml : la.length ≤ maxLen := ha.len_le
  simp only [maxLen] at hml
  clear ha hb hla hlb
  go_enter Try.func37, Try.ntmps37
  by_cases hlen : la.length = lb.length
  · have il : (la.length : Int) = lb.length := by omega
    go_wp2_with fail
    go_loopw [5] (fun i wr => LessRel w la lb i wr) (fun i _ => (intOf i + 1).toNat)
    case atStart =>
      exact ⟨lb.length, by omega, rfl, by rw [List.drop_eq_nil_of_le (by omega), List.drop_eq_nil_of_le (Nat.le_refl _)], Keeps.refl _ w⟩
    case round =>
      obtain ⟨k, hk, rfl, hdrop, hf⟩ := hrel
      have HD := Lib.hid hdrop
      have HF := Lib.hid hf
      clear hdrop hf
      rcases Nat.eq_zero_or_pos k with hk0 | hk0
      · have HK := Lib.hid hk0
        have ik : ¬ (0 : Int) ≤ (k : Int) - 1 := by omega
        clear hk0
        go_wp2_with fail
        go_ret
        have h := HD.out
        rw [HK.out, List.drop_zero, List.drop_zero] at h
        have hfin : decide (x < y) = false := decide_eq_false (by rw [← HX.out, ← HY.out, h]; exact Nat.lt_irrefl _)
        exact ⟨congrArg (fun b => Ending.returned (Value.bool b)) hfin.symm, HF.out⟩
      · obtain ⟨j, rfl⟩ : ∃ j, k = j + 1 := ⟨k - 1, by omega⟩
        have hj : j < la.length := by omega
        have hjb : j < lb.length := by omega
        obtain ⟨ba, oa, xa, ea, -, -, hba, hca⟩ := HA.out.form (by omega)
        obtain ⟨rfl, rfl⟩ : pa = some ⟨ba, oa, none⟩ ∧ ca = xa := by injection ea with a1 a2 a3; exact ⟨a1, a3⟩
        obtain ⟨bb, ob, xb, eb, -, -, hbb, hcb⟩ := HBB.out.form (by omega)
        obtain ⟨rfl, rfl⟩ : pb = some ⟨bb, ob, none⟩ ∧ cb = xb := by injection eb with a1 a2 a3; exact ⟨a1, a3⟩
        obtain ⟨dx, hdx⟩ : ∃ d, d = la.getD j 0 := ⟨_, rfl⟩
        obtain ⟨dy, hdy⟩ : ∃ d, d = lb.getD j 0 := ⟨_, rfl⟩
        have cx : wr.cell? ⟨ba, oa + j, none⟩ = some (.int .i64 (dx : Int)) := by rw [hdx]; exact HF.out.cellAt (hca j hj) (fun x => x)
        have cy : wr.cell? ⟨bb, ob + j, none⟩ = some (.int .i64 (dy : Int)) := by rw [hdy]; exact HF.out.cellAt (hcb j hjb) (fun x => x)
        have HDX := Lib.hid hdx
        have HDY := Lib.hid hdy
        have ij : ((j + 1 : Nat) : Int) - 1 = j := by omega
        have ia : (j : Int) < la.length := by omega
        have ib : (j : Int) < lb.length := by omega
        rw [ij]
        clear ea eb hca hcb hdx hdy hk0 hk
        by_cases hde : dx = dy
        · subst hde
          go_wp2_with fail
          go_quiet (fail)
          go_wp2_with fail
          refine ⟨⟨j, by omega, rfl, ?_, HF.out.drewN _⟩, by simp [intOf]⟩
          rw [List.drop_eq_getElem_cons hj, List.drop_eq_getElem_cons hjb, HD.out]
          congr 1
          have h1 := HDX.out
          have h2 := HDY.out
          rw [h1] at h2
          simpa [List.getD, hj, hjb] using h2
        · have HNE := Lib.hid hde
          have hdb : ((dx : Int) != dy) = true := by simp; omega
          clear hde
          go_wp2_with fail
          go_quiet (fail)
          go_wp2_with fail
          go_quiet (fail)
          go_wp2_with fail
          go_ret
          have hfin : decide (x < y) = decide (dx < dy) := by
            have h1 := HDX.out
            have h2 := HDY.out
            have h3 := cmp_digits la lb j HSA.out HSB.out hlen hj HD.out (by rw [← h1, ← h2]; exact HNE.out)
            rw [HX.out, HY.out, ← h1, ← h2] at h3
            exact decide_eq_decide.2 h3
          exact ⟨congrArg (fun b => Ending.returned (Value.bool b)) hfin.symm, (HF.out.drewN _).drewN _⟩
  · have il : ¬ (la.length : Int) = lb.length := by omega
    have HE := Lib.hid (HLT.out hlen)
    go_wp2_with fail
    go_ret
    exact ⟨congrArg (fun b => Ending.returned (Value.bool b)) HE.out.symm, Keeps.refl _ w⟩
end Go.Proofs.Ytdkhpehniciijaa
