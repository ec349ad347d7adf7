/-
  Contract: spec.Stream.
-/
import Derived.Test.YtaapglpnofmmlaaBlock
import Derived.Test.YtaapglpnofmmlaaLawR
import Derived.Test.YtaapglpnofmmlaaHeld
namespace Go.Proofs.Ytaapglpnofmmlaa
open Go Go.RowKit
set_option linter.unusedVariables false
attribute [local irreducible] Cha.iter Cha.rounds Cha.dbl Cha.qr blkB CK.ks
/-- n bytes of the key stream from a place on -/
def ksL (K : CK) (f n : Nat) : List UInt8 := (List.range n).map fun i => K.ks (f + i)
theorem ksL_len (K : CK) (f n : Nat) : (ksL K f n).length = n := by simp [ksL]
theorem ksL_add (K : CK) (f t k : Nat) : ksL K f (t + k) = ksL K f t ++ ksL K (f + t) k := by
  unfold ksL
  rw [List.range_add, List.map_append, List.map_map]
  congr 1
  apply List.map_congr_left
  intro i _
  simp [Nat.add_assoc]
theorem blk_part (key nonce : List UInt8) (p k : Nat) (hk : p % 64 + k ≤ 64) : ((blkB ((ck12 key nonce).st (UInt32.ofNat (p / 64)))).drop (p % 64)).take k = ksL (ck12 key nonce) p k := by
  have hl := blkB_len ((ck12 key nonce).st (UInt32.ofNat (p / 64)))
  apply List.ext_getElem
  · rw [List.length_take, List.length_drop, hl, ksL_len]; omega
  · intro i h1 h2
    rw [ksL_len] at h2
    have e := blk_ks key nonce (p / 64) (p % 64 + i) (by omega)
    rw [show 64 * (p / 64) + (p % 64 + i) = p + i by omega] at e
    simp only [List.getD] at e
    rw [List.getElem?_eq_getElem (by rw [hl]; omega), Option.getD_some] at e
    rw [List.getElem_take, List.getElem_drop, e]
    simp [ksL]
theorem block_at (bk ok ck : Nat) (vn : Value) (key nonce : List UInt8) (q : Nat) (A : Int) (hA : A = (q : Int)) (hq : q < 4294967296) (w : World) (hk : key.length = 32) (hn : nonce.length = 12) (h1 : BytesAt w bk ok key) (h2 : SlB w vn nonce) :
    Calls Try.prog 24 #[.slice (some ⟨bk, ok, none⟩) 32 ck, .int .u32 A, vn] w (RetB 5 w (blkB ((ck12 key nonce).st (UInt32.ofNat q)))) := by
  rw [hA, ← u32_q hq]
  exact block_c bk ok ck vn key nonce _ w hk hn h1 h2
noncomputable def smBody : Code := Try.f25.body.getD .skip
noncomputable def sm3 : Code := rgt (rgt smBody)
def StreamRel (w : World) (K : CK) (f n base : Nat) (v i : Value) (wr : World) : Prop :=
  ∃ t : Nat, t ≤ n ∧ i = .int .i64 ((f + t : Nat) : Int) ∧ OwnB 5 wr base v (ksL K f t) ∧ Fresh w wr
set_option maxRecDepth 100000 in
set_option maxHeartbeats 4000000 in
theorem sm3_c (R : Ending → World → Prop) (bk ok ck : Nat) (pn : Option Addr) (cn f n : Nat) (key nonce : List UInt8) (r4 r5 r6 r7 r9 r10 r11 r12 r13 r14 r15 r16 r17 r18 r19 r20 r21 r22 r23 r24 r25 r26 r27 r28 r29 r30 r31 r32 r33 r34 r35 r36 r37 r38 r39 r40 r41 r42 r43 r44 r45 r46 r47 r48 r49 r50 r51 r52 r53 r54 r55 r56 r57 r58 r59 : Value) (w : World) (hk : key.length = 32) (hn : nonce.length = 12) (h1 : BytesAt w bk ok key) (h2 : SlB w (.slice pn 12 cn) nonce) (hf : f + n ≤ endK)
    (h : ∀ v w', OwnB 5 w' w.heap.size v (ksL (ck12 key nonce) f n) → Fresh w w' → R (.returned v) w') :
    Code.wp Try.prog sm3 (bodyPost Try.prog Try.f25 R) ⟨#[.slice (some ⟨bk, ok, none⟩) 32 ck, .slice pn 12 cn, .int .i64 (f : Int), .int .i64 (n : Int), r4, r5, r6, r7, .slice none 0 0, r9, r10, r11, r12, r13, r14, r15, r16, r17, r18, r19, r20, r21, r22, r23, r24, r25, r26, r27, r28, r29, r30, r31, r32, r33, r34, r35, r36, r37, r38, r39, r40, r41, r42, r43, r44, r45, r46, r47, r48, r49, r50, r51, r52, r53, r54, r55, r56, r57, r58, r59], []⟩ w := by
  conv => arg 2; whnf
  dsimp only
  have hend : endK = 274877906944 := rfl
  obtain ⟨N, hN⟩ : ∃ N, N = f + n := ⟨_, rfl⟩
  have hNi : (f : Int) + (n : Int) = (N : Int) := by omega
  have HK := Lib.hid hk
  have HN := Lib.hid hn
  have H1 := Lib.hid h1
  have H2 := Lib.hid h2
  have HH := Lib.hid h
  have HNN := Lib.hid hN
  have hNe : N ≤ 274877906944 := by omega
  obtain ⟨K, hK⟩ : ∃ K, K = ck12 key nonce := ⟨_, rfl⟩
  rw [← hK] at HH
  have HKK := Lib.hid hK
  have hfN : f ≤ N := by omega
  clear hk hn h1 h2 h hK hf hN
  go_wp2_with fail
  go_loopw [9, 10] (fun v i wr => StreamRel w K f n w.heap.size v i wr) (fun _ i _ => N - (intOf i).toNat)
  case atStart => exact ⟨0, Nat.zero_le _, rfl, World.ownsRow_lit w #[] 0 (Nat.le_refl _) (by decide) rfl, (Keeps.refl _ w).alloc _⟩
  case round =>
    obtain ⟨t, ht, rfl, hown, hf⟩ := hrel
    have HO := Lib.hid hown
    have HF := Lib.hid hf
    have hsz := hf.size
    obtain ⟨p, hp⟩ : ∃ p, p = f + t := ⟨_, rfl⟩
    rw [← hp]
    have HP := Lib.hid hp
    clear hown hf
    by_cases hlt : t < n
    · have hpN : (p : Int) < (N : Int) := by have := HNN.out; omega
      obtain ⟨q, hq⟩ : ∃ q, q = p / 64 := ⟨_, rfl⟩
      obtain ⟨r, hr⟩ : ∃ r, r = p % 64 := ⟨_, rfl⟩
      have hpn : p < N := by omega
      have hq32 : q < 4294967296 := by omega
      have d1 : (p : Int) / 64 = (q : Int) := by omega
      have d1' : (p : Int).tdiv 64 = (q : Int) := by rw [Int.tdiv_eq_ediv_of_nonneg (by omega)]; omega
      have d2 : IntKind.u32.wrap (q : Int) = (q : Int) := by rw [IntKind.wrap_u32]; omega
      have d3 : (p : Int) % 64 = (r : Int) := by omega
      have d3' : (p : Int).tmod 64 = (r : Int) := by rw [Int.tmod_eq_emod_of_nonneg (by omega)]; omega
      have hr64 : r < 64 := by omega
      have HQ := Lib.hid hq
      have HR := Lib.hid hr
      have HT := Lib.hid ht
      clear hq hr ht hp
      go_wp2_with fail
      refine (block_at bk ok ck _ key nonce q _ rfl hq32 wr HK.out HN.out (H1.out.keeps HF.out (fun x => x)) (H2.out.fresh HF.out)).mono ?_
      rintro e w1 ⟨vb, rfl, ho, hf1⟩
      rw [← HKK.out] at ho
      obtain ⟨g, og, cg, e1, kg, mg, lg, qg⟩ := ho.sl.form (by rw [blkB_len]; decide)
      have hsb := ho.sl
      rw [blkB_len] at e1 kg
      subst e1
      have HSB := Lib.hid hsb
      have HF1 : Hid (Fresh wr w1) := Lib.hid hf1
      have HO1 := Lib.hid (OwnB.kept HO.out hf1 (fun _ _ x => x))
      have hsz1 : w.heap.size ≤ w1.heap.size := Nat.le_trans hsz hf1.size
      clear ho hsb qg hf1
      obtain ⟨a1, ha1⟩ : ∃ a1, a1 = 64 - r := ⟨_, rfl⟩
      obtain ⟨a2, ha2⟩ : ∃ a2, a2 = N - p := ⟨_, rfl⟩
      have s1 : (64 : Int) - (r : Int) = (a1 : Int) := by omega
      have s2 : (N : Int) - (p : Int) = (a2 : Int) := by omega
      have v1 : IntKind.i64.wrap (a1 : Int) = (a1 : Int) := by rw [IntKind.wrap_i64]; omega
      have v2 : IntKind.i64.wrap (a2 : Int) = (a2 : Int) := by rw [IntKind.wrap_i64]; omega
      have hcr : ¬ cg = r := by omega
      have hr0 : (0 : Int) ≤ r := by omega
      by_cases hmin : a1 ≤ a2
      · have hmi : (a1 : Int) ≤ a2 := by omega
        have hmi2 : ¬ (a2 : Int) < a1 := by omega
        have hk0 : 0 < a1 := by omega
        have hk1 : r + a1 ≤ 64 := by omega
        have hk2 : p + a1 ≤ N := by omega
        obtain ⟨m, hm⟩ : ∃ m, m = r + a1 := ⟨_, rfl⟩
        have s3 : (r : Int) + (a1 : Int) = (m : Int) := by omega
        have v3 : IntKind.i64.wrap (m : Int) = (m : Int) := by rw [IntKind.wrap_i64]; omega
        have hm1 : (m : Int) ≤ cg := by omega
        have hm2 : (r : Int) ≤ m := by omega
        have hm3 : m - r = a1 := by omega
        have HSX : Hid (SlB w1 (.slice (some ⟨g, og + r, none⟩) a1 (cg - r)) (ksL K p a1)) := Lib.hid (by
          have h1 := (HSB.out.behind (blkB_len _).symm hr64).cut (by rw [List.length_drop, blkB_len]) (show a1 ≤ 64 - r by omega)
          have h2 := blk_part key nonce p a1 (by rw [← HR.out]; exact hk1)
          rw [← HR.out, ← HQ.out, ← HKK.out] at h2
          rw [h2] at h1
          exact h1)
        have HT2 : Hid (t + a1 ≤ n) := Lib.hid (by have := HP.out; have := HNN.out; omega)
        clear ha1 ha2 hm hmin
        go_wp2_with (at_builtin; refine wpList_appB rfl (.tmp 46) (.tmp 54) rfl w.heap.size _ _ (ksL K f t) (ksL K p a1) rfl rfl HO1.out HSX.out (by rw [ksL_len, ksL_len]; have := HT2.out; have := HNN.out; omega) hsz1 ?_; intro v9 w9 hA)
        have HA1 := Lib.hid hA.1
        have HA2 := Lib.hid hA.2.1
        clear hA
        go_roundw
        case rel =>
          refine ⟨t + a1, HT2.out, ?_, ?_, Fresh.then (HF.out.trans HF1.out) HA2.out (by intro q hq; omega)⟩
          · rw [show f + (t + a1) = p + a1 by have := HP.out; omega]; go_num
          · rw [ksL_add, ← HP.out]; exact HA1.out
        case measure => simp [intOf]; omega
      · have hmi : (a2 : Int) < a1 := by omega
        have hmi2 : ¬ (a1 : Int) ≤ a2 := by omega
        have hk0 : 0 < a2 := by omega
        have hk1 : r + a2 ≤ 64 := by omega
        have hk2 : p + a2 ≤ N := by omega
        obtain ⟨m, hm⟩ : ∃ m, m = r + a2 := ⟨_, rfl⟩
        have s3 : (r : Int) + (a2 : Int) = (m : Int) := by omega
        have v3 : IntKind.i64.wrap (m : Int) = (m : Int) := by rw [IntKind.wrap_i64]; omega
        have hm1 : (m : Int) ≤ cg := by omega
        have hm2 : (r : Int) ≤ m := by omega
        have hm3 : m - r = a2 := by omega
        have HSX : Hid (SlB w1 (.slice (some ⟨g, og + r, none⟩) a2 (cg - r)) (ksL K p a2)) := Lib.hid (by
          have h1 := (HSB.out.behind (blkB_len _).symm hr64).cut (by rw [List.length_drop, blkB_len]) (show a2 ≤ 64 - r by omega)
          have h2 := blk_part key nonce p a2 (by rw [← HR.out]; exact hk1)
          rw [← HR.out, ← HQ.out, ← HKK.out] at h2
          rw [h2] at h1
          exact h1)
        have HT2 : Hid (t + a2 ≤ n) := Lib.hid (by have := HP.out; have := HNN.out; omega)
        clear ha1 ha2 hm hmin
        go_wp2_with (at_builtin; refine wpList_appB rfl (.tmp 46) (.tmp 54) rfl w.heap.size _ _ (ksL K f t) (ksL K p a2) rfl rfl HO1.out HSX.out (by rw [ksL_len, ksL_len]; have := HT2.out; have := HNN.out; omega) hsz1 ?_; intro v9 w9 hA)
        have HA1 := Lib.hid hA.1
        have HA2 := Lib.hid hA.2.1
        clear hA
        go_roundw
        case rel =>
          refine ⟨t + a2, HT2.out, ?_, ?_, Fresh.then (HF.out.trans HF1.out) HA2.out (by intro q hq; omega)⟩
          · rw [show f + (t + a2) = p + a2 by have := HP.out; omega]; go_num
          · rw [ksL_add, ← HP.out]; exact HA1.out
        case measure => simp [intOf]; omega
    · have htn : t = n := by omega
      have hpN : ¬ (p : Int) < (N : Int) := by have := HNN.out; have := HP.out; omega
      have h := HO.out
      rw [htn] at h
      have HO2 := Lib.hid h
      clear h htn
      go_wp2_with fail
      exact HH.out _ _ HO2.out HF.out
end Go.Proofs.Ytaapglpnofmmlaa
