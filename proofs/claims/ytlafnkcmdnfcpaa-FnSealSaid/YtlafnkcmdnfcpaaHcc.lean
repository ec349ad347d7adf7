/-
  Contracts: errors.New, chacha20.hChaCha20.
-/
import Derived.Test.YtlafnkcmdnfcpaaHash
import Derived.Lib.SlBytesConst
namespace Go.Proofs.Ytlafnkcmdnfcpaa
open Go Go.RowKit
attribute [local irreducible] Cha.iter Cha.rounds Cha.dbl Cha.qr
def RetIface (w : World) (e : Ending) (w' : World) : Prop := ∃ x, e = .returned (.iface 141 x) ∧ Fresh w w'
theorem errorsNew_c (s : ByteArray) (w : World) : Calls Try.prog 68 #[.string s] w (RetIface w) := by
  go_enter Try.func68, Try.ntmps68
  go_wp2
  go_ret
  exact ⟨_, rfl, (Keeps.refl _ w).alloc _⟩
/-- nothing, and an error -/
def RetNoBytes (w : World) (e : Ending) (w' : World) : Prop := ∃ x, e = .returned (.tuple #[.slice none 0 0, .iface 141 x]) ∧ Fresh w w'
set_option maxRecDepth 100000 in
theorem hcc_badkey (vo vn : Value) (a : Option Addr) (n c : Nat) (w : World) (hn : ((n : Int) != 32) = true) :
    Calls Try.prog 60 #[vo, .slice a n c, vn] w (RetNoBytes w) := by
  go_enter Try.func60, Try.ntmps60
  go_wp2_with (go_at_call 68; refine (errorsNew_c _ _).mono ?_; rintro e w' ⟨x, rfl, hf⟩)
  go_ret2
  exact ⟨_, rfl, by assumption⟩
set_option maxRecDepth 100000 in
theorem hcc_badnonce (vo : Value) (a a2 : Option Addr) (c n c2 : Nat) (w : World) (hn : ((n : Int) != 16) = true) :
    Calls Try.prog 60 #[vo, .slice a 32 c, .slice a2 n c2] w (RetNoBytes w) := by
  go_enter Try.func60, Try.ntmps60
  go_wp2_with (go_at_call 68; refine (errorsNew_c _ _).mono ?_; rintro e w' ⟨x, rfl, hf⟩)
  go_ret2
  exact ⟨_, rfl, by assumption⟩

/-- what the loop of hChaCha20 keeps -/
def HccRel (l0 : List UInt32) (s0 s1 s2 s3 s4 s5 s6 s7 s8 s9 s10 s11 s12 s13 s14 s15 c : Value) : Prop :=
  ∃ (k : Nat) (x0 x1 x2 x3 x4 x5 x6 x7 x8 x9 x10 x11 x12 x13 x14 x15 : UInt32), k ≤ 10 ∧ c = .int .i64 k ∧ s0 = .int .u32 (u32 x0) ∧ s1 = .int .u32 (u32 x1) ∧ s2 = .int .u32 (u32 x2) ∧ s3 = .int .u32 (u32 x3) ∧ s4 = .int .u32 (u32 x4) ∧ s5 = .int .u32 (u32 x5) ∧ s6 = .int .u32 (u32 x6) ∧ s7 = .int .u32 (u32 x7) ∧ s8 = .int .u32 (u32 x8) ∧ s9 = .int .u32 (u32 x9) ∧ s10 = .int .u32 (u32 x10) ∧ s11 = .int .u32 (u32 x11) ∧ s12 = .int .u32 (u32 x12) ∧ s13 = .int .u32 (u32 x13) ∧ s14 = .int .u32 (u32 x14) ∧ s15 = .int .u32 (u32 x15) ∧ [x0, x1, x2, x3, x4, x5, x6, x7, x8, x9, x10, x11, x12, x13, x14, x15] = Cha.iter k l0
/-- the eight words that are put out -/
def hccPut (L : List UInt8) (R : List UInt32) : List UInt8 := put4 (put4 (put4 (put4 (put4 (put4 (put4 (put4 L 0 (R.getD 0 0)) 4 (R.getD 1 0)) 8 (R.getD 2 0)) 12 (R.getD 3 0)) 16 (R.getD 12 0)) 20 (R.getD 13 0)) 24 (R.getD 14 0)) 28 (R.getD 15 0)
set_option maxRecDepth 100000 in
set_option maxHeartbeats 4000000 in
theorem hcc_good (bo co bk ok ck bn on cn : Nat) (L key nonce : List UInt8) (w : World) (hL : L.length = 32) (hk : key.length = 32) (hn : nonce.length = 16)
    (hbo : w.heap[bo]? = some (.cells (cells8 L) 5 (0, 0))) (h1 : BytesAt w bk ok key) (h2 : BytesAt w bn on nonce) (hck : (32 : Int) ≤ ck) (hcn : (16 : Int) ≤ cn) (hco : (32 : Int) ≤ co) :
    Calls Try.prog 60 #[.slice (some ⟨bo, 0, none⟩) 32 co, .slice (some ⟨bk, ok, none⟩) 32 ck, .slice (some ⟨bn, on, none⟩) 16 cn] w fun e w' =>
      e = .returned (.tuple #[.slice (some ⟨bo, 0, none⟩) 32 co, .nilIface]) ∧ w'.heap[bo]? = some (.cells (cells8 (hccPut L (Cha.rounds (start key nonce)))) 5 (0, 0)) ∧ Keeps (fun q => q = bo) w w' := by
  have B1 := Lib.hid h1
  have B2 := Lib.hid h2
  have HB0 := Lib.hid hbo
  have HF0 := Lib.hid (Keeps.refl (fun _ => False) w)
  have HL := Lib.hid hL
  have HK := Lib.hid hk
  have HN := Lib.hid hn
  clear h1 h2 hbo hL hk hn
  have fck0 : (4 : Int) ≤ ck := by omega
  have gck0 : ¬ ck = 0 := by omega
  have fck4 : (8 : Int) ≤ ck := by omega
  have gck4 : ¬ ck = 4 := by omega
  have fck8 : (12 : Int) ≤ ck := by omega
  have gck8 : ¬ ck = 8 := by omega
  have fck12 : (16 : Int) ≤ ck := by omega
  have gck12 : ¬ ck = 12 := by omega
  have fck16 : (20 : Int) ≤ ck := by omega
  have gck16 : ¬ ck = 16 := by omega
  have fck20 : (24 : Int) ≤ ck := by omega
  have gck20 : ¬ ck = 20 := by omega
  have fck24 : (28 : Int) ≤ ck := by omega
  have gck24 : ¬ ck = 24 := by omega
  have fck28 : (32 : Int) ≤ ck := by omega
  have gck28 : ¬ ck = 28 := by omega
  have fcn0 : (4 : Int) ≤ cn := by omega
  have gcn0 : ¬ cn = 0 := by omega
  have fcn4 : (8 : Int) ≤ cn := by omega
  have gcn4 : ¬ cn = 4 := by omega
  have fcn8 : (12 : Int) ≤ cn := by omega
  have gcn8 : ¬ cn = 8 := by omega
  have fcn12 : (16 : Int) ≤ cn := by omega
  have gcn12 : ¬ cn = 12 := by omega
  have fco0 : (4 : Int) ≤ co := by omega
  have gco0 : ¬ co = 0 := by omega
  have fco4 : (8 : Int) ≤ co := by omega
  have gco4 : ¬ co = 4 := by omega
  have fco8 : (12 : Int) ≤ co := by omega
  have gco8 : ¬ co = 8 := by omega
  have fco12 : (16 : Int) ≤ co := by omega
  have gco12 : ¬ co = 12 := by omega
  have fco16 : (20 : Int) ≤ co := by omega
  have gco16 : ¬ co = 16 := by omega
  have fco20 : (24 : Int) ≤ co := by omega
  have gco20 : ¬ co = 20 := by omega
  have fco24 : (28 : Int) ≤ co := by omega
  have gco24 : ¬ co = 24 := by omega
  have fco28 : (32 : Int) ≤ co := by omega
  have gco28 : ¬ co = 28 := by omega
  go_enter Try.func60, Try.ntmps60
  go_wp2_with fail
  refine wp_region_tailD 3 (by kernel_rfl) (by kernel_rfl) ?_
  simp only [List.take_succ_cons, List.take_zero, List.drop_succ_cons, List.drop_zero]
  repeat (quiet_step (fail))
  refine wpQuiet_nil ?_
  rintro _ ⟨m0, rfl⟩
  go_wp2_with fail
  refine (le_Uint32_c bk (_ + 0) 4 _ ((key.drop 0).take 4) _ (by rw [List.length_take, List.length_drop, HK.out]; rfl) (by decide) ((B1.out.keeps (HF0.out.drewN m0) (fun x => x)).sub 0 4)).mono ?_
  rintro e w1 ⟨rfl, hf1⟩
  have HF1 := Lib.hid ((HF0.out.drewN m0).trans hf1)
  clear hf1
  go_wp2_with fail
  refine wp_region_tailD 3 (by kernel_rfl) (by kernel_rfl) ?_
  simp only [List.take_succ_cons, List.take_zero, List.drop_succ_cons, List.drop_zero]
  repeat (quiet_step (fail))
  refine wpQuiet_nil ?_
  rintro _ ⟨m1, rfl⟩
  go_wp2_with fail
  refine (le_Uint32_c bk (_ + 4) 4 _ ((key.drop 4).take 4) _ (by rw [List.length_take, List.length_drop, HK.out]; rfl) (by decide) ((B1.out.keeps (HF1.out.drewN m1) (fun x => x)).sub 4 4)).mono ?_
  rintro e w2 ⟨rfl, hf2⟩
  have HF2 := Lib.hid ((HF1.out.drewN m1).trans hf2)
  clear hf2
  go_wp2_with fail
  refine wp_region_tailD 3 (by kernel_rfl) (by kernel_rfl) ?_
  simp only [List.take_succ_cons, List.take_zero, List.drop_succ_cons, List.drop_zero]
  repeat (quiet_step (fail))
  refine wpQuiet_nil ?_
  rintro _ ⟨m2, rfl⟩
  go_wp2_with fail
  refine (le_Uint32_c bk (_ + 8) 4 _ ((key.drop 8).take 4) _ (by rw [List.length_take, List.length_drop, HK.out]; rfl) (by decide) ((B1.out.keeps (HF2.out.drewN m2) (fun x => x)).sub 8 4)).mono ?_
  rintro e w3 ⟨rfl, hf3⟩
  have HF3 := Lib.hid ((HF2.out.drewN m2).trans hf3)
  clear hf3
  go_wp2_with fail
  refine wp_region_tailD 3 (by kernel_rfl) (by kernel_rfl) ?_
  simp only [List.take_succ_cons, List.take_zero, List.drop_succ_cons, List.drop_zero]
  repeat (quiet_step (fail))
  refine wpQuiet_nil ?_
  rintro _ ⟨m3, rfl⟩
  go_wp2_with fail
  refine (le_Uint32_c bk (_ + 12) 4 _ ((key.drop 12).take 4) _ (by rw [List.length_take, List.length_drop, HK.out]; rfl) (by decide) ((B1.out.keeps (HF3.out.drewN m3) (fun x => x)).sub 12 4)).mono ?_
  rintro e w4 ⟨rfl, hf4⟩
  have HF4 := Lib.hid ((HF3.out.drewN m3).trans hf4)
  clear hf4
  go_wp2_with fail
  refine wp_region_tailD 3 (by kernel_rfl) (by kernel_rfl) ?_
  simp only [List.take_succ_cons, List.take_zero, List.drop_succ_cons, List.drop_zero]
  repeat (quiet_step (fail))
  refine wpQuiet_nil ?_
  rintro _ ⟨m4, rfl⟩
  go_wp2_with fail
  refine (le_Uint32_c bk (_ + 16) 4 _ ((key.drop 16).take 4) _ (by rw [List.length_take, List.length_drop, HK.out]; rfl) (by decide) ((B1.out.keeps (HF4.out.drewN m4) (fun x => x)).sub 16 4)).mono ?_
  rintro e w5 ⟨rfl, hf5⟩
  have HF5 := Lib.hid ((HF4.out.drewN m4).trans hf5)
  clear hf5
  go_wp2_with fail
  refine wp_region_tailD 3 (by kernel_rfl) (by kernel_rfl) ?_
  simp only [List.take_succ_cons, List.take_zero, List.drop_succ_cons, List.drop_zero]
  repeat (quiet_step (fail))
  refine wpQuiet_nil ?_
  rintro _ ⟨m5, rfl⟩
  go_wp2_with fail
  refine (le_Uint32_c bk (_ + 20) 4 _ ((key.drop 20).take 4) _ (by rw [List.length_take, List.length_drop, HK.out]; rfl) (by decide) ((B1.out.keeps (HF5.out.drewN m5) (fun x => x)).sub 20 4)).mono ?_
  rintro e w6 ⟨rfl, hf6⟩
  have HF6 := Lib.hid ((HF5.out.drewN m5).trans hf6)
  clear hf6
  go_wp2_with fail
  refine wp_region_tailD 3 (by kernel_rfl) (by kernel_rfl) ?_
  simp only [List.take_succ_cons, List.take_zero, List.drop_succ_cons, List.drop_zero]
  repeat (quiet_step (fail))
  refine wpQuiet_nil ?_
  rintro _ ⟨m6, rfl⟩
  go_wp2_with fail
  refine (le_Uint32_c bk (_ + 24) 4 _ ((key.drop 24).take 4) _ (by rw [List.length_take, List.length_drop, HK.out]; rfl) (by decide) ((B1.out.keeps (HF6.out.drewN m6) (fun x => x)).sub 24 4)).mono ?_
  rintro e w7 ⟨rfl, hf7⟩
  have HF7 := Lib.hid ((HF6.out.drewN m6).trans hf7)
  clear hf7
  go_wp2_with fail
  refine wp_region_tailD 3 (by kernel_rfl) (by kernel_rfl) ?_
  simp only [List.take_succ_cons, List.take_zero, List.drop_succ_cons, List.drop_zero]
  repeat (quiet_step (fail))
  refine wpQuiet_nil ?_
  rintro _ ⟨m7, rfl⟩
  go_wp2_with fail
  refine (le_Uint32_c bk (_ + 28) 4 _ ((key.drop 28).take 4) _ (by rw [List.length_take, List.length_drop, HK.out]; rfl) (by decide) ((B1.out.keeps (HF7.out.drewN m7) (fun x => x)).sub 28 4)).mono ?_
  rintro e w8 ⟨rfl, hf8⟩
  have HF8 := Lib.hid ((HF7.out.drewN m7).trans hf8)
  clear hf8
  go_wp2_with fail
  refine wp_region_tailD 3 (by kernel_rfl) (by kernel_rfl) ?_
  simp only [List.take_succ_cons, List.take_zero, List.drop_succ_cons, List.drop_zero]
  repeat (quiet_step (fail))
  refine wpQuiet_nil ?_
  rintro _ ⟨m8, rfl⟩
  go_wp2_with fail
  refine (le_Uint32_c bn (_ + 0) 4 _ ((nonce.drop 0).take 4) _ (by rw [List.length_take, List.length_drop, HN.out]; rfl) (by decide) ((B2.out.keeps (HF8.out.drewN m8) (fun x => x)).sub 0 4)).mono ?_
  rintro e w9 ⟨rfl, hf9⟩
  have HF9 := Lib.hid ((HF8.out.drewN m8).trans hf9)
  clear hf9
  go_wp2_with fail
  refine wp_region_tailD 3 (by kernel_rfl) (by kernel_rfl) ?_
  simp only [List.take_succ_cons, List.take_zero, List.drop_succ_cons, List.drop_zero]
  repeat (quiet_step (fail))
  refine wpQuiet_nil ?_
  rintro _ ⟨m9, rfl⟩
  go_wp2_with fail
  refine (le_Uint32_c bn (_ + 4) 4 _ ((nonce.drop 4).take 4) _ (by rw [List.length_take, List.length_drop, HN.out]; rfl) (by decide) ((B2.out.keeps (HF9.out.drewN m9) (fun x => x)).sub 4 4)).mono ?_
  rintro e w10 ⟨rfl, hf10⟩
  have HF10 := Lib.hid ((HF9.out.drewN m9).trans hf10)
  clear hf10
  go_wp2_with fail
  refine wp_region_tailD 3 (by kernel_rfl) (by kernel_rfl) ?_
  simp only [List.take_succ_cons, List.take_zero, List.drop_succ_cons, List.drop_zero]
  repeat (quiet_step (fail))
  refine wpQuiet_nil ?_
  rintro _ ⟨m10, rfl⟩
  go_wp2_with fail
  refine (le_Uint32_c bn (_ + 8) 4 _ ((nonce.drop 8).take 4) _ (by rw [List.length_take, List.length_drop, HN.out]; rfl) (by decide) ((B2.out.keeps (HF10.out.drewN m10) (fun x => x)).sub 8 4)).mono ?_
  rintro e w11 ⟨rfl, hf11⟩
  have HF11 := Lib.hid ((HF10.out.drewN m10).trans hf11)
  clear hf11
  go_wp2_with fail
  refine wp_region_tailD 3 (by kernel_rfl) (by kernel_rfl) ?_
  simp only [List.take_succ_cons, List.take_zero, List.drop_succ_cons, List.drop_zero]
  repeat (quiet_step (fail))
  refine wpQuiet_nil ?_
  rintro _ ⟨m11, rfl⟩
  go_wp2_with fail
  refine (le_Uint32_c bn (_ + 12) 4 _ ((nonce.drop 12).take 4) _ (by rw [List.length_take, List.length_drop, HN.out]; rfl) (by decide) ((B2.out.keeps (HF11.out.drewN m11) (fun x => x)).sub 12 4)).mono ?_
  rintro e w12 ⟨rfl, hf12⟩
  have HF12 := Lib.hid ((HF11.out.drewN m11).trans hf12)
  clear hf12
  go_wp2_with fail
  have hst := start_lit key nonce
  have HST := Lib.hid hst
  clear hst
  go_loop [8, 9, 10, 11, 12, 13, 14, 15, 16, 17, 18, 19, 20, 21, 22, 23, 24] (fun s0 s1 s2 s3 s4 s5 s6 s7 s8 s9 s10 s11 s12 s13 s14 s15 c => HccRel (start key nonce) s0 s1 s2 s3 s4 s5 s6 s7 s8 s9 s10 s11 s12 s13 s14 s15 c) (fun _ _ _ _ _ _ _ _ _ _ _ _ _ _ _ _  c => 10 - (intOf c).toNat)
  case atStart => exact ⟨0, 0x61707865, 0x3320646e, 0x79622d32, 0x6b206574, wd key 0, wd key 4, wd key 8, wd key 12, wd key 16, wd key 20, wd key 24, wd key 28, wd nonce 0, wd nonce 4, wd nonce 8, wd nonce 12, by omega, rfl, rfl, rfl, rfl, rfl, rfl, rfl, rfl, rfl, rfl, rfl, rfl, rfl, rfl, rfl, rfl, rfl, by rw [Cha.iter_zero]; exact HST.out.symm⟩
  case round =>
    obtain ⟨k, x0, x1, x2, x3, x4, x5, x6, x7, x8, x9, x10, x11, x12, x13, x14, x15, hk, rfl, rfl, rfl, rfl, rfl, rfl, rfl, rfl, rfl, rfl, rfl, rfl, rfl, rfl, rfl, rfl, rfl, hx⟩ := hrel
    have HX := Lib.hid hx
    clear hx
    by_cases hlt : k < 10
    · go_wp2_with (go_at_call 79; refine (quarterRound_c _ _ _ _ _).mono ?_; rintro e w' ⟨rfl, rfl⟩)
      go_round
      case rel =>
        refine ⟨k + 1, _, _, _, _, _, _, _, _, _, _, _, _, _, _, _, _, by omega, by go_num, rfl, rfl, rfl, rfl, rfl, rfl, rfl, rfl, rfl, rfl, rfl, rfl, rfl, rfl, rfl, rfl, ?_⟩
        rw [Cha.iter_succ, ← HX.out]
        exact (Cha.dbl_lit x0 x1 x2 x3 x4 x5 x6 x7 x8 x9 x10 x11 x12 x13 x14 x15 _ _ _ _ _ _ _ _  rfl rfl rfl rfl rfl rfl rfl rfl ).symm
      case measure => simp [intOf]; omega
    · have hx' := HX.out
      rw [show k = 10 by omega] at hx'
      have HX' := Lib.hid hx'
      clear hx' HX
      have P0 := Lib.hid (Fresh.at HF12.out HB0.out)
      have hc31 : w12.cell? ⟨bo, 31, none⟩ = some (.int .u8 (u8 (L.getD 31 0))) := by rw [cell_block P0.out]; exact cells8_get (by rw [HL.out]; decide)
      go_wp2_with fail
      refine wp_region_tailD 4 (by kernel_rfl) (by kernel_rfl) ?_
      simp only [List.take_succ_cons, List.take_zero, List.drop_succ_cons, List.drop_zero]
      repeat (quiet_step (fail))
      refine wpQuiet_nil ?_
      rintro _ ⟨p0, rfl⟩
      go_wp2_with fail
      refine (le_PutUint32_c bo 0 4 _ 5 L x0 (w12.drewN p0) (by rw [HL.out]; decide) (by decide) P0.out).mono ?_
      rintro e v1 ⟨rfl, hp1, hkk1⟩
      have P1 := Lib.hid hp1
      have Q1 := Lib.hid (((Keeps.refl (fun q => q = bo) w12).drewN p0).trans hkk1)
      clear hp1 hkk1
      go_wp2_with fail
      refine wp_region_tailD 4 (by kernel_rfl) (by kernel_rfl) ?_
      simp only [List.take_succ_cons, List.take_zero, List.drop_succ_cons, List.drop_zero]
      repeat (quiet_step (fail))
      refine wpQuiet_nil ?_
      rintro _ ⟨p1, rfl⟩
      go_wp2_with fail
      refine (le_PutUint32_c bo 4 4 _ 5 (put4 L 0 x0) x1 (v1.drewN p1) (by simp only [put4_len]; rw [HL.out]; decide) (by decide) P1.out).mono ?_
      rintro e v2 ⟨rfl, hp2, hkk2⟩
      have P2 := Lib.hid hp2
      have Q2 := Lib.hid (((Keeps.refl (fun q => q = bo) v1).drewN p1).trans hkk2)
      clear hp2 hkk2
      go_wp2_with fail
      refine wp_region_tailD 4 (by kernel_rfl) (by kernel_rfl) ?_
      simp only [List.take_succ_cons, List.take_zero, List.drop_succ_cons, List.drop_zero]
      repeat (quiet_step (fail))
      refine wpQuiet_nil ?_
      rintro _ ⟨p2, rfl⟩
      go_wp2_with fail
      refine (le_PutUint32_c bo 8 4 _ 5 (put4 (put4 L 0 x0) 4 x1) x2 (v2.drewN p2) (by simp only [put4_len]; rw [HL.out]; decide) (by decide) P2.out).mono ?_
      rintro e v3 ⟨rfl, hp3, hkk3⟩
      have P3 := Lib.hid hp3
      have Q3 := Lib.hid (((Keeps.refl (fun q => q = bo) v2).drewN p2).trans hkk3)
      clear hp3 hkk3
      go_wp2_with fail
      refine wp_region_tailD 4 (by kernel_rfl) (by kernel_rfl) ?_
      simp only [List.take_succ_cons, List.take_zero, List.drop_succ_cons, List.drop_zero]
      repeat (quiet_step (fail))
      refine wpQuiet_nil ?_
      rintro _ ⟨p3, rfl⟩
      go_wp2_with fail
      refine (le_PutUint32_c bo 12 4 _ 5 (put4 (put4 (put4 L 0 x0) 4 x1) 8 x2) x3 (v3.drewN p3) (by simp only [put4_len]; rw [HL.out]; decide) (by decide) P3.out).mono ?_
      rintro e v4 ⟨rfl, hp4, hkk4⟩
      have P4 := Lib.hid hp4
      have Q4 := Lib.hid (((Keeps.refl (fun q => q = bo) v3).drewN p3).trans hkk4)
      clear hp4 hkk4
      go_wp2_with fail
      refine wp_region_tailD 4 (by kernel_rfl) (by kernel_rfl) ?_
      simp only [List.take_succ_cons, List.take_zero, List.drop_succ_cons, List.drop_zero]
      repeat (quiet_step (fail))
      refine wpQuiet_nil ?_
      rintro _ ⟨p4, rfl⟩
      go_wp2_with fail
      refine (le_PutUint32_c bo 16 4 _ 5 (put4 (put4 (put4 (put4 L 0 x0) 4 x1) 8 x2) 12 x3) x12 (v4.drewN p4) (by simp only [put4_len]; rw [HL.out]; decide) (by decide) P4.out).mono ?_
      rintro e v5 ⟨rfl, hp5, hkk5⟩
      have P5 := Lib.hid hp5
      have Q5 := Lib.hid (((Keeps.refl (fun q => q = bo) v4).drewN p4).trans hkk5)
      clear hp5 hkk5
      go_wp2_with fail
      refine wp_region_tailD 4 (by kernel_rfl) (by kernel_rfl) ?_
      simp only [List.take_succ_cons, List.take_zero, List.drop_succ_cons, List.drop_zero]
      repeat (quiet_step (fail))
      refine wpQuiet_nil ?_
      rintro _ ⟨p5, rfl⟩
      go_wp2_with fail
      refine (le_PutUint32_c bo 20 4 _ 5 (put4 (put4 (put4 (put4 (put4 L 0 x0) 4 x1) 8 x2) 12 x3) 16 x12) x13 (v5.drewN p5) (by simp only [put4_len]; rw [HL.out]; decide) (by decide) P5.out).mono ?_
      rintro e v6 ⟨rfl, hp6, hkk6⟩
      have P6 := Lib.hid hp6
      have Q6 := Lib.hid (((Keeps.refl (fun q => q = bo) v5).drewN p5).trans hkk6)
      clear hp6 hkk6
      go_wp2_with fail
      refine wp_region_tailD 4 (by kernel_rfl) (by kernel_rfl) ?_
      simp only [List.take_succ_cons, List.take_zero, List.drop_succ_cons, List.drop_zero]
      repeat (quiet_step (fail))
      refine wpQuiet_nil ?_
      rintro _ ⟨p6, rfl⟩
      go_wp2_with fail
      refine (le_PutUint32_c bo 24 4 _ 5 (put4 (put4 (put4 (put4 (put4 (put4 L 0 x0) 4 x1) 8 x2) 12 x3) 16 x12) 20 x13) x14 (v6.drewN p6) (by simp only [put4_len]; rw [HL.out]; decide) (by decide) P6.out).mono ?_
      rintro e v7 ⟨rfl, hp7, hkk7⟩
      have P7 := Lib.hid hp7
      have Q7 := Lib.hid (((Keeps.refl (fun q => q = bo) v6).drewN p6).trans hkk7)
      clear hp7 hkk7
      go_wp2_with fail
      refine wp_region_tailD 4 (by kernel_rfl) (by kernel_rfl) ?_
      simp only [List.take_succ_cons, List.take_zero, List.drop_succ_cons, List.drop_zero]
      repeat (quiet_step (fail))
      refine wpQuiet_nil ?_
      rintro _ ⟨p7, rfl⟩
      go_wp2_with fail
      refine (le_PutUint32_c bo 28 4 _ 5 (put4 (put4 (put4 (put4 (put4 (put4 (put4 L 0 x0) 4 x1) 8 x2) 12 x3) 16 x12) 20 x13) 24 x14) x15 (v7.drewN p7) (by simp only [put4_len]; rw [HL.out]; decide) (by decide) P7.out).mono ?_
      rintro e v8 ⟨rfl, hp8, hkk8⟩
      have P8 := Lib.hid hp8
      have Q8 := Lib.hid (((Keeps.refl (fun q => q = bo) v7).drewN p7).trans hkk8)
      clear hp8 hkk8
      go_wp2_with fail
      have KK := (((((((Q1.out.trans Q2.out).trans Q3.out).trans Q4.out).trans Q5.out).trans Q6.out).trans Q7.out).trans Q8.out)
      go_ret2
      refine ⟨rfl, ?_, ?_⟩
      · have h := P8.out
        rw [Cha.rounds_eq, ← HX'.out]
        exact h
      · exact (Fresh.to HF12.out).trans KK
end Go.Proofs.Ytlafnkcmdnfcpaa
