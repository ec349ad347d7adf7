/-
  Contracts: chacha20.HChaCha20, impl.copied, impl.Derive.
-/
import Derived.Test.YtlafnkcmdnfcpaaHcc
namespace Go.Proofs.Ytlafnkcmdnfcpaa
open Go Go.RowKit
attribute [local irreducible] Cha.iter Cha.rounds Cha.dbl Cha.qr
theorem copied_c (v : Value) (l : List UInt8) (w : World) (hv : SlB w v l) (hlen : l.length ≤ 140737488353280) : Calls Try.prog 33 #[v] w (RetB 5 w l) := by
  have HV := Lib.hid hv
  clear hv
  go_enter Try.func33, Try.ntmps33
  go_wp2_with (at_builtin; refine wpList_appB rfl (.const (.slice none 0 0)) (.tmp 3) rfl w.heap.size (.slice none 0 0) v [] l rfl rfl (World.ownsRow_nil _ _ _ _) HV.out (by simp; omega) (Nat.le_refl _) ?_; intro v1 w1 hA)
  go_ret
  exact ⟨_, rfl, hA.1, hA.2.1.mono (fun k hk hq => by omega)⟩
theorem hccPut_eq (R : List UInt32) (h : R.length = 16) : hccPut (List.replicate 32 0) R = bytesL (R.take 4) ++ bytesL (R.drop 12) := by
  match R, h with
  | [x0, x1, x2, x3, x4, x5, x6, x7, x8, x9, x10, x11, x12, x13, x14, x15], _ => simp [hccPut, put4, bytesL, Byt.bytes32, List.replicate]
theorem OwnB.slice {T : TypeId} {w : World} {base : Nat} {v : Value} {l : List UInt8} (h : OwnB T w base v l) : ∃ a c, v = .slice a l.length c := by
  rcases h.2 with ⟨hv, h0⟩ | ⟨g, cap, cur, hv, _⟩
  · exact ⟨none, 0, by rw [hv, h0]⟩
  · exact ⟨_, cap, hv⟩
def RetPairB (w : World) (l : List UInt8) (e : Ending) (w' : World) : Prop := ∃ v, e = .returned (.tuple #[v, .nilIface]) ∧ OwnB 5 w' w.heap.size v l ∧ Fresh w w'
theorem make32 (w : World) : (Instr.makeSlice 24 (.int .i64 32) (.int .i64 32)).run Try.prog w = .ok (.slice (some ⟨w.heap.size, 0, none⟩) 32 32) (w.alloc (.cells (cells8 (List.replicate 32 0)) 5)) := by kernel_rfl
theorem HCC_bad (a a2 : Option Addr) (n c n2 c2 : Nat) (w : World) (h : ¬ n = 32 ∨ ¬ n2 = 16) : Calls Try.prog 38 #[.slice a n c, .slice a2 n2 c2] w (RetNoBytes w) := by
  have hmk := make32
  have hx : ∀ (x : Value) (W : World), Calls Try.prog 60 #[x, .slice a n c, .slice a2 n2 c2] W (RetNoBytes W) := by
    intro x W
    by_cases hn : n = 32
    · subst hn
      exact hcc_badnonce x a a2 c n2 c2 W (by rw [bne_iff_ne]; omega)
    · exact hcc_badkey x (.slice a2 n2 c2) a n c W (by rw [bne_iff_ne]; omega)
  have HX := Lib.hid hx
  clear hx h
  go_enter Try.func38, Try.ntmps38
  go_wp2_with fail
  refine (HX.out _ _).mono ?_
  rintro e w1 ⟨x, rfl, hf⟩
  go_wp2
  go_ret2
  exact ⟨x, rfl, ((Keeps.refl _ w).alloc _).trans hf⟩
theorem HCC_good (bk ok ck bn on cn : Nat) (key nonce : List UInt8) (w : World) (hk : key.length = 32) (hn : nonce.length = 16)
    (h1 : BytesAt w bk ok key) (h2 : BytesAt w bn on nonce) (hck : (32 : Int) ≤ ck) (hcn : (16 : Int) ≤ cn) :
    Calls Try.prog 38 #[.slice (some ⟨bk, ok, none⟩) 32 ck, .slice (some ⟨bn, on, none⟩) 16 cn] w (RetPairB w (hashL key nonce)) := by
  have hmk := make32
  have K0 := (Keeps.refl (fun _ => False) w).alloc (.cells (cells8 (List.replicate 32 0)) 5)
  have HX := Lib.hid (hcc_good w.heap.size 32 bk ok ck bn on cn (List.replicate 32 0) key nonce (w.alloc (.cells (cells8 (List.replicate 32 0)) 5)) (by simp) hk hn (heap_alloc_new w _) (h1.keeps K0 (fun x => x)) (h2.keeps K0 (fun x => x)) hck hcn (by decide))
  have HK0 := Lib.hid K0
  clear K0 h1 h2
  go_enter Try.func38, Try.ntmps38
  go_wp2_with fail
  refine HX.out.mono ?_
  rintro e w1 ⟨rfl, hb, hf⟩
  have HB := Lib.hid hb
  have HF := Lib.hid hf
  clear hb hf
  go_wp2
  go_ret2
  have hlen : (hashL key nonce).length = 32 := by unfold hashL; rw [List.length_append, bytesL_len, bytesL_len, List.length_take, List.length_drop, rounds_len, start_len]; rfl
  have hb := HB.out
  rw [hccPut_eq _ (by rw [rounds_len, start_len])] at hb
  refine ⟨_, rfl, ?_, Fresh.then HK0.out HF.out (by intro q hq; omega)⟩
  refine ⟨by rw [vals8_len, Nat.mul_one], Or.inr ⟨w.heap.size, 32, _, by rw [hlen]; rfl, Nat.le_refl _, hb, by rw [hlen]; exact Nat.le_refl _, by decide, ?_, ?_⟩⟩
  · rw [cells8_size]; exact hlen
  · rw [hlen]
    show List.take 32 (cells8 (hashL key nonce)).toList = _
    rw [List.take_of_length_le (by rw [Array.length_toList, cells8_size, hlen]; exact Nat.le_refl _)]
    simp [cells8, vals8]
end Go.Proofs.Ytlafnkcmdnfcpaa
