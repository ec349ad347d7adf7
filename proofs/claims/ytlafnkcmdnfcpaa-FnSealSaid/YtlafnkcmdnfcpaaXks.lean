/-
  Contract: XORKeyStream.
-/
import Derived.Test.YtlafnkcmdnfcpaaXksD
import Derived.BigQuiet
import Derived.Deep.QuietTactic
import Derived.Deep.CutRange
namespace Go.Proofs.Ytlafnkcmdnfcpaa
open Go Go.RowKit
set_option linter.unusedVariables false
attribute [local irreducible] Cha.iter Cha.rounds Cha.dbl Cha.qr tailBuf

set_option maxRecDepth 1000000 in
/-- no bytes -/
theorem XKS_none (b : Nat) (v : Value) (p : Option Addr) (c : Nat) (w : World) :
    Calls Try.prog 53 #[.pointer (some ⟨b, 0, none⟩), v, .slice p 0 c] w fun e w' => e = .returned (.tuple #[]) ∧ w' = w := by
  go_enter Try.func53, Try.ntmps53
  go_wp2_with fail
  exact ⟨rfl, _, results_none rfl _ _ _, rfl, rfl⟩
set_option maxRecDepth 1000000 in
/-- too little room -/
theorem XKS_short (b : Nat) (p1 p2 : Option Addr) (n1 c1 n2 c2 : Nat) (w : World) (h : n1 < n2) :
    Calls Try.prog 53 #[.pointer (some ⟨b, 0, none⟩), .slice p1 n1 c1, .slice p2 n2 c2] w fun e w' => PanicS e ∧ w' = w := by
  have h0 : ¬ n2 = 0 := by omega
  have h1 : (n1 : Int) < n2 := by omega
  go_enter Try.func53, Try.ntmps53
  go_wp2_with fail
  unfold bodyPost
  exact ⟨rfl, ⟨_, rfl⟩, rfl⟩
set_option maxRecDepth 1000000 in
set_option maxHeartbeats 40000000 in
theorem XKS_c (K : CK) (b bd od bs os n n1 cd cs a : Nat) (hd tl : List Value) (D s : List UInt8) (w : World)
    (hc : CipS K w b a) (hne : b ≠ bd) (hnb : bs ≠ b) (hD : DstB w bd hd tl D) (hod : od = hd.length) (hDl : D.length = n1) (hsl : s.length = n) (hn1 : n ≤ n1) (hS : SrcR w bd od bs os (D.take n) s) (hcd : n1 ≤ cd) (hcs : n ≤ cs) (hcm : cs ≤ maxLen) (h0 : 0 < n) (hn : n ≤ 140737488355328) :
    Calls Try.prog 53 #[.pointer (some ⟨b, 0, none⟩), .slice (some ⟨bd, od, none⟩) n1 cd, .slice (some ⟨bs, os, none⟩) n cs] w fun e w' =>
      Keeps (fun k => k = b ∨ k = bd) w w' ∧ if endK < a + n then PanicS e else e = .returned (.tuple #[]) ∧ DstB w' bd hd tl (xs (fun i => K.ks (a + i)) s ++ D.drop n) ∧ CipS K w' b (a + n) := by
  have h00 : ¬ n = 0 := by omega
  have h1 : ¬ (n1 : Int) < n := by omega
  have h2 : (n : Int) ≤ cd := by omega
  have h3 : (0 : Int) ≤ n := by omega
  have hcd' : n ≤ cd := by omega
  have HC := Lib.hid hc
  have HNE := Lib.hid hne
  have HNB := Lib.hid hnb
  have HD := Lib.hid hD
  have HOD := Lib.hid hod
  have HDL := Lib.hid hDl
  have HSL := Lib.hid hsl
  have HS := Lib.hid hS
  have HCM := Lib.hid hcm
  have HN := Lib.hid hn
  have HN1 := Lib.hid hn1
  clear hc hne hnb hD hod hDl hsl hS hcm hn hn1 hcd
  go_enter Try.func53, Try.ntmps53
  refine wp_seq_hold (fun K1 HK1 => ?_)
  go_wp2_with fail
  refine HK1.out _ _ ?_
  clear HK1
  refine wp_seq_hold (fun K2 HK2 => ?_)
  go_wp2_with fail
  refine HK2.out _ _ ?_
  clear HK2
  refine wp_seq_hold (fun K3 HK3 => ?_)
  go_wp2_with fail
  refine HK3.out _ _ ?_
  clear HK3
  refine xks3_c _ K b bd od bs os n cd cs a hd (vals8 (D.drop n) ++ tl) (D.take n) s _ _ _ _ _ _ _ _ _ _ _ _ _ _ _ _ _ _ _ _ _ _ _ _ _ _ _ _ _ _ _ _ _ _ _ _ _ _ _ _ _ _ _ _ _ _ _ _ _ _ _ _ _ _ _ _ _ _ _ _ _ _ _ _ _ _ _ _ _ _ _ _ _ _ _ _ _ _ _ _ _ _ _ _ _ _ _ _ _ _ _ _ _ _ _ _ _ _ _ _ _ _ _ _ _ _ _ _ _ _ _ _ _ _ _ _ _ _ _ _ _ _ _ _ _ _ _ _ _ _ _ _ _ _ _ _ _ _ _ _ _ _ _ _ _ _ _ _ _ _ _ _ _ _ _ _ _ _ _ _ _ _ _ _ _ _ _ _ _ _ _ _ _ _ _ _ _ _ _ _ _ _ _ _ _ _ _ _ _ _ _ _ _ _ _ _ _ _ _ _ _ _ _ _ _ _ _ _ _ _ _ _ _ _ _ _ HC.out HNE.out HNB.out (HD.out.front n) HOD.out (by rw [List.length_take, HDL.out]; have := HN1.out; omega) HSL.out HS.out hcd' hcs HCM.out h0 HN.out ?_ ?_
  · intro he a' w' ha hx
    have hfin : Keeps (fun k => k = b ∨ k = bd) w w' ∧ if endK < a + n then PanicS (.returned (.tuple #[])) else Ending.returned (.tuple #[]) = .returned (.tuple #[]) ∧ DstB w' bd hd tl (xs (fun i => K.ks (a + i)) s ++ D.drop n) ∧ CipS K w' b (a + n) := by
      refine ⟨hx.2.2, ?_⟩
      rw [if_neg he]
      have h1 := hx.2.1
      rw [HSL.out] at h1
      refine ⟨rfl, ?_, h1⟩
      have h2 := hx.1
      unfold DstB at h2 ⊢
      rw [h2, vals8_append, List.append_assoc]
    exact ⟨⟨ha, _, results_none rfl _ _ _, hfin⟩, ⟨ha, _, results_none rfl _ _ _, hfin⟩⟩
  · intro he a' x w' ha hk
    have hfin : Keeps (fun k => k = b ∨ k = bd) w w' ∧ if endK < a + n then PanicS (.panicked [{ v := .iface 9 x, recovered := false }]) else Ending.panicked [{ v := .iface 9 x, recovered := false }] = .returned (.tuple #[]) ∧ DstB w' bd hd tl (xs (fun i => K.ks (a + i)) s ++ D.drop n) ∧ CipS K w' b (a + n) := by
      refine ⟨hk, ?_⟩
      rw [if_pos he]
      exact ⟨_, rfl⟩
    exact ⟨ha, hfin⟩
end Go.Proofs.Ytlafnkcmdnfcpaa
