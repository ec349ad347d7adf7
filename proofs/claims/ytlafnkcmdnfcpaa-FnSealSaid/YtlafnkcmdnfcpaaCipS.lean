/-
  The state of a cipher of which bytes are taken; contracts: SetCounter, impl.filled.
-/
import Derived.Test.YtlafnkcmdnfcpaaCipM
import Derived.Test.YtlafnkcmdnfcpaaRunP
import Derived.Test.YtlafnkcmdnfcpaaApp
namespace Go.Proofs.Ytlafnkcmdnfcpaa
open Go Go.RowKit
attribute [local irreducible] Cha.iter Cha.rounds Cha.dbl Cha.qr
/-- a cipher in block b of which a bytes are taken: its parts -/
structure CipP (K : CK) (a : Nat) (c : UInt32) (buf : List UInt8) (len : Nat) (ovf pre : Bool) (p : List UInt32) (q : Nat) : Prop where
  bufl : buf.length = 64
  pl : p.length = 12
  pp : pre = true → p = K.pre
  lt : len < 64
  at' : a + len = 64 * q
  qle : q ≤ 4294967296
  ceq : c = UInt32.ofNat q
  ovfeq : ovf = decide (q = 4294967296)
  ks : ∀ i, i < len → buf.getD (64 - len + i) 0 = K.ks (a + i)
/-- a cipher in block b of which a bytes are taken -/
def CipS (K : CK) (w : World) (b a : Nat) : Prop := ∃ c buf len ovf pre p q, CipB w b K c buf len ovf pre p ∧ CipP K a c buf len ovf pre p q
theorem CipS.keeps {K : CK} {S : Nat → Prop} {w w' : World} {b a : Nat} (h : CipS K w b a) (hk : Keeps S w w') (hs : ¬ S b) : CipS K w' b a := by
  obtain ⟨c, buf, len, ovf, pre, p, q, h1, h2⟩ := h
  exact ⟨c, buf, len, ovf, pre, p, q, h1.keeps hk hs, h2⟩
theorem CipS.lt {K : CK} {w : World} {b a : Nat} (h : CipS K w b a) : b < w.heap.size := by
  obtain ⟨c, buf, len, ovf, pre, p, q, h1, h2⟩ := h
  exact h1.lt
theorem CipS.le {K : CK} {w : World} {b a : Nat} (h : CipS K w b a) : a ≤ endK := by
  obtain ⟨c, buf, len, ovf, pre, p, q, h1, h2⟩ := h
  have := h2.at'
  have := h2.qle
  unfold endK
  omega
theorem u32_ofNat {q : Nat} (h : q < 4294967296) : (UInt32.ofNat q).toNat = q := by
  rw [UInt32.toNat_ofNat']; omega
theorem u32_q {q : Nat} (h : q < 4294967296) : u32 (UInt32.ofNat q) = (q : Int) := by unfold u32; rw [u32_ofNat h]
theorem wrap_u32_self (x : UInt32) : IntKind.u32.wrap (u32 x) = u32 x := by
  have := u32_nonneg x; have := u32_lt x; rw [IntKind.wrap_u32]; omega
set_option maxRecDepth 100000 in
/-- SetCounter to what is ahead -/
theorem SetCounter_good (K : CK) (b a : Nat) (x : UInt32) (w : World) (h : CipS K w b a) (hx : ¬ 64 * x.toNat < a) :
    Calls Try.prog 54 #[.pointer (some ⟨b, 0, none⟩), .int .u32 (u32 x)] w fun e w' => e = .returned (.tuple #[]) ∧ CipS K w' b (64 * x.toNat) ∧ Keeps (fun q => q = b) w w' := by
  obtain ⟨c, buf, len, ovf, pre, p, q, h1, h2⟩ := h
  have hat := h2.at'
  have hlen := h2.lt
  have hxl := x.toNat_lt
  have hq : q < 4294967296 := by omega
  have hov : ovf = false := by rw [h2.ovfeq]; exact decide_eq_false (by omega)
  subst hov
  have hcq : u32 c = (q : Int) := by rw [h2.ceq]; exact u32_q hq
  have hxq : ¬ u32 x < u32 c := by rw [hcq]; unfold u32; omega
  have c8 : w.cell? ⟨b, 8, none⟩ = some (.int .u32 (u32 c)) := by rw [h1.cell]; rfl
  have c76 : w.cell? ⟨b, 76, none⟩ = some (.int .i64 (len : Int)) := by rw [h1.cell, crow_76 h2.bufl]
  have c77 : w.cell? ⟨b, 77, none⟩ = some (.bool false) := by rw [h1.cell, crow_77 h2.bufl]
  have f8 := h1.free 8
  have f76 := h1.free 76
  have e1 : IntKind.u32.wrap (len : Int) = (len : Int) := by rw [IntKind.wrap_u32]; omega
  have e2 : (len : Int).tdiv 64 = 0 := by rw [Int.tdiv_eq_ediv_of_nonneg (by omega)]; omega
  have e3 := wrap_u32_self c
  have H1 := Lib.hid h1
  have H2 := Lib.hid h2
  clear h1 h2 hat hcq hq hx hxl
  go_enter Try.func54, Try.ntmps54
  go_wp2_with fail
  go_quiet (fail)
  go_wp2_with fail
  go_end0
  have K1 := ((Keeps.refl (fun q => q = b) w).own (i := 8) (.int .u32 (u32 x))).own (i := 76) (.int .i64 0)
  have C1 := (H1.out.set8 x).set76 H2.out.bufl 0
  have hxl := x.toNat_lt
  refine ⟨rfl, ⟨x, buf, 0, false, pre, p, x.toNat, C1, ⟨H2.out.bufl, H2.out.pl, H2.out.pp, by decide, by omega, by omega, by simp, (decide_eq_false (by omega)).symm, fun i hi => by omega⟩⟩, K1.drewN _⟩
/-- a panic of the package's own -/
def PanicS (e : Ending) : Prop := ∃ x : Value, e = .panicked [{ v := .iface 9 x, recovered := false }]
set_option maxRecDepth 100000 in
/-- SetCounter to what is behind -/
theorem SetCounter_bad (K : CK) (b a : Nat) (x : UInt32) (w : World) (h : CipS K w b a) (hx : 64 * x.toNat < a) :
    Calls Try.prog 54 #[.pointer (some ⟨b, 0, none⟩), .int .u32 (u32 x)] w fun e w' => PanicS e ∧ Keeps (fun q => q = b) w w' := by
  obtain ⟨c, buf, len, ovf, pre, p, q, h1, h2⟩ := h
  have hat := h2.at'
  have hlen := h2.lt
  have hq2 := h2.qle
  have c8 : w.cell? ⟨b, 8, none⟩ = some (.int .u32 (u32 c)) := by rw [h1.cell]; rfl
  have c76 : w.cell? ⟨b, 76, none⟩ = some (.int .i64 (len : Int)) := by rw [h1.cell, crow_76 h2.bufl]
  have c77 : w.cell? ⟨b, 77, none⟩ = some (.bool ovf) := by rw [h1.cell, crow_77 h2.bufl]
  have e1 : IntKind.u32.wrap (len : Int) = (len : Int) := by rw [IntKind.wrap_u32]; omega
  have e2 : (len : Int).tdiv 64 = 0 := by rw [Int.tdiv_eq_ediv_of_nonneg (by omega)]; omega
  have e3 := wrap_u32_self c
  have hov := h2.ovfeq
  have hcc := h2.ceq
  have H1 := Lib.hid h1
  clear h1 h2
  by_cases hq : q = 4294967296
  · rw [decide_eq_true hq] at hov
    subst hov
    clear hat hq hq2 hcc hx hlen
    go_enter Try.func54, Try.ntmps54
    go_wp2_with fail
    go_quiet (fail)
    go_wp2_with fail
    unfold bodyPost
    exact ⟨rfl, ⟨_, rfl⟩, (Keeps.refl _ w).drewN _⟩
  · rw [decide_eq_false hq] at hov
    subst hov
    have hcq : u32 c = (q : Int) := by rw [hcc]; exact u32_q (by omega)
    have hxq : u32 x < u32 c := by rw [hcq]; unfold u32; omega
    clear hat hq hq2 hcc hx hlen hcq
    go_enter Try.func54, Try.ntmps54
    go_wp2_with fail
    go_quiet (fail)
    go_wp2_with fail
    unfold bodyPost
    exact ⟨rfl, ⟨_, rfl⟩, (Keeps.refl _ w).drewN _⟩
end Go.Proofs.Ytlafnkcmdnfcpaa
