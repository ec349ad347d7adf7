/-
  Contract: spec.Stream, whatever nonce; laws.at of a number that is written out.
-/
import Derived.Test.YtaapglpnofmmlaaStream2
import Derived.Test.YtaapglpnofmmlaaMakeN
namespace Go.Proofs.Ytaapglpnofmmlaa
open Go Go.RowKit
attribute [local irreducible] Cha.iter Cha.rounds Cha.dbl Cha.qr ckOf run doA doN CK.ks blkB
theorem stream_c (bk ok ck : Nat) (vn : Value) (f n : Nat) (A : Int) (hA : A = (f : Int)) (key nonce : List UInt8) (w : World) (hk : key.length = 32) (hn : nonce.length = 12 ∨ nonce.length = 24) (h1 : BytesAt w bk ok key) (h2 : SlB w vn nonce) (hf : f + n ≤ endK) :
    Calls Try.prog 25 #[.slice (some ⟨bk, ok, none⟩) 32 ck, vn, .int .i64 A, .int .i64 (n : Int)] w (RetB 5 w (ksL (ckOf key nonce) f n)) := by
  subst hA
  rcases hn with hn | hn
  · obtain ⟨pn, cn, rfl⟩ := h2.slice
    rw [hn] at h2 ⊢
    exact stream_12 bk ok ck pn cn f n key nonce w hk hn h1 h2 hf
  · obtain ⟨b, o, c, rfl, -⟩ := h2.form (by omega)
    rw [hn] at h2 ⊢
    exact stream_24 bk ok ck b o c f n key nonce w hk hn h1 h2 hf
theorem BytesAt.of_block {w : World} {b : Nat} {T : TypeId} {l : List UInt8} (h : w.heap[b]? = some (.cells (cells8 l) T (0, 0))) : BytesAt w b 0 l := fun i hi => by
  rw [cell_block h, Nat.zero_add]; exact cells8_get hi
theorem at_lit (c : UInt32) (A : Int) (hA : A = u32 c) (w : World) : Calls Try.prog 20 #[.int .u32 A] w fun e w' => e = .returned (stV (.slice none 0 0) (atS c)) ∧ Fresh w w' := by
  subst hA
  exact at_c c w
end Go.Proofs.Ytaapglpnofmmlaa
