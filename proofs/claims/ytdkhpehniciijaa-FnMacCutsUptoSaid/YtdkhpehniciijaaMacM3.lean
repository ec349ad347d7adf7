/-
  Contract: MAC.Write on a closed MAC panics.
-/
import Derived.Test.YtdkhpehniciijaaMacM2
import Derived.WalkLawsBesides
namespace Go.Proofs.Ytdkhpehniciijaa
open Go Go.RowKit
theorem MWrite_closed (b : Nat) (key l : List UInt8) (v : Value) (w : World) (hmac : MacK key w b l true) :
    Calls Try.prog 33 #[.pointer (some ⟨b, 0, none⟩), v] w fun e w' =>
      (∃ x : Value, e = .panicked [{ v := .iface 9 x, recovered := false }]) ∧ w' = w := by
  obtain ⟨c24, f24⟩ := Mac.c24 hmac
  clear hmac
  go_enter Try.func33, Try.ntmps33
  go_wp2_with fail
  first
    | exact bodyPost_panic ⟨⟨_, rfl⟩, rfl⟩
    | (simp [bodyPost]; done)
    | (unfold bodyPost; exact ⟨rfl, ⟨_, rfl⟩, rfl⟩)
    | (unfold bodyPost; exact ⟨⟨_, rfl⟩, rfl⟩)
/-- impl.copied -/
theorem copiedM_c (v : Value) (l : List UInt8) (w : World) (hs : SlB w v l) (hl : l.length ≤ 140737488355328) :
    Calls Try.prog 42 #[v] w (RetB 5 w l) := by
  have HV := Lib.hid hs
  clear hs
  go_enter Try.func42, Try.ntmps42
  go_wp2_with (at_builtin; refine wpList_appB rfl (.const (.slice none 0 0)) (.tmp 3) rfl w.heap.size (.slice none 0 0) v [] l rfl rfl (World.ownsRow_nil _ _ _ _) HV.out (by simp; omega) (Nat.le_refl _) ?_; intro v1 w1 hA)
  go_ret
  refine ⟨_, rfl, hA.1, hA.2.1.mono ?_⟩
  intro k hk h
  omega
end Go.Proofs.Ytdkhpehniciijaa
