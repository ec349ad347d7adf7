/-
  Plain: what scripts of steps leave.
-/
import Derived.Test.YtaapglpnofmmlaaRunP
namespace Go.Proofs.Ytaapglpnofmmlaa
attribute [local irreducible] Cha.iter Cha.rounds Cha.dbl Cha.qr
/-- the bytes of answers -/
def outsB (os : List Ou) : List UInt8 := os.flatMap (·.bytes)
/-- none failed -/
def outsOk (os : List Ou) : Bool := os.all (fun o => !o.failed)
theorem outsB_nil : outsB [] = [] := rfl
theorem outsB_cons (o : Ou) (os : List Ou) : outsB (o :: os) = o.bytes ++ outsB os := by simp [outsB]
theorem outsB_append (a b : List Ou) : outsB (a ++ b) = outsB a ++ outsB b := by simp [outsB]
theorem outsOk_append (a b : List Ou) : outsOk (a ++ b) = (outsOk a && outsOk b) := by simp [outsOk]
theorem outsOk_nil : outsOk [] = true := rfl
theorem outsOk_cons (o : Ou) (os : List Ou) : outsOk (o :: os) = (!o.failed && outsOk os) := by simp [outsOk]
/-- steps -/
def atS (c : UInt32) : St := ⟨2, c, [], 0⟩
def intoS (s : List UInt8) : St := ⟨0, 0, s, 0⟩
def placeS (s : List UInt8) : St := ⟨1, 0, s, 0⟩
theorem run_at (K : CK) (a : Nat) (c : UInt32) (ss : List St) (h : a ≤ 64 * c.toNat) : run K a (atS c :: ss) = ⟨[], false⟩ :: run K (64 * c.toNat) ss := by
  have e : doA K a (atS c) = ⟨[], false⟩ := by
    unfold atS; rw [doA_set, decide_eq_false (by omega)]
  rw [run_cons, e]
  rfl
theorem run_into (K : CK) (a : Nat) (s : List UInt8) (ss : List St) (h : a + s.length ≤ endK) : run K a (intoS s :: ss) = ⟨xs (fun i => K.ks (a + i)) s, false⟩ :: run K (a + s.length) ss := by
  have e : doA K a (intoS s) = ⟨xs (fun i => K.ks (a + i)) s, false⟩ := by
    unfold intoS; rw [doA_into _ _ _ _ _ (by omega) (by omega)]; simp [fillB]
  rw [run_cons, e]
  rfl
theorem run_room (K : CK) (a : Nat) (s : List UInt8) (r : Int) (ss : List St) (hr : 0 ≤ r) (h : a + s.length ≤ endK) : run K a (⟨0, 0, s, r⟩ :: ss) = ⟨xs (fun i => K.ks (a + i)) s ++ fillB r.toNat, false⟩ :: run K (a + s.length) ss := by
  have e : doA K a ⟨0, 0, s, r⟩ = ⟨xs (fun i => K.ks (a + i)) s ++ fillB r.toNat, false⟩ := by
    rw [doA_into _ _ _ _ _ (by omega) (by omega)]
  rw [run_cons, e]
  rfl
theorem run_place (K : CK) (a : Nat) (s : List UInt8) (ss : List St) (h : a + s.length ≤ endK) : run K a (placeS s :: ss) = ⟨xs (fun i => K.ks (a + i)) s, false⟩ :: run K (a + s.length) ss := by
  have e : doA K a (placeS s) = ⟨xs (fun i => K.ks (a + i)) s, false⟩ := by
    unfold placeS; rw [doA_place _ _ _ _ _ (by omega)]
  rw [run_cons, e]
  rfl
theorem run_back (K : CK) (a : Nat) (c : UInt32) (ss : List St) (h : 64 * c.toNat < a) : run K a (atS c :: ss) = [⟨[], true⟩] := by
  have e : doA K a (atS c) = ⟨[], true⟩ := by
    unfold atS; rw [doA_set, decide_eq_true h]
  rw [run_cons, e]
  rfl
theorem run_short (K : CK) (a : Nat) (s : List UInt8) (r : Int) (ss : List St) (h0 : 0 < s.length) (hr : r < 0) : run K a (⟨0, 0, s, r⟩ :: ss) = [⟨[], true⟩] := by
  rw [run_cons, doA_short _ _ _ _ _ h0 hr]
  rfl
theorem endK_counter (c : UInt32) : 64 * c.toNat ≤ endK := by
  have := c.toNat_lt
  unfold endK
  omega
/-- bytes in pieces -/
theorem run_pieces (K : CK) : ∀ (ps : List (List UInt8)) (a : Nat), a + ps.flatten.length ≤ endK →
    outsB (run K a (ps.map intoS)) = xs (fun i => K.ks (a + i)) ps.flatten ∧ outsOk (run K a (ps.map intoS)) = true ∧ (run K a (ps.map intoS)).length = ps.length := by
  intro ps
  induction ps with
  | nil => intro a _; exact ⟨rfl, rfl, rfl⟩
  | cons p ps ih =>
    intro a h
    simp only [List.flatten_cons, List.length_append] at h
    obtain ⟨i1, i2, i3⟩ := ih (a + p.length) (by omega)
    rw [List.map_cons, run_into _ _ _ _ (by omega), outsB_cons, outsOk_cons, i1, i2, List.length_cons, i3, List.flatten_cons, xs_append]
    refine ⟨?_, rfl, rfl⟩
    congr 1
    apply xs_congr
    intro i _
    rw [Nat.add_assoc]
/-- what the scripts 'set the counter, take bytes' leave -/
theorem ran_one (K : CK) (c : UInt32) (s : List UInt8) (h : 64 * c.toNat + s.length ≤ endK) : run K 0 [atS c, intoS s] = [⟨[], false⟩, ⟨xs (fun i => K.ks (64 * c.toNat + i)) s, false⟩] := by
  rw [run_at _ _ _ _ (Nat.zero_le _), run_into _ _ _ _ h, run_nil]
theorem xs_take (z : Nat → UInt8) (s : List UInt8) (k : Nat) (h : k ≤ s.length) : (xs z s).take k = xs z (s.take k) := by
  have e := xs_append z (s.take k) (s.drop k)
  rw [List.take_append_drop] at e
  rw [e, List.take_left' (by rw [xs_len, List.length_take]; omega)]
theorem xs_drop (z : Nat → UInt8) (s : List UInt8) (k : Nat) (h : k ≤ s.length) : (xs z s).drop k = xs (fun i => z (k + i)) (s.drop k) := by
  have e := xs_append z (s.take k) (s.drop k)
  rw [List.take_append_drop] at e
  rw [e, List.drop_left' (by rw [xs_len, List.length_take]; omega), List.length_take, Nat.min_eq_left h]
end Go.Proofs.Ytaapglpnofmmlaa
