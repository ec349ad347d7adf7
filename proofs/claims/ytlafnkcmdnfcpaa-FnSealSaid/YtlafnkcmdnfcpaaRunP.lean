/-
  Plain: what a cipher answers to steps.
-/
import Derived.Test.YtlafnkcmdnfcpaaCip
import Derived.Test.YtlafnkcmdnfcpaaHash
namespace Go.Proofs.Ytlafnkcmdnfcpaa
open Go Go.RowKit
attribute [local irreducible] Cha.iter Cha.rounds Cha.dbl Cha.qr
/-- a step -/
structure St where
  kind : Int
  counter : UInt32
  src : List UInt8
  room : Int
/-- what a step leaves -/
structure Ou where
  bytes : List UInt8
  failed : Bool
/-- bytes, each with one of others -/
def xs (z : Nat → UInt8) (s : List UInt8) : List UInt8 := (List.range s.length).map fun i => s.getD i 0 ^^^ z i
theorem xs_len (z : Nat → UInt8) (s : List UInt8) : (xs z s).length = s.length := by simp [xs]
theorem xs_get (z : Nat → UInt8) (s : List UInt8) {i : Nat} (h : i < s.length) : (xs z s).getD i 0 = s.getD i 0 ^^^ z i := by
  simp [xs, List.getD, h]
theorem xs_nil (z : Nat → UInt8) : xs z [] = [] := rfl
theorem upd_xs (D s : List UInt8) (z : Nat → UInt8) : upd D s z s.length = xs z s ++ D.drop s.length := rfl
theorem xs_append (z : Nat → UInt8) (s t : List UInt8) : xs z (s ++ t) = xs z s ++ xs (fun i => z (s.length + i)) t := by
  unfold xs
  rw [List.length_append, List.range_add, List.map_append, List.map_map]
  congr 1
  · apply List.map_congr_left
    intro i hi
    rw [List.mem_range] at hi
    simp [List.getD, List.getElem?_append_left hi]
  · apply List.map_congr_left
    intro i _
    have e : (s ++ t).getD (s.length + i) 0 = t.getD i 0 := by
      simp only [List.getD]
      rw [List.getElem?_append_right (by omega), Nat.add_sub_cancel_left]
    show (s ++ t).getD (s.length + i) 0 ^^^ z (s.length + i) = t.getD i 0 ^^^ z (s.length + i)
    rw [e]
theorem xs_congr {z z' : Nat → UInt8} (s : List UInt8) (h : ∀ i, i < s.length → z i = z' i) : xs z s = xs z' s := by
  unfold xs
  apply List.map_congr_left
  intro i hi
  rw [List.mem_range] at hi
  rw [h i hi]
theorem xs_xs (z : Nat → UInt8) (s : List UInt8) : xs z (xs z s) = s := by
  apply List.ext_getElem
  · rw [xs_len, xs_len]
  · intro i h1 h2
    have e := xs_get z (xs z s) (i := i) (by rw [xs_len]; exact h2)
    rw [xs_get z s h2, UInt8.xor_assoc, UInt8.xor_self, UInt8.xor_zero] at e
    simpa [List.getD, h1, h2] using e
/-- n bytes 165 -/
def fillB (n : Nat) : List UInt8 := List.replicate n 165
/-- how many bytes a key stream has -/
def endK : Nat := 274877906944
/-- what a step answers, of a cipher of which a bytes are taken -/
def doA (K : CK) (a : Nat) (s : St) : Ou :=
  if s.kind = 0 then
    (if 0 < s.src.length ∧ s.room < 0 then ⟨[], true⟩
     else if endK < a + s.src.length then ⟨[], true⟩
     else ⟨xs (fun i => K.ks (a + i)) s.src ++ fillB s.room.toNat, false⟩)
  else if s.kind = 1 then
    (if endK < a + s.src.length then ⟨[], true⟩ else ⟨xs (fun i => K.ks (a + i)) s.src, false⟩)
  else if s.kind = 2 then ⟨[], decide (64 * s.counter.toNat < a)⟩
  else ⟨[], false⟩
/-- how many are taken behind a step that does not fail -/
def doN (a : Nat) (s : St) : Nat :=
  if s.kind = 0 then a + s.src.length else if s.kind = 1 then a + s.src.length else if s.kind = 2 then 64 * s.counter.toNat else a
/-- whether sentences tell what a step answers -/
def doT (a : Nat) (s : St) : Bool :=
  if s.kind = 0 then decide ((0 < s.src.length ∧ s.room < 0) ∨ ¬ endK < a + s.src.length)
  else if s.kind = 1 then decide (¬ endK < a + s.src.length)
  else if s.kind = 2 then decide (s.counter.toNat < a / 64 ∨ ¬ 64 * s.counter.toNat < a)
  else true
/-- the answers of steps -/
def run (K : CK) : Nat → List St → List Ou
  | _, [] => []
  | a, s :: ss => doA K a s :: (if (doA K a s).failed then [] else run K (doN a s) ss)
theorem run_nil (K : CK) (a : Nat) : run K a [] = [] := rfl
theorem run_cons (K : CK) (a : Nat) (s : St) (ss : List St) : run K a (s :: ss) = doA K a s :: (if (doA K a s).failed then [] else run K (doN a s) ss) := rfl
/-- what sentences tell of the answers, and whether they tell all -/
def runT (K : CK) : Nat → List St → List Ou × Bool
  | _, [] => ([], true)
  | a, s :: ss => if doT a s then (if (doA K a s).failed then ([doA K a s], true) else (doA K a s :: (runT K (doN a s) ss).1, (runT K (doN a s) ss).2)) else ([], false)
theorem runT_cons (K : CK) (a : Nat) (s : St) (ss : List St) : runT K a (s :: ss) = if doT a s then (if (doA K a s).failed then ([doA K a s], true) else (doA K a s :: (runT K (doN a s) ss).1, (runT K (doN a s) ss).2)) else ([], false) := rfl
/-- all is told: it is the run; else the run goes on with one answer at least -/
theorem runT_run (K : CK) : ∀ (ss : List St) (a : Nat), ((runT K a ss).2 = true → (runT K a ss).1 = run K a ss) ∧ ((runT K a ss).2 = false → ∃ x r, run K a ss = (runT K a ss).1 ++ x :: r) := by
  intro ss
  induction ss with
  | nil => intro a; exact ⟨fun _ => rfl, fun h => by cases h⟩
  | cons s ss ih =>
    intro a
    rw [runT_cons, run_cons]
    by_cases h1 : doT a s = true
    · rw [if_pos h1]
      by_cases h2 : (doA K a s).failed = true
      · rw [if_pos h2, if_pos h2]
        exact ⟨fun _ => rfl, fun h => by cases h⟩
      · rw [if_neg h2, if_neg h2]
        obtain ⟨i1, i2⟩ := ih (doN a s)
        refine ⟨fun h => by simp only; rw [i1 h], fun h => ?_⟩
        obtain ⟨x, r, e⟩ := i2 h
        exact ⟨x, r, by simp only; rw [e, List.cons_append]⟩
    · rw [if_neg h1]
      exact ⟨fun h => (by cases h), fun _ => ⟨_, _, rfl⟩⟩
section
variable (K : CK) (a : Nat) (c : UInt32) (x : List UInt8) (r : Int)
theorem doA_short (h0 : 0 < x.length) (h : r < 0) : doA K a ⟨0, c, x, r⟩ = ⟨[], true⟩ := by
  unfold doA; rw [if_pos rfl, if_pos ⟨h0, h⟩]
theorem doA_over (h : endK < a + x.length) : doA K a ⟨0, c, x, r⟩ = ⟨[], true⟩ := by
  unfold doA; rw [if_pos rfl, if_pos (c := endK < a + _) h]; split <;> rfl
theorem doA_into (h0 : ¬ (0 < x.length ∧ r < 0)) (h : ¬ endK < a + x.length) : doA K a ⟨0, c, x, r⟩ = ⟨xs (fun i => K.ks (a + i)) x ++ fillB r.toNat, false⟩ := by
  unfold doA; rw [if_pos rfl, if_neg h0, if_neg h]
theorem doA_place (h : ¬ endK < a + x.length) : doA K a ⟨1, c, x, r⟩ = ⟨xs (fun i => K.ks (a + i)) x, false⟩ := by
  unfold doA; rw [if_neg (show ¬ (1 : Int) = 0 by decide), if_pos rfl, if_neg h]
theorem doA_placeOver (h : endK < a + x.length) : doA K a ⟨1, c, x, r⟩ = ⟨[], true⟩ := by
  unfold doA; rw [if_neg (show ¬ (1 : Int) = 0 by decide), if_pos rfl, if_pos h]
theorem doA_set : doA K a ⟨2, c, x, r⟩ = ⟨[], decide (64 * c.toNat < a)⟩ := rfl
theorem doA_other (k : Int) (h0 : k ≠ 0) (h1 : k ≠ 1) (h2 : k ≠ 2) : doA K a ⟨k, c, x, r⟩ = ⟨[], false⟩ := by
  unfold doA; rw [if_neg h0, if_neg h1, if_neg h2]
theorem doN_into : doN a ⟨0, c, x, r⟩ = a + x.length := rfl
theorem doN_place : doN a ⟨1, c, x, r⟩ = a + x.length := rfl
theorem doN_set : doN a ⟨2, c, x, r⟩ = 64 * c.toNat := rfl
theorem doN_other (k : Int) (h0 : k ≠ 0) (h1 : k ≠ 1) (h2 : k ≠ 2) : doN a ⟨k, c, x, r⟩ = a := by
  unfold doN; rw [if_neg h0, if_neg h1, if_neg h2]
end
/-- the words of a key of 32 bytes and a nonce of 12 -/
def ck12 (key nonce : List UInt8) : CK := ⟨wd key 0, wd key 4, wd key 8, wd key 12, wd key 16, wd key 20, wd key 24, wd key 28, wd nonce 0, wd nonce 4, wd nonce 8⟩
/-- the words of a key and a nonce of 12 or 24 bytes -/
def ckOf (key nonce : List UInt8) : CK := if nonce.length = 24 then ck12 (hashL key (nonce.take 16)) ([0, 0, 0, 0] ++ nonce.drop 16) else ck12 key nonce
theorem ckOf_12 {key nonce : List UInt8} (h : nonce.length = 12) : ckOf key nonce = ck12 key nonce := by unfold ckOf; rw [if_neg (by omega)]
theorem ckOf_24 {key nonce : List UInt8} (h : nonce.length = 24) : ckOf key nonce = ck12 (hashL key (nonce.take 16)) ([0, 0, 0, 0] ++ nonce.drop 16) := by unfold ckOf; rw [if_pos h]
end Go.Proofs.Ytlafnkcmdnfcpaa
