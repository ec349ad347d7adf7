/-
  Contracts: crypto/subtle.ConstantTimeCompare, poly1305.Verify, impl.Check.
-/
import Derived.Test.YtdkhpehniciijaaArrEq
import Derived.Test.YtdkhpehniciijaaLimb
import Derived.BigQuiet
import Derived.Deep.QuietTactic
namespace Go.Proofs.Ytdkhpehniciijaa
open Go Go.RowKit
/-- the model's entry for boolToUint8 -/
def b2uE : Array Value → Sem Value := fun
  | #[.bool b] => pure (.int .u8 (if b then 1 else 0))
  | _ => stuck "boolToUint8: a bool expected"
theorem call_b2u (b : Bool) (w : World) : (callFunc 59 #[.bool b]).run Try.prog w = .ok (.value (.int .u8 (if b then 1 else 0))) w := by
  rw [run_callFunc_extern Try.func59 (by kernel_rfl) (by kernel_rfl) (by kernel_rfl) (e := b2uE) (by kernel_rfl)]
  rfl
/-- 1 for nought -/
def z01 (x : UInt8) : Int := if x = 0 then 1 else 0
/-- 1 for the same bytes -/
def eqI (a b : List UInt8) : Int := if a = b then 1 else 0
theorem z01_zero : z01 0 = 1 := rfl
theorem z01_pos {x : UInt8} (h : ¬ x = 0) : z01 x = 0 := if_neg h
theorem eqI_pos {a b : List UInt8} (h : a = b) : eqI a b = 1 := if_pos h
theorem eqI_neg {a b : List UInt8} (h : ¬ a = b) : eqI a b = 0 := if_neg h
theorem ByteEq_c (x : UInt8) (w : World) : Calls Try.prog 51 #[.int .u8 (u8 x), .int .u8 0] w fun e w' => e = .returned (.int .i64 (z01 x)) ∧ w' = w := by
  by_cases h : x = 0
  · subst h
    rw [z01_zero]
    go_enter Try.func51, Try.ntmps51
    go_wp2_with (rw [call_b2u])
    go_ret
    exact ⟨rfl, rfl⟩
  · have hb : (u8 x == 0) = false := by
      have := u8_beq x 0
      rw [show u8 0 = 0 from rfl, beq_eq_false_iff_ne.2 h] at this
      exact this
    rw [z01_pos h]
    go_enter Try.func51, Try.ntmps51
    go_wp2_with (rw [call_b2u])
    go_ret
    exact ⟨rfl, rfl⟩
/-- how two lists differ, all in one byte -/
def diffK (a b : List UInt8) : Nat → UInt8
  | 0 => 0
  | k + 1 => diffK a b k ||| (a.getD k 0 ^^^ b.getD k 0)
theorem diffK_succ (a b : List UInt8) (k : Nat) : diffK a b (k + 1) = diffK a b k ||| (a.getD k 0 ^^^ b.getD k 0) := rfl
theorem diffK_nil (a b : List UInt8) : diffK a b 0 = 0 := rfl
theorem or_zero8 (x y : UInt8) : x ||| y = 0 ↔ x = 0 ∧ y = 0 := by
  constructor
  · intro h
    have h' : x.toNat ||| y.toNat = 0 := by rw [← UInt8.toNat_or, h]; rfl
    have := Nat.or_eq_zero_iff.1 h'
    exact ⟨UInt8.toNat_inj.1 this.1, UInt8.toNat_inj.1 this.2⟩
  · rintro ⟨rfl, rfl⟩; rfl
theorem xor_zero8 (x y : UInt8) : x ^^^ y = 0 ↔ x = y := by
  constructor
  · intro h
    have h' : x ^^^ y ^^^ y = 0 ^^^ y := by rw [h]
    rw [UInt8.xor_assoc, UInt8.xor_self, UInt8.xor_zero, UInt8.zero_xor] at h'
    exact h'
  · rintro rfl; simp
theorem diffK_zero (a b : List UInt8) : ∀ k, diffK a b k = 0 ↔ ∀ i, i < k → a.getD i 0 = b.getD i 0 := by
  intro k
  induction k with
  | zero => simp [diffK]
  | succ k ih =>
    unfold diffK
    rw [or_zero8, ih, xor_zero8]
    constructor
    · rintro ⟨h1, h2⟩ i hi
      rcases Nat.lt_succ_iff_lt_or_eq.1 hi with h | rfl
      · exact h1 i h
      · exact h2
    · intro h
      exact ⟨fun i hi => h i (by omega), h k (by omega)⟩
theorem diffK_eq (a b : List UInt8) (h : a.length = b.length) : diffK a b a.length = 0 ↔ a = b := by
  rw [diffK_zero]
  constructor
  · intro hi
    apply List.ext_getElem h
    intro i h1 h2
    have := hi i h1
    simpa [List.getD, h1, h2] using this
  · rintro rfl i _; rfl
def CtcRel (w : World) (a b : List UInt8) (v i : Value) (wr : World) : Prop := ∃ k : Nat, k ≤ a.length ∧ i = .int .i64 k ∧ v = .int .u8 (u8 (diffK a b k)) ∧ Fresh w wr
attribute [local irreducible] z01 eqI diffK
set_option maxRecDepth 100000 in
theorem fCtc_c (va vb : Value) (a b : List UInt8) (w : World) (ha : SlB w va a) (hb : SlB w vb b) :
    Calls Try.prog 47 #[va, vb] w fun e w' => e = .returned (.int .i64 (eqI a b)) ∧ Fresh w w' := by
  have HA := Lib.hid ha
  have HB := Lib.hid hb
  obtain ⟨pa, ca, rfl⟩ : ∃ p c, va = .slice p a.length c := by
    rcases ha with ⟨rfl, rfl⟩ | ⟨ad, c, rfl, -⟩
    · exact ⟨_, _, rfl⟩
    · exact ⟨_, _, rfl⟩
  obtain ⟨pb, cb, rfl⟩ : ∃ p c, vb = .slice p b.length c := by
    rcases hb with ⟨rfl, rfl⟩ | ⟨ad, c, rfl, -⟩
    · exact ⟨_, _, rfl⟩
    · exact ⟨_, _, rfl⟩
  have hmax : a.length ≤ 9223372036854775807 := by
    rcases ha with ⟨-, rfl⟩ | ⟨ad, c, e, h1, h2, -⟩
    · decide
    · simp only [maxLen] at h2; omega
  clear ha hb
  go_enter Try.func47, Try.ntmps47
  by_cases hlen : a.length = b.length
  · have il : (a.length : Int) = b.length := by omega
    go_wp2_with fail
    go_loopw [5, 6] (fun v i wr => CtcRel w a b v i wr) (fun _ i _ => a.length - (intOf i).toNat)
    case atStart => exact ⟨0, Nat.zero_le _, rfl, by rw [diffK_nil]; rfl, Keeps.refl _ w⟩
    case round =>
      obtain ⟨k, hk, rfl, rfl, hf⟩ := hrel
      have HF := Lib.hid hf
      clear hf
      by_cases hlt : k < a.length
      · obtain ⟨ba, oa, xa, ea, -, -, hba, hca⟩ := HA.out.form (by omega)
        obtain ⟨rfl, rfl⟩ : pa = some ⟨ba, oa, none⟩ ∧ ca = xa := by injection ea with a1 a2 a3; exact ⟨a1, a3⟩
        obtain ⟨bb, ob, xb, eb, -, -, hbb, hcb⟩ := HB.out.form (by omega)
        obtain ⟨rfl, rfl⟩ : pb = some ⟨bb, ob, none⟩ ∧ cb = xb := by injection eb with a1 a2 a3; exact ⟨a1, a3⟩
        obtain ⟨x, hx⟩ : ∃ x, x = a.getD k 0 := ⟨_, rfl⟩
        obtain ⟨y, hy⟩ : ∃ y, y = b.getD k 0 := ⟨_, rfl⟩
        obtain ⟨z, hz⟩ : ∃ z, z = diffK a b k := ⟨_, rfl⟩
        have cx : wr.cell? ⟨ba, oa + k, none⟩ = some (.int .u8 (u8 x)) := by rw [hx]; exact HF.out.cellAt (hca k hlt) (fun x => x)
        have cy : wr.cell? ⟨bb, ob + k, none⟩ = some (.int .u8 (u8 y)) := by rw [hy]; exact HF.out.cellAt (hcb k (by omega)) (fun x => x)
        rw [← hz]
        have HX := Lib.hid hx
        have HY := Lib.hid hy
        have HZ := Lib.hid hz
        have j1 : (k : Int) < a.length := by omega
        have j2 : (k : Int) < b.length := by omega
        clear ea eb hca hcb hx hy hz
        go_wp2_with fail
        go_quiet (fail)
        go_wp2_with fail
        refine ⟨⟨k + 1, hlt, by go_num, ?_, HF.out.drewN _⟩, by simp [intOf]; omega⟩
        rw [diffK_succ, ← HX.out, ← HY.out, ← HZ.out]
      · have HK := Lib.hid (show k = a.length by omega)
        have j1 : ¬ (k : Int) < a.length := by omega
        go_wp2_with fail
        refine (ByteEq_c _ wr).mono ?_
        rintro e w1 ⟨rfl, rfl⟩
        go_wp2_with fail
        go_ret
        have hfin : z01 (diffK a b k) = eqI a b := by
          rw [HK.out]
          by_cases he : a = b
          · rw [eqI_pos he, (diffK_eq a b hlen).2 he, z01_zero]
          · rw [eqI_neg he, z01_pos (fun h => he ((diffK_eq a b hlen).1 h))]
        exact ⟨congrArg (fun c => Ending.returned (Value.int .i64 c)) hfin, HF.out⟩
  · have il : ¬ (a.length : Int) = b.length := by omega
    have hne : ¬ a = b := fun e => hlen (by rw [e])
    rw [eqI_neg hne]
    go_wp2_with fail
    go_ret
    exact ⟨rfl, Keeps.refl _ w⟩
theorem Ctc_c (va vb : Value) (a b : List UInt8) (w : World) (ha : SlB w va a) (hb : SlB w vb b) :
    Calls Try.prog 39 #[va, vb] w fun e w' => e = .returned (.int .i64 (eqI a b)) ∧ Fresh w w' := by
  have HC := Lib.hid (fCtc_c va vb a b w ha hb)
  clear ha hb
  go_enter Try.func39, Try.ntmps39
  go_wp2_with fail
  refine HC.out.mono ?_
  rintro e w1 ⟨rfl, hf⟩
  have HF := Lib.hid hf
  clear hf
  go_wp2_with fail
  go_ret
  exact ⟨rfl, HF.out⟩
set_option maxRecDepth 100000 in
/-- poly1305.Verify -/
theorem PVerify_c (bmac bk : Nat) (mac key m : List UInt8) (v : Value) (w : World) (Tm : TypeId) (hmac : w.heap[bmac]? = some (.cells (cells8 mac) Tm (0, 0))) (hml : mac.length = 16) (hk : BytesIn w bk 0 key) (hl : key.length = 32) (hbk : bk < w.heap.size) (hs : SlB w v m) :
    Calls Try.prog 29 #[.pointer (some ⟨bmac, 0, none⟩), v, .pointer (some ⟨bk, 0, none⟩)] w fun e w' => e = .returned (.bool (decide (mac = tagK key m))) ∧ Fresh w w' := by
  have HM := Lib.hid hmac
  have HML := Lib.hid hml
  have HK := Lib.hid hk
  have HL := Lib.hid hl
  have HS := Lib.hid hs
  clear hmac hml hk hl hs
  go_enter Try.func29, Try.ntmps29
  go_wp2_with fail
  have HF0 : Hid (Fresh w (w.alloc Z16)) := Lib.hid ((Keeps.refl _ w).alloc _)
  refine (PSum_c w.heap.size bk key m (List.replicate 16 0) v (w.alloc Z16) 25 (heap_alloc_new w _) rfl (HK.out.keeps HF0.out (fun x => x)) HL.out (by simp; omega) (HS.out.fresh HF0.out)).mono ?_
  rintro e w1 ⟨rfl, hb, hk⟩
  have HB := Lib.hid hb
  have HF1 : Hid (Fresh w w1) := Lib.hid (HF0.out.then hk (fun q hq e => by omega))
  clear hb hk
  go_wp2_with fail
  refine wp_region_ord (fun _ => True) [(0, true), (1, true), (2, true), (3, true), (4, false), (5, true), (6, true)] (by kernel_rfl) (by kernel_rfl) trivial ?_
  iterate 4 (refine ord_quiet rfl (fun K hK => ?_); go_simp; refine hK _ ?_; clear hK K)
  refine ord_loud rfl (fun K hK => ?_)
  go_wp2_with fail
  refine (Ctc_c _ _ (tagK key m) mac _ ((SlB.all16 HB.out (tagK_length _ _)).fresh (Keeps.refl _ w1).drew) ((SlB.all16 (HF1.out.at HM.out) HML.out).fresh (Keeps.refl _ w1).drew)).mono ?_
  rintro e w2 ⟨rfl, hf2⟩
  have HF2 : Hid (Fresh w w2) := Lib.hid (Fresh.then HF1.out.drew hf2 (fun _ _ h => h))
  clear hf2
  go_wp2_with fail
  refine hK _ _ trivial ?_
  clear hK K
  by_cases he : mac = tagK key m
  · have h1 : eqI (tagK key m) mac = 1 := eqI_pos he.symm
    rw [h1]
    have HE := Lib.hid he
    clear he h1
    iterate 2 (refine ord_quiet rfl (fun K hK => ?_); go_simp; refine hK _ ?_; clear hK K)
    refine ord_last ?_
    go_wp2_with fail
    go_ret
    exact ⟨congrArg (fun b => Ending.returned (Value.bool b)) (decide_eq_true HE.out).symm, HF2.out⟩
  · have h1 : eqI (tagK key m) mac = 0 := eqI_neg (fun e => he e.symm)
    rw [h1]
    have HE := Lib.hid he
    clear he h1
    iterate 2 (refine ord_quiet rfl (fun K hK => ?_); go_simp; refine hK _ ?_; clear hK K)
    refine ord_last ?_
    go_wp2_with fail
    go_ret
    exact ⟨congrArg (fun b => Ending.returned (Value.bool b)) (decide_eq_false HE.out).symm, HF2.out⟩
set_option maxRecDepth 100000 in
/-- impl.Check -/
theorem Check_c (v : Value) (mac m key : List UInt8) (w : World) (hs : SlB w v m) (hl : key.length = 32) (hml : mac.length = 16) :
    Calls Try.prog 19 #[.agg (cells8 mac), v, .agg (cells8 key)] w fun e w' => e = .returned (.bool (decide (mac = tagK key m))) ∧ Fresh w w' := by
  have HS := Lib.hid hs
  have HL := Lib.hid hl
  have HML := Lib.hid hml
  have H1 := cells8_one key
  have H2 := cells8_one mac
  clear hs hl hml
  go_enter Try.func19, Try.ntmps19
  go_wp2_with fail
  have HF0 : ∀ A B : Obj, Fresh w ((w.alloc A).alloc B) := fun A B => ((Keeps.refl _ w).alloc A).alloc B
  refine (PVerify_c w.heap.size (w.heap.size + 1) mac key m v _ 25 (block_alloc (heap_alloc_new w _)) HML.out (BytesIn.of (heap_alloc2_new w _ _)) HL.out (by simp) (HS.out.fresh (HF0 _ _))).mono ?_
  rintro e w1 ⟨rfl, hf⟩
  have HF : Hid (Fresh w w1) := Lib.hid (Fresh.then (HF0 _ _) hf (fun _ _ h => h))
  clear hf HF0
  go_wp2_with fail
  go_ret
  exact ⟨rfl, HF.out⟩
end Go.Proofs.Ytdkhpehniciijaa
