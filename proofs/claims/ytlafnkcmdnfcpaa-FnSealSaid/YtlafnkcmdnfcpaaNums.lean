/-
  Contracts: the numbers of spec: short, natural, plus, minus, less, prime, times.
-/
import Derived.Test.YtlafnkcmdnfcpaaApp
import Derived.Test.YtlafnkcmdnfcpaaDig
import Derived.Laws.AppendOwn
import Derived.Test.YtlafnkcmdnfcpaaPoly
import Derived.Deep.QuietTactic
import Derived.BigQuiet
import Derived.OwnWalk
namespace Go.Proofs.Ytlafnkcmdnfcpaa
section
open Go Go.RowKit
def valsI (l : List Nat) : List Value := l.map fun (n : Nat) => Value.int .i64 (n : Int)
theorem valsI_len (l : List Nat) : (valsI l).length = l.length := by simp [valsI]
theorem valsI_append (l r : List Nat) : valsI (l ++ r) = valsI l ++ valsI r := by simp [valsI]
theorem valsI_one (l : List Nat) : ∀ u ∈ valsI l, u.oneCell' = true := by
  intro v hv
  obtain ⟨x, _, rfl⟩ := List.mem_map.1 hv
  rfl
theorem valsI_get {l : List Nat} {i : Nat} (h : i < l.length) : (valsI l)[i]? = some (.int .i64 ((l.getD i 0 : Nat) : Int)) := by
  simp [valsI, h]
/-- the slice value v reads as the digits l -/
def SlI (w : World) (v : Value) (l : List Nat) : Prop :=
  (v = .slice none 0 0 ∧ l = []) ∨ ∃ ad c, v = .slice (some ad) l.length c ∧ l.length ≤ c ∧ c ≤ maxLen ∧ ∀ (j : Nat) (u : Value), (valsI l)[j]? = some u → w.cell? (ad.add j) = some u
theorem SlI.nil (w : World) : SlI w (.slice none 0 0) [] := Or.inl ⟨rfl, rfl⟩
theorem SlI.shape {w : World} {v : Value} {l : List Nat} (h : SlI w v l) : ∃ p c, v = .slice p l.length c := by
  rcases h with ⟨rfl, rfl⟩ | ⟨ad, c, rfl, -⟩
  · exact ⟨_, _, rfl⟩
  · exact ⟨_, _, rfl⟩
theorem SlI.form {w : World} {v : Value} {l : List Nat} (h : SlI w v l) (hn : 0 < l.length) :
    ∃ b o c, v = .slice (some ⟨b, o, none⟩) l.length c ∧ l.length ≤ c ∧ c ≤ maxLen ∧ b < w.heap.size ∧ ∀ i, i < l.length → w.cell? ⟨b, o + i, none⟩ = some (.int .i64 ((l.getD i 0 : Nat) : Int)) := by
  rcases h with ⟨_, rfl⟩ | ⟨ad, c, rfl, h1, h2, hc⟩
  · simp at hn
  · obtain ⟨b, o, sp⟩ := ad
    have h0 := hc 0 _ (valsI_get hn)
    have hsp : sp = none := by
      cases sp with
      | none => rfl
      | some x =>
        rw [Addr.add_zero'] at h0
        unfold World.cell? at h0
        split at h0 <;> simp at h0
    subst hsp
    refine ⟨b, o, c, rfl, h1, h2, ?_, fun i hi => ?_⟩
    · have := World.block_lt_of_cell? w _ h0
      simpa [Addr.add_lit] using this
    · have := hc i _ (valsI_get hi)
      rwa [Addr.add_lit] at this
theorem SlI.of {w : World} {b o c : Nat} {l : List Nat} (h1 : l.length ≤ c) (h2 : c ≤ maxLen) (h : ∀ i, i < l.length → w.cell? ⟨b, o + i, none⟩ = some (.int .i64 ((l.getD i 0 : Nat) : Int))) : SlI w (.slice (some ⟨b, o, none⟩) l.length c) l := by
  refine Or.inr ⟨_, c, rfl, h1, h2, fun j u hu => ?_⟩
  have hj : j < l.length := by have := (List.getElem?_eq_some_iff.1 hu).1; rwa [valsI_len] at this
  rw [valsI_get hj] at hu
  rw [Addr.add_lit, h j hj, hu]
theorem SlI.fresh {w w' : World} {v : Value} {l : List Nat} (h : SlI w v l) (hk : Fresh w w') : SlI w' v l := by
  rcases h with h | ⟨ad, c, rfl, h1, h2, hc⟩
  · exact Or.inl h
  · exact Or.inr ⟨ad, c, rfl, h1, h2, fun j u hu => hk.cellAt (hc j u hu) (fun x => x)⟩
theorem SlI.len_le {w : World} {v : Value} {l : List Nat} (h : SlI w v l) : l.length ≤ maxLen := by
  rcases h with ⟨_, rfl⟩ | ⟨ad, c, _, h1, h2, _⟩
  · exact Nat.zero_le _
  · omega
/-- the slice value v owns the digits l -/
def OwnI (w : World) (base : Nat) (v : Value) (l : List Nat) : Prop := w.ownsRow base 3 1 v l.length (valsI l)
theorem OwnI.sl {w : World} {base : Nat} {v : Value} {l : List Nat} (h : OwnI w base v l) : SlI w v l := by
  rcases h.2 with ⟨hv, h0⟩ | ⟨g, cap, cur, hv, hb, hg, h1, h2, h3, h4⟩
  · exact Or.inl ⟨hv, List.eq_nil_of_length_eq_zero h0⟩
  · subst hv
    exact Or.inr ⟨⟨g, 0, none⟩, cap, rfl, h1, h2, World.ownsRow.cells h (g := g) rfl⟩
theorem OwnI.kept {S : Nat → Prop} {w w' : World} {base : Nat} {v : Value} {l : List Nat} (h : OwnI w base v l) (hk : Keeps S w w') (hs : ∀ k, base ≤ k → ¬ S k) : OwnI w' base v l := by
  obtain ⟨h1, h2⟩ := h
  refine ⟨h1, ?_⟩
  rcases h2 with h2 | ⟨g, cap, cur, rfl, hb, hg, r⟩
  · exact Or.inl h2
  · exact Or.inr ⟨g, cap, cur, rfl, hb, hk.at hg (hs g hb), r⟩
theorem infoInt : (Try.prog.info? 3).map (fun i => (i.zero, i.size, i.bytes)) = some (some (.int .i64 0), 1, 8) := by kernel_rfl
/-- append of one digit -/
theorem wpList_appI {ops : Array Oper} {rest : List Oper} {o : Oper} {a : Act} {w : World} {Q : Exit → Act → World → Prop} (hgd : o.guard = none) (s x : Operand)
    (ho : o.op = .call { callee := .builtin .append, args := #[s, x], argTypes := #[88, 88] }) (base : Nat) (v : Value) (l : List Nat) (n g : Nat)
    (hs : a.eval s = v) (hx : a.eval x = .slice (some ⟨g, 0, none⟩) 1 1) (hown : OwnI w base v l) (hg : w.heap[g]? = some (.cells #[.int .i64 (n : Int)] 3 (0, 0))) (hlen : l.length ≤ 1000000) (hbase : base ≤ w.heap.size)
    (h : ∀ v' w', Hid (OwnI w' base v' (l ++ [n])) → Hid (Keeps (fun q => base ≤ q) w w') → wpList Try.prog ops Q rest (a.put o.dst v') w') : wpList Try.prog ops Q (o :: rest) a w := by
  obtain ⟨i0, hi, hz0, hz1, hz2⟩ := info_parts infoInt
  refine wpList_append_own _ hgd s x 88 ho base 3 i0 (.int .i64 0) 1 8 Try.underlying88 hi hz0 hz1 hz2 rfl (by decide) v l.length (valsI l) hs hown ⟨g, 0, none⟩ 1 1 (valsI [n]) hx rfl ?_ (valsI_one _) (by unfold maxLen; omega) (by omega) hbase ?_
  · intro j u hu
    have hj : j = 0 := by have := (List.getElem?_eq_some_iff.1 hu).1; rw [valsI_len] at this; simp at this; omega
    subst hj
    rw [Addr.add_lit, Nat.zero_add, cell_block hg]
    exact hu
  · intro v' w' h1 h2 _
    refine h v' w' (Lib.hid ?_) (Lib.hid ((Keeps.refl _ w).grown h2 (fun k hk => Or.inl (World.ownsRow.lt hown k hk).1)))
    unfold OwnI
    rw [List.length_append, valsI_append]
    exact h1
theorem strip_snoc_zero (l : List Nat) : Dig.strip (l ++ [0]) = Dig.strip l := by
  induction l with
  | nil => rfl
  | cons d r ih => simp only [List.cons_append, Dig.strip]; rw [ih]
theorem strip_snoc_pos (l : List Nat) (d : Nat) (h : d ≠ 0) : Dig.strip (l ++ [d]) = l ++ [d] := by
  induction l with
  | nil => simp [Dig.strip, h]
  | cons x r ih =>
    simp only [List.cons_append, Dig.strip]
    rw [ih]
    cases r <;> rfl
/-- the loop of short -/
def ShortRel (w : World) (l : List Nat) (v : Value) (wr : World) : Prop := ∃ m, SlI wr v m ∧ Dig.strip m = Dig.strip l ∧ wr = w
def lenI : Value → Nat
  | .slice _ n _ => n
  | _ => 0
set_option maxRecDepth 100000 in
theorem short_c (v : Value) (l : List Nat) (w : World) (hs : SlI w v l) :
    Calls Try.prog 64 #[v] w fun e w' => ∃ v', e = .returned v' ∧ SlI w v' (Dig.strip l) ∧ w' = w := by
  have HS := Lib.hid hs
  clear hs
  go_enter Try.func64, Try.ntmps64
  go_wp2_with fail
  go_loopw [0] (fun v wr => ShortRel w l v wr) (fun v _ => lenI v)
  case atStart => exact ⟨l, HS.out, rfl, rfl⟩
  case round =>
    obtain ⟨m, hm, he, rfl⟩ := hrel
    have HM := Lib.hid hm
    have HE := Lib.hid he
    clear hm he HS
    rcases List.eq_nil_or_concat m with rfl | ⟨m', d, rfl⟩
    · obtain ⟨p, c, rfl⟩ := HM.out.shape
      go_wp2_with fail
      go_ret
      refine ⟨_, rfl, ?_, rfl⟩
      rw [← HE.out]
      exact HM.out
    · rw [List.concat_eq_append] at HM HE
      obtain ⟨b, o, c, rfl, hlc, hmx, hbl, hc⟩ := HM.out.form (by simp)
      have hlen : (m' ++ [d]).length = m'.length + 1 := by simp
      have cd : wr.cell? ⟨b, o + m'.length, none⟩ = some (.int .i64 (d : Int)) := by
        have := hc m'.length (by simp)
        simpa [List.getD] using this
      have HC := Lib.hid hc
      rw [hlen] at hlc ⊢
      have hsmall : (m'.length : Int) + 1 ≤ 9223372036854775807 := by simp only [maxLen] at hmx; omega
      have e1 : ((m'.length + 1 : Nat) : Int) - 1 = m'.length := by omega
      clear hc
      by_cases hd : d = 0
      · subst hd
        go_wp2_with fail
        refine ⟨⟨m', ?_, by rw [← HE.out, strip_snoc_zero], rfl⟩, Nat.lt_succ_self _⟩
        refine SlI.of (by omega) hmx (fun i hi => ?_)
        have := HC.out i (by simp; omega)
        rw [this]
        simp [List.getD, List.getElem?_append_left hi]
      · have HD := Lib.hid hd
        have hdb : ((d : Int) == 0) = false := by simp [hd]
        clear hd
        go_wp2_with fail
        go_ret
        refine ⟨_, rfl, ?_, rfl⟩
        rw [← HE.out, strip_snoc_pos _ _ HD.out]
        have h := HM.out
        rw [hlen] at h
        exact h
end
section
open Go Go.RowKit
/-- what is returned reads as these digits; nothing old is written -/
def RetI (w : World) (l : List Nat) (e : Ending) (w' : World) : Prop := ∃ v, e = .returned v ∧ SlI w' v l ∧ Fresh w w'
def NatRel (w : World) (l : List UInt8) (v i : Value) (wr : World) : Prop :=
  ∃ k : Nat, k ≤ l.length ∧ i = .int .i64 k ∧ OwnI wr w.heap.size v ((l.take k).map UInt8.toNat) ∧ Fresh w wr
theorem small_bytes8 (l : List UInt8) : Dig.Small (l.map UInt8.toNat) := by
  intro d hd
  obtain ⟨x, -, rfl⟩ := List.mem_map.1 hd
  exact x.toNat_lt
set_option maxRecDepth 100000 in
set_option maxHeartbeats 1000000 in
theorem natural_c (vb : Value) (l : List UInt8) (w : World) (hs : SlB w vb l) (hl : l.length ≤ 100000) :
    Calls Try.prog 43 #[vb] w (RetI w (Dig.dig (Dig.val (l.map UInt8.toNat)))) := by
  have HS := Lib.hid hs
  obtain ⟨p, c, rfl⟩ : ∃ p c, vb = .slice p l.length c := by
    rcases hs with ⟨rfl, rfl⟩ | ⟨ad, c, rfl, -⟩
    · exact ⟨_, _, rfl⟩
    · exact ⟨_, _, rfl⟩
  clear hs
  go_enter Try.func43, Try.ntmps43
  go_wp2_with fail
  go_loopw [3, 9] (fun v i wr => NatRel w l v i wr) (fun _ i _ => l.length - (intOf i).toNat)
  case atStart => exact ⟨0, Nat.zero_le _, rfl, World.ownsRow_lit w #[] 0 (Nat.le_refl _) (by decide) rfl, (Keeps.refl _ w).alloc _⟩
  case round =>
    obtain ⟨k, hk, rfl, hown, hf⟩ := hrel
    have HOWN := Lib.hid hown
    have HF := Lib.hid hf
    clear hown hf
    by_cases hlt : k < l.length
    · obtain ⟨b, o, cc, e, -, -, hbl, hc⟩ := HS.out.form (by omega)
      obtain ⟨rfl, rfl⟩ : p = some ⟨b, o, none⟩ ∧ c = cc := by injection e with a1 a2 a3; exact ⟨a1, a3⟩
      clear e
      obtain ⟨x, hx⟩ : ∃ x, x = l.getD k 0 := ⟨_, rfl⟩
      have cx : wr.cell? ⟨b, o + k, none⟩ = some (.int .u8 (u8 x)) := by rw [hx]; exact HF.out.cellAt (hc k hlt) (fun x => x)
      have HX := Lib.hid hx
      have i1 : (k : Int) < l.length := by omega
      have x0 := u8_nonneg x
      have x1 := u8_lt x
      have HLT : Hid (((l.take k).map UInt8.toNat).length ≤ 1000000) := Lib.hid (by rw [List.length_map, List.length_take]; exact Nat.le_trans (Nat.min_le_right _ _) (by omega))
      clear hc hx
      go_wp2_with (at_builtin; refine wpList_appI rfl (.tmp 13) (.tmp 16) rfl w.heap.size _ ((l.take k).map UInt8.toNat) x.toNat wr.heap.size rfl rfl (OwnI.kept HOWN.out ((Keeps.refl (fun _ => False) wr).alloc _) (fun _ _ h => h)) (heap_alloc_new wr _) HLT.out (by have := HF.out.size; simp; omega) ?_; intro v' w1 HO HK)
      refine ⟨⟨k + 1, hlt, by go_num, ?_, ?_⟩, by simp [intOf]; omega⟩
      · have e : (l.take (k + 1)).map UInt8.toNat = (l.take k).map UInt8.toNat ++ [x.toNat] := by
          rw [List.take_succ_eq_append_getElem hlt, List.map_append, HX.out]
          simp [List.getD, hlt]
        rw [e]
        exact HO.out
      · exact HF.out.then (((Keeps.refl _ wr).alloc _).trans HK.out) (fun q hq h => by omega)
    · have HK := Lib.hid (show k = l.length by omega)
      go_wp2_with fail
      refine (short_c _ _ wr HOWN.out.sl).mono ?_
      rintro e w1 ⟨v', rfl, hs', rfl⟩
      have HS' := Lib.hid hs'
      clear hs'
      go_wp2_with fail
      go_ret
      refine ⟨_, rfl, ?_, HF.out⟩
      have h := HS'.out
      rw [HK.out, List.take_length, Dig.strip_eq_dig _ (small_bytes8 l)] at h
      exact h
/-- the loop of plus: k digits are made, the carry is q -/
def PlusRel (w : World) (la lb : List Nat) (v q i : Value) (wr : World) : Prop :=
  ∃ (k c : Nat) (r : List Nat), i = .int .i64 k ∧ q = .int .i64 c ∧ c ≤ 1 ∧ k ≤ max la.length lb.length + 1 ∧ r.length = k ∧ Dig.Small r ∧
    Dig.val r + 256 ^ k * c = Dig.val (la.take k) + Dig.val (lb.take k) ∧ (k = max la.length lb.length + 1 → c = 0) ∧ OwnI wr w.heap.size v r ∧ Fresh w wr
theorem val_take_succ (l : List Nat) (k : Nat) (h : k < l.length) : Dig.val (l.take (k + 1)) = Dig.val (l.take k) + 256 ^ k * l.getD k 0 := by
  rw [List.take_succ_eq_append_getElem h, Dig.val_append, List.length_take, Nat.min_eq_left (Nat.le_of_lt h)]
  simp [Dig.val, List.getD, h]
theorem val_take_over (l : List Nat) (k : Nat) (h : l.length ≤ k) : Dig.val (l.take (k + 1)) = Dig.val (l.take k) := by
  rw [List.take_of_length_le h, List.take_of_length_le (by omega)]
theorem val_snoc (r : List Nat) (d : Nat) : Dig.val (r ++ [d]) = Dig.val r + 256 ^ r.length * d := by
  rw [Dig.val_append]; simp [Dig.val]
theorem small_snoc {r : List Nat} {d : Nat} (h : Dig.Small r) (hd : d < 256) : Dig.Small (r ++ [d]) := by
  intro x hx
  rcases List.mem_append.1 hx with hx | hx
  · exact h x hx
  · simp at hx; omega
theorem small_getD {l : List Nat} (h : Dig.Small l) (k : Nat) : l.getD k 0 < 256 := by
  by_cases hk : k < l.length
  · have := h l[k] (List.getElem_mem hk)
    simpa [List.getD, hk] using this
  · simp [List.getD, List.getElem?_eq_none (Nat.le_of_not_lt hk)]
/-- one step of the sum of digits -/
theorem plus_step {la lb r : List Nat} {k c x y : Nat} (hv : Dig.val r + 256 ^ k * c = Dig.val (la.take k) + Dig.val (lb.take k)) (hr : r.length = k)
    (hx : Dig.val (la.take (k + 1)) = Dig.val (la.take k) + 256 ^ k * x) (hy : Dig.val (lb.take (k + 1)) = Dig.val (lb.take k) + 256 ^ k * y) :
    Dig.val (r ++ [(c + x + y) % 256]) + 256 ^ (k + 1) * ((c + x + y) / 256) = Dig.val (la.take (k + 1)) + Dig.val (lb.take (k + 1)) := by
  rw [val_snoc, hr, hx, hy, Nat.pow_succ]
  have hdm := Nat.div_add_mod (c + x + y) 256
  generalize 256 ^ k = P at *
  generalize (c + x + y) / 256 = D at *
  generalize (c + x + y) % 256 = M at *
  have e1 : P * M + P * 256 * D = P * (c + x + y) := by rw [Nat.mul_assoc, ← Nat.mul_add, Nat.add_comm, hdm]
  rw [Nat.mul_add, Nat.mul_add] at e1
  omega
end
section
open Go Go.RowKit
theorem plus_next {w w1 : World} {la lb r : List Nat} {k c x y : Nat} {v' : Value} (hr : r.length = k) (hsm : Dig.Small r) (hv : Dig.val r + 256 ^ k * c = Dig.val (la.take k) + Dig.val (lb.take k))
    (hx : Dig.val (la.take (k + 1)) = Dig.val (la.take k) + 256 ^ k * x) (hy : Dig.val (lb.take (k + 1)) = Dig.val (lb.take k) + 256 ^ k * y)
    (hxs : x < 256) (hys : y < 256) (hx0 : la.length ≤ k → x = 0) (hy0 : lb.length ≤ k → y = 0) (hk : k ≤ max la.length lb.length) (hc : c ≤ 1) (ho : OwnI w1 w.heap.size v' (r ++ [(c + x + y) % 256])) (hf : Fresh w w1) :
    PlusRel w la lb v' (.int .i64 (((c + x + y) / 256 : Nat) : Int)) (.int .i64 ((k : Int) + 1)) w1 :=
  ⟨k + 1, (c + x + y) / 256, r ++ [(c + x + y) % 256], rfl, rfl, by omega, by omega, by rw [List.length_append, hr]; rfl, small_snoc hsm (Nat.mod_lt _ (by decide)), plus_step hv hr hx hy, fun h => by
    have h1 := hx0 (by omega)
    have h2 := hy0 (by omega)
    omega, ho, hf⟩
set_option maxRecDepth 100000 in
set_option maxHeartbeats 2000000 in
theorem plus_c (va vb : Value) (la lb : List Nat) (w : World) (ha : SlI w va la) (hb : SlI w vb lb) (hsa : Dig.Small la) (hsb : Dig.Small lb) (hla : la.length ≤ 100000) (hlb : lb.length ≤ 100000) :
    Calls Try.prog 46 #[va, vb] w (RetI w (Dig.dig (Dig.val la + Dig.val lb))) := by
  have HA := Lib.hid ha
  have HBB := Lib.hid hb
  have HSA := Lib.hid hsa
  have HSB := Lib.hid hsb
  obtain ⟨pa, ca, rfl⟩ := ha.shape
  obtain ⟨pb, cb, rfl⟩ := hb.shape
  clear ha hb hsa hsb
  go_enter Try.func46, Try.ntmps46
  go_wp2_with fail
  go_loopw [5, 6, 7] (fun v q i wr => PlusRel w la lb v q i wr) (fun _ _ i _ => la.length + lb.length + 2 - (intOf i).toNat)
  case atStart => exact ⟨0, 0, [], rfl, rfl, by omega, by omega, rfl, (fun d hd => by cases hd), rfl, (fun _ => rfl), World.ownsRow_lit w #[] 0 (Nat.le_refl _) (by decide) rfl, (Keeps.refl _ w).alloc _⟩
  case round =>
    obtain ⟨k, c, r, rfl, rfl, hc1, hkm, hr, hsm, hv, hlast, hown, hf⟩ := hrel
    have HRR := Lib.hid hr
    have HSM := Lib.hid hsm
    have HV := Lib.hid hv
    have HOWN := Lib.hid hown
    have HF := Lib.hid hf
    have HRL : Hid (r.length ≤ 1000000) := Lib.hid (by rw [hr]; omega)
    have HLAST := Lib.hid hlast
    clear hr hsm hv hown hf hlast
    by_cases hka : k < la.length
    · by_cases hkb : k < lb.length
      · clear HLAST
        obtain ⟨ba, oa, xa, ea, -, -, hba, hca⟩ := HA.out.form (by omega)
        obtain ⟨rfl, rfl⟩ : pa = some ⟨ba, oa, none⟩ ∧ ca = xa := by injection ea with a1 a2 a3; exact ⟨a1, a3⟩
        have cx : wr.cell? ⟨ba, oa + k, none⟩ = some (.int .i64 ((la.getD k 0 : Nat) : Int)) := HF.out.cellAt (hca k hka) (fun x => x)
        have hx := val_take_succ la k hka
        have hxs := small_getD HSA.out k
        have ia : (k : Int) < la.length := by omega
        clear ea hca
        obtain ⟨bb, ob, xb, eb, -, -, hbb, hcb⟩ := HBB.out.form (by omega)
        obtain ⟨rfl, rfl⟩ : pb = some ⟨bb, ob, none⟩ ∧ cb = xb := by injection eb with a1 a2 a3; exact ⟨a1, a3⟩
        have cy : wr.cell? ⟨bb, ob + k, none⟩ = some (.int .i64 ((lb.getD k 0 : Nat) : Int)) := HF.out.cellAt (hcb k hkb) (fun x => x)
        have hy := val_take_succ lb k hkb
        have hys := small_getD HSB.out k
        have ib : (k : Int) < lb.length := by omega
        clear eb hcb
        obtain ⟨x, hxe⟩ : ∃ x, x = la.getD k 0 := ⟨_, rfl⟩
        rw [← hxe] at cx hx hxs
        obtain ⟨y, hye⟩ : ∃ y, y = lb.getD k 0 := ⟨_, rfl⟩
        rw [← hye] at cy hy hys
        have HX := Lib.hid hx
        have HY := Lib.hid hy
        clear hx hy hxe hye
        go_wp2_with (at_builtin; refine wpList_appI rfl (.tmp 45) (.tmp 48) rfl w.heap.size _ r ((c + x + y) % 256) wr.heap.size rfl rfl (OwnI.kept HOWN.out ((Keeps.refl (fun _ => False) wr).alloc _) (fun _ _ h => h)) (by rw [heap_alloc_new]; exact congrArg (fun z => some (Obj.cells #[Value.int .i64 z] 3 (0, 0))) (by omega)) HRL.out (by have := HF.out.size; simp; omega) ?_; intro v' w1 HO HK)
        have hq : ((c : Int) + x + y) / 256 = (((c + x + y) / 256 : Nat) : Int) := by omega
        refine ⟨?rel, ?measure⟩
        case rel =>
          try rw [hq]
          exact plus_next HRR.out HSM.out HV.out HX.out HY.out (by omega) (by omega) (by omega) (by omega) (by omega) hc1 HO.out (HF.out.then (((Keeps.refl _ wr).alloc _).trans HK.out) (fun q hq h => by omega))
        case measure => simp [intOf]; omega
      · clear HLAST
        obtain ⟨ba, oa, xa, ea, -, -, hba, hca⟩ := HA.out.form (by omega)
        obtain ⟨rfl, rfl⟩ : pa = some ⟨ba, oa, none⟩ ∧ ca = xa := by injection ea with a1 a2 a3; exact ⟨a1, a3⟩
        have cx : wr.cell? ⟨ba, oa + k, none⟩ = some (.int .i64 ((la.getD k 0 : Nat) : Int)) := HF.out.cellAt (hca k hka) (fun x => x)
        have hx := val_take_succ la k hka
        have hxs := small_getD HSA.out k
        have ia : (k : Int) < la.length := by omega
        clear ea hca
        have hy : Dig.val (lb.take (k + 1)) = Dig.val (lb.take k) + 256 ^ k * 0 := by rw [val_take_over lb k (by omega), Nat.mul_zero, Nat.add_zero]
        have ib : ¬ (k : Int) < lb.length := by omega
        obtain ⟨x, hxe⟩ : ∃ x, x = la.getD k 0 := ⟨_, rfl⟩
        rw [← hxe] at cx hx hxs
        have HX := Lib.hid hx
        have HY := Lib.hid hy
        clear hx hy hxe
        go_wp2_with (at_builtin; refine wpList_appI rfl (.tmp 45) (.tmp 48) rfl w.heap.size _ r ((c + x + 0) % 256) wr.heap.size rfl rfl (OwnI.kept HOWN.out ((Keeps.refl (fun _ => False) wr).alloc _) (fun _ _ h => h)) (by rw [heap_alloc_new]; exact congrArg (fun z => some (Obj.cells #[Value.int .i64 z] 3 (0, 0))) (by omega)) HRL.out (by have := HF.out.size; simp; omega) ?_; intro v' w1 HO HK)
        have hq : ((c : Int) + x) / 256 = (((c + x + 0) / 256 : Nat) : Int) := by omega
        refine ⟨?rel, ?measure⟩
        case rel =>
          try rw [hq]
          exact plus_next HRR.out HSM.out HV.out HX.out HY.out (by omega) (by omega) (by omega) (by omega) (by omega) hc1 HO.out (HF.out.then (((Keeps.refl _ wr).alloc _).trans HK.out) (fun q hq h => by omega))
        case measure => simp [intOf]; omega
    · by_cases hkb : k < lb.length
      · clear HLAST
        have hx : Dig.val (la.take (k + 1)) = Dig.val (la.take k) + 256 ^ k * 0 := by rw [val_take_over la k (by omega), Nat.mul_zero, Nat.add_zero]
        have ia : ¬ (k : Int) < la.length := by omega
        obtain ⟨bb, ob, xb, eb, -, -, hbb, hcb⟩ := HBB.out.form (by omega)
        obtain ⟨rfl, rfl⟩ : pb = some ⟨bb, ob, none⟩ ∧ cb = xb := by injection eb with a1 a2 a3; exact ⟨a1, a3⟩
        have cy : wr.cell? ⟨bb, ob + k, none⟩ = some (.int .i64 ((lb.getD k 0 : Nat) : Int)) := HF.out.cellAt (hcb k hkb) (fun x => x)
        have hy := val_take_succ lb k hkb
        have hys := small_getD HSB.out k
        have ib : (k : Int) < lb.length := by omega
        clear eb hcb
        obtain ⟨y, hye⟩ : ∃ y, y = lb.getD k 0 := ⟨_, rfl⟩
        rw [← hye] at cy hy hys
        have HX := Lib.hid hx
        have HY := Lib.hid hy
        clear hx hy hye
        go_wp2_with (at_builtin; refine wpList_appI rfl (.tmp 45) (.tmp 48) rfl w.heap.size _ r ((c + 0 + y) % 256) wr.heap.size rfl rfl (OwnI.kept HOWN.out ((Keeps.refl (fun _ => False) wr).alloc _) (fun _ _ h => h)) (by rw [heap_alloc_new]; exact congrArg (fun z => some (Obj.cells #[Value.int .i64 z] 3 (0, 0))) (by omega)) HRL.out (by have := HF.out.size; simp; omega) ?_; intro v' w1 HO HK)
        have hq : ((c : Int) + y) / 256 = (((c + 0 + y) / 256 : Nat) : Int) := by omega
        refine ⟨?rel, ?measure⟩
        case rel =>
          try rw [hq]
          exact plus_next HRR.out HSM.out HV.out HX.out HY.out (by omega) (by omega) (by omega) (by omega) (by omega) hc1 HO.out (HF.out.then (((Keeps.refl _ wr).alloc _).trans HK.out) (fun q hq h => by omega))
        case measure => simp [intOf]; omega
      · by_cases hcp : c = 0
        · subst hcp
          have ia : ¬ (k : Int) < la.length := by omega
          have ib : ¬ (k : Int) < lb.length := by omega
          go_wp2_with fail
          refine (short_c _ _ wr HOWN.out.sl).mono ?_
          rintro e w1 ⟨v', rfl, hs', rfl⟩
          have HS' := Lib.hid hs'
          clear hs'
          go_wp2_with fail
          go_ret
          refine ⟨_, rfl, ?_, HF.out⟩
          have h := HS'.out
          have hv := HV.out
          rw [Nat.mul_zero, Nat.add_zero, List.take_of_length_le (Nat.le_of_not_lt hka), List.take_of_length_le (Nat.le_of_not_lt hkb)] at hv
          rw [Dig.strip_eq_dig _ HSM.out, hv] at h
          exact h
        · have hkmax : k ≤ max la.length lb.length := by
            have := HLAST.out
            omega
          clear HLAST
          have hx : Dig.val (la.take (k + 1)) = Dig.val (la.take k) + 256 ^ k * 0 := by rw [val_take_over la k (by omega), Nat.mul_zero, Nat.add_zero]
          have ia : ¬ (k : Int) < la.length := by omega
          have hy : Dig.val (lb.take (k + 1)) = Dig.val (lb.take k) + 256 ^ k * 0 := by rw [val_take_over lb k (by omega), Nat.mul_zero, Nat.add_zero]
          have ib : ¬ (k : Int) < lb.length := by omega
          have HX := Lib.hid hx
          have HY := Lib.hid hy
          clear hx hy
          obtain rfl : c = 1 := by omega
          go_wp2_with (at_builtin; refine wpList_appI rfl (.tmp 45) (.tmp 48) rfl w.heap.size _ r ((1 + 0 + 0) % 256) wr.heap.size rfl rfl (OwnI.kept HOWN.out ((Keeps.refl (fun _ => False) wr).alloc _) (fun _ _ h => h)) (by rw [heap_alloc_new]; exact congrArg (fun z => some (Obj.cells #[Value.int .i64 z] 3 (0, 0))) (by omega)) HRL.out (by have := HF.out.size; simp; omega) ?_; intro v' w1 HO HK)
          have hq : ((1 : Int)) / 256 = (((1 + 0 + 0) / 256 : Nat) : Int) := by omega
          refine ⟨?rel, ?measure⟩
          case rel =>
            try rw [hq]
            exact plus_next HRR.out HSM.out HV.out HX.out HY.out (by omega) (by omega) (by omega) (by omega) (by omega) hc1 HO.out (HF.out.then (((Keeps.refl _ wr).alloc _).trans HK.out) (fun q hq h => by omega))
          case measure => simp [intOf]; omega
end
section
open Go Go.RowKit
/-- the loop of minus -/
def MinusRel (w : World) (la lb : List Nat) (v q i : Value) (wr : World) : Prop :=
  ∃ (k c : Nat) (r : List Nat), i = .int .i64 k ∧ q = .int .i64 c ∧ c ≤ 1 ∧ k ≤ la.length ∧ r.length = k ∧ Dig.Small r ∧
    Dig.val r + Dig.val (lb.take k) = Dig.val (la.take k) + 256 ^ k * c ∧ OwnI wr w.heap.size v r ∧ Fresh w wr
theorem minus_next {w w1 : World} {la lb r : List Nat} {k c x y d c' : Nat} {v' : Value} (hr : r.length = k) (hsm : Dig.Small r) (hv : Dig.val r + Dig.val (lb.take k) = Dig.val (la.take k) + 256 ^ k * c)
    (hx : Dig.val (la.take (k + 1)) = Dig.val (la.take k) + 256 ^ k * x) (hy : Dig.val (lb.take (k + 1)) = Dig.val (lb.take k) + 256 ^ k * y)
    (hd : d < 256) (hc' : c' ≤ 1) (he : d + c + y = x + 256 * c') (hk : k < la.length) (ho : OwnI w1 w.heap.size v' (r ++ [d])) (hf : Fresh w w1) :
    MinusRel w la lb v' (.int .i64 (c' : Int)) (.int .i64 ((k : Int) + 1)) w1 := by
  refine ⟨k + 1, c', r ++ [d], rfl, rfl, hc', hk, by rw [List.length_append, hr]; rfl, small_snoc hsm hd, ?_, ho, hf⟩
  rw [val_snoc, hr, hx, hy, Nat.pow_succ]
  generalize 256 ^ k = P at *
  have e1 : P * d + P * c + P * y = P * x + P * 256 * c' := by rw [Nat.mul_assoc, ← Nat.mul_add, ← Nat.mul_add, ← Nat.mul_add, he]
  omega
set_option maxRecDepth 100000 in
set_option maxHeartbeats 2000000 in
theorem minus_c (va vb : Value) (la lb : List Nat) (w : World) (ha : SlI w va la) (hb : SlI w vb lb) (hsa : Dig.Small la) (hsb : Dig.Small lb) (hla : la.length ≤ 100000) (hlb : lb.length ≤ la.length) (hle : Dig.val lb ≤ Dig.val la) :
    Calls Try.prog 67 #[va, vb] w (RetI w (Dig.dig (Dig.val la - Dig.val lb))) := by
  have HA := Lib.hid ha
  have HBB := Lib.hid hb
  have HSA := Lib.hid hsa
  have HSB := Lib.hid hsb
  have HLE := Lib.hid hle
  obtain ⟨pa, ca, rfl⟩ := ha.shape
  obtain ⟨pb, cb, rfl⟩ := hb.shape
  clear ha hb hsa hsb hle
  go_enter Try.func67, Try.ntmps67
  go_wp2_with fail
  go_loopw [5, 6, 12] (fun v q i wr => MinusRel w la lb v q i wr) (fun _ _ i _ => la.length - (intOf i).toNat)
  case atStart => exact ⟨0, 0, [], rfl, rfl, by omega, by omega, rfl, (fun d hd => by cases hd), rfl, World.ownsRow_lit w #[] 0 (Nat.le_refl _) (by decide) rfl, (Keeps.refl _ w).alloc _⟩
  case round =>
    obtain ⟨k, c, r, rfl, rfl, hc1, hkm, hr, hsm, hv, hown, hf⟩ := hrel
    have HRR := Lib.hid hr
    have HSM := Lib.hid hsm
    have HV := Lib.hid hv
    have HOWN := Lib.hid hown
    have HF := Lib.hid hf
    have HRL : Hid (r.length ≤ 1000000) := Lib.hid (by rw [hr]; omega)
    clear hr hsm hv hown hf
    by_cases hka : k < la.length
    · obtain ⟨ba, oa, xa, ea, -, -, hba, hca⟩ := HA.out.form (by omega)
      obtain ⟨rfl, rfl⟩ : pa = some ⟨ba, oa, none⟩ ∧ ca = xa := by injection ea with a1 a2 a3; exact ⟨a1, a3⟩
      obtain ⟨x, hxe⟩ : ∃ x, x = la.getD k 0 := ⟨_, rfl⟩
      have cx : wr.cell? ⟨ba, oa + k, none⟩ = some (.int .i64 (x : Int)) := by rw [hxe]; exact HF.out.cellAt (hca k hka) (fun x => x)
      have hx : Dig.val (la.take (k + 1)) = Dig.val (la.take k) + 256 ^ k * x := by rw [hxe]; exact val_take_succ la k hka
      have hxs : x < 256 := by rw [hxe]; exact small_getD HSA.out k
      have ia : (k : Int) < la.length := by omega
      have HX := Lib.hid hx
      clear ea hca hxe hx
      by_cases hkb : k < lb.length
      · skip
        obtain ⟨bb, ob, xb, eb, -, -, hbb, hcb⟩ := HBB.out.form (by omega)
        obtain ⟨rfl, rfl⟩ : pb = some ⟨bb, ob, none⟩ ∧ cb = xb := by injection eb with a1 a2 a3; exact ⟨a1, a3⟩
        obtain ⟨y, hye⟩ : ∃ y, y = lb.getD k 0 := ⟨_, rfl⟩
        have cy : wr.cell? ⟨bb, ob + k, none⟩ = some (.int .i64 (y : Int)) := by rw [hye]; exact HF.out.cellAt (hcb k hkb) (fun x => x)
        have hy : Dig.val (lb.take (k + 1)) = Dig.val (lb.take k) + 256 ^ k * y := by rw [hye]; exact val_take_succ lb k hkb
        have hys : y < 256 := by rw [hye]; exact small_getD HSB.out k
        have ib : (k : Int) < lb.length := by omega
        clear eb hcb hye
        have HY := Lib.hid hy
        clear hy
        by_cases hneg : x < c + y
        · have in1 : (x : Int) - c - y < 0 := by omega
          go_wp2_with (at_builtin; refine wpList_appI rfl (.tmp 35) (.tmp 37) rfl w.heap.size _ r (x + 256 - c - y) wr.heap.size rfl rfl (OwnI.kept HOWN.out ((Keeps.refl (fun _ => False) wr).alloc _) (fun _ _ h => h)) (by rw [heap_alloc_new]; exact congrArg (fun z => some (Obj.cells #[Value.int .i64 z] 3 (0, 0))) (by omega)) HRL.out (by have := HF.out.size; simp; omega) ?_; intro v' w1 HO HK)
          refine ⟨?rel, ?measure⟩
          case rel => exact minus_next (c' := 1) HRR.out HSM.out HV.out HX.out HY.out (by omega) (by omega) (by omega) hka HO.out (HF.out.then (((Keeps.refl _ wr).alloc _).trans HK.out) (fun q hq h => by omega))
          case measure => simp [intOf]; omega
        · have in1 : ¬ (x : Int) - c - y < 0 := by omega
          go_wp2_with (at_builtin; refine wpList_appI rfl (.tmp 35) (.tmp 37) rfl w.heap.size _ r (x - c - y) wr.heap.size rfl rfl (OwnI.kept HOWN.out ((Keeps.refl (fun _ => False) wr).alloc _) (fun _ _ h => h)) (by rw [heap_alloc_new]; exact congrArg (fun z => some (Obj.cells #[Value.int .i64 z] 3 (0, 0))) (by omega)) HRL.out (by have := HF.out.size; simp; omega) ?_; intro v' w1 HO HK)
          refine ⟨?rel, ?measure⟩
          case rel => exact minus_next (c' := 0) HRR.out HSM.out HV.out HX.out HY.out (by omega) (by omega) (by omega) hka HO.out (HF.out.then (((Keeps.refl _ wr).alloc _).trans HK.out) (fun q hq h => by omega))
          case measure => simp [intOf]; omega
      · skip
        have hy : Dig.val (lb.take (k + 1)) = Dig.val (lb.take k) + 256 ^ k * 0 := by rw [val_take_over lb k (by omega), Nat.mul_zero, Nat.add_zero]
        have ib : ¬ (k : Int) < lb.length := by omega
        have HY := Lib.hid hy
        clear hy
        by_cases hneg : x < c + 0
        · have in1 : (x : Int) - c < 0 := by omega
          go_wp2_with (at_builtin; refine wpList_appI rfl (.tmp 35) (.tmp 37) rfl w.heap.size _ r (x + 256 - c - 0) wr.heap.size rfl rfl (OwnI.kept HOWN.out ((Keeps.refl (fun _ => False) wr).alloc _) (fun _ _ h => h)) (by rw [heap_alloc_new]; exact congrArg (fun z => some (Obj.cells #[Value.int .i64 z] 3 (0, 0))) (by omega)) HRL.out (by have := HF.out.size; simp; omega) ?_; intro v' w1 HO HK)
          refine ⟨?rel, ?measure⟩
          case rel => exact minus_next (c' := 1) HRR.out HSM.out HV.out HX.out HY.out (by omega) (by omega) (by omega) hka HO.out (HF.out.then (((Keeps.refl _ wr).alloc _).trans HK.out) (fun q hq h => by omega))
          case measure => simp [intOf]; omega
        · have in1 : ¬ (x : Int) - c < 0 := by omega
          go_wp2_with (at_builtin; refine wpList_appI rfl (.tmp 35) (.tmp 37) rfl w.heap.size _ r (x - c - 0) wr.heap.size rfl rfl (OwnI.kept HOWN.out ((Keeps.refl (fun _ => False) wr).alloc _) (fun _ _ h => h)) (by rw [heap_alloc_new]; exact congrArg (fun z => some (Obj.cells #[Value.int .i64 z] 3 (0, 0))) (by omega)) HRL.out (by have := HF.out.size; simp; omega) ?_; intro v' w1 HO HK)
          refine ⟨?rel, ?measure⟩
          case rel => exact minus_next (c' := 0) HRR.out HSM.out HV.out HX.out HY.out (by omega) (by omega) (by omega) hka HO.out (HF.out.then (((Keeps.refl _ wr).alloc _).trans HK.out) (fun q hq h => by omega))
          case measure => simp [intOf]; omega
    · have ia : ¬ (k : Int) < la.length := by omega
      have HK := Lib.hid (show k = la.length by omega)
      go_wp2_with fail
      refine (short_c _ _ wr HOWN.out.sl).mono ?_
      rintro e w1 ⟨v', rfl, hs', rfl⟩
      have HS' := Lib.hid hs'
      clear hs'
      go_wp2_with fail
      go_ret
      refine ⟨_, rfl, ?_, HF.out⟩
      have h := HS'.out
      have hv := HV.out
      rw [HK.out, List.take_of_length_le (Nat.le_refl _), List.take_of_length_le hlb] at hv
      have hlt := Dig.val_lt r HSM.out
      rw [HRR.out, HK.out] at hlt
      have hle := HLE.out
      have hc0 : c = 0 := by
        by_cases h1 : c = 1
        · subst h1; omega
        · omega
      subst hc0
      rw [Nat.mul_zero, Nat.add_zero] at hv
      rw [Dig.strip_eq_dig _ HSM.out, show Dig.val r = Dig.val la - Dig.val lb from by omega] at h
      exact h
end
section
open Go Go.RowKit
theorem dig_ge (n : Nat) (h : 0 < n) : 256 ^ ((Dig.dig n).length - 1) ≤ n := by
  induction n using Nat.strongRecOn with
  | _ n ih =>
    rw [Dig.dig_pos n h]
    by_cases h0 : n / 256 = 0
    · rw [h0, Dig.dig_zero]; simp; omega
    · have := ih (n / 256) (by omega) (by omega)
      rw [Dig.dig_pos (n / 256) (by omega)] at this ⊢
      simp only [List.length_cons, Nat.add_sub_cancel] at this ⊢
      rw [Nat.pow_succ]
      have h2 : n / 256 * 256 ≤ n := Nat.div_mul_le_self n 256
      exact Nat.le_trans (Nat.mul_le_mul_right _ this) h2
theorem dig_lt (n : Nat) : n < 256 ^ (Dig.dig n).length := by
  have := Dig.val_lt (Dig.dig n) (Dig.small_dig n)
  rwa [Dig.val_dig] at this
theorem dig_len_lt {x y : Nat} (h : (Dig.dig x).length < (Dig.dig y).length) : x < y := by
  have hy : 0 < y := by
    rcases Nat.eq_zero_or_pos y with rfl | hy
    · rw [Dig.dig_zero] at h; simp at h
    · exact hy
  have h1 := dig_ge y hy
  have h2 := dig_lt x
  have h3 : 256 ^ (Dig.dig x).length ≤ 256 ^ ((Dig.dig y).length - 1) := Nat.pow_le_pow_right (by decide) (by omega)
  omega
theorem dig_len_mono {x y : Nat} (h : x ≤ y) : (Dig.dig x).length ≤ (Dig.dig y).length := by
  by_cases hc : (Dig.dig x).length ≤ (Dig.dig y).length
  · exact hc
  · have := dig_len_lt (Nat.lt_of_not_le hc); omega
/-- two numbers whose digits agree from place k on -/
theorem cmp_digits (la lb : List Nat) (k : Nat) (hsa : Dig.Small la) (hsb : Dig.Small lb) (hl : la.length = lb.length) (hk : k < la.length) (he : la.drop (k + 1) = lb.drop (k + 1)) (hne : la.getD k 0 ≠ lb.getD k 0) :
    Dig.val la < Dig.val lb ↔ la.getD k 0 < lb.getD k 0 := by
  have split : ∀ l : List Nat, k < l.length → Dig.val l = Dig.val (l.take k) + 256 ^ k * (l.getD k 0 + 256 * Dig.val (l.drop (k + 1))) := by
    intro l hkl
    conv => lhs; rw [← List.take_append_drop k l, Dig.val_append, List.length_take, Nat.min_eq_left (Nat.le_of_lt hkl), List.drop_eq_getElem_cons hkl]
    simp [Dig.val, List.getD, hkl]
  have small : ∀ l : List Nat, Dig.Small l → k < l.length → Dig.val (l.take k) < 256 ^ k := by
    intro l hs hkl
    have := Dig.val_lt (l.take k) (fun d hd => hs d (List.mem_of_mem_take hd))
    rwa [List.length_take, Nat.min_eq_left (Nat.le_of_lt hkl)] at this
  have ha := small la hsa hk
  have hb := small lb hsb (by omega)
  rw [split la hk, split lb (by omega), he]
  generalize Dig.val (lb.drop (k + 1)) = s at *
  generalize la.getD k 0 = x at *
  generalize lb.getD k 0 = y at *
  generalize Dig.val (la.take k) = p at *
  generalize Dig.val (lb.take k) = q at *
  generalize 256 ^ k = P at *
  constructor
  · intro h
    by_cases hxy : x < y
    · exact hxy
    · have h1 : P * (y + 256 * s + 1) ≤ P * (x + 256 * s) := Nat.mul_le_mul_left _ (by omega)
      rw [Nat.mul_add, Nat.mul_one] at h1
      omega
  · intro h
    have h1 : P * (x + 256 * s + 1) ≤ P * (y + 256 * s) := Nat.mul_le_mul_left _ (by omega)
    rw [Nat.mul_add, Nat.mul_one] at h1
    omega
/-- the loop of less -/
def LessRel (w : World) (la lb : List Nat) (i : Value) (wr : World) : Prop := ∃ k : Nat, k ≤ la.length ∧ i = .int .i64 ((k : Int) - 1) ∧ la.drop k = lb.drop k ∧ Fresh w wr
set_option maxRecDepth 100000 in
set_option maxHeartbeats 2000000 in
theorem less_c (va vb : Value) (x y : Nat) (w : World) (ha : SlI w va (Dig.dig x)) (hb : SlI w vb (Dig.dig y)) :
    Calls Try.prog 66 #[va, vb] w fun e w' => e = .returned (.bool (decide (x < y))) ∧ Fresh w w' := by
  obtain ⟨la, hla⟩ : ∃ la, la = Dig.dig x := ⟨_, rfl⟩
  obtain ⟨lb, hlb⟩ : ∃ lb, lb = Dig.dig y := ⟨_, rfl⟩
  have HX : Hid (Dig.val la = x) := Lib.hid (by rw [hla, Dig.val_dig])
  have HY : Hid (Dig.val lb = y) := Lib.hid (by rw [hlb, Dig.val_dig])
  have HSA : Hid (Dig.Small la) := Lib.hid (by rw [hla]; exact Dig.small_dig x)
  have HSB : Hid (Dig.Small lb) := Lib.hid (by rw [hlb]; exact Dig.small_dig y)
  have HLT : Hid (¬ la.length = lb.length → decide (x < y) = decide (la.length < lb.length)) := Lib.hid (by
    intro hne
    rw [hla, hlb] at hne ⊢
    by_cases h : (Dig.dig x).length < (Dig.dig y).length
    · rw [decide_eq_true h, decide_eq_true (dig_len_lt h)]
    · rw [decide_eq_false h, decide_eq_false]
      intro hxy
      have := dig_len_lt (x := y) (y := x) (by omega)
      omega)
  rw [← hla] at ha
  rw [← hlb] at hb
  have HA := Lib.hid ha
  have HBB := Lib.hid hb
  obtain ⟨pa, ca, rfl⟩ := ha.shape
  obtain ⟨pb, cb, rfl⟩ := hb.shape
  have hml : la.length ≤ maxLen := ha.len_le
  simp only [maxLen] at hml
  clear ha hb hla hlb
  go_enter Try.func66, Try.ntmps66
  by_cases hlen : la.length = lb.length
  · have il : (la.length : Int) = lb.length := by omega
    go_wp2_with fail
    go_loopw [5] (fun i wr => LessRel w la lb i wr) (fun i _ => (intOf i + 1).toNat)
    case atStart =>
      exact ⟨lb.length, by omega, rfl, by rw [List.drop_eq_nil_of_le (by omega), List.drop_eq_nil_of_le (Nat.le_refl _)], Keeps.refl _ w⟩
    case round =>
      obtain ⟨k, hk, rfl, hdrop, hf⟩ := hrel
      have HD := Lib.hid hdrop
      have HF := Lib.hid hf
      clear hdrop hf
      rcases Nat.eq_zero_or_pos k with hk0 | hk0
      · have HK := Lib.hid hk0
        have ik : ¬ (0 : Int) ≤ (k : Int) - 1 := by omega
        clear hk0
        go_wp2_with fail
        go_ret
        have h := HD.out
        rw [HK.out, List.drop_zero, List.drop_zero] at h
        have hfin : decide (x < y) = false := decide_eq_false (by rw [← HX.out, ← HY.out, h]; exact Nat.lt_irrefl _)
        exact ⟨congrArg (fun b => Ending.returned (Value.bool b)) hfin.symm, HF.out⟩
      · obtain ⟨j, rfl⟩ : ∃ j, k = j + 1 := ⟨k - 1, by omega⟩
        have hj : j < la.length := by omega
        have hjb : j < lb.length := by omega
        obtain ⟨ba, oa, xa, ea, -, -, hba, hca⟩ := HA.out.form (by omega)
        obtain ⟨rfl, rfl⟩ : pa = some ⟨ba, oa, none⟩ ∧ ca = xa := by injection ea with a1 a2 a3; exact ⟨a1, a3⟩
        obtain ⟨bb, ob, xb, eb, -, -, hbb, hcb⟩ := HBB.out.form (by omega)
        obtain ⟨rfl, rfl⟩ : pb = some ⟨bb, ob, none⟩ ∧ cb = xb := by injection eb with a1 a2 a3; exact ⟨a1, a3⟩
        obtain ⟨dx, hdx⟩ : ∃ d, d = la.getD j 0 := ⟨_, rfl⟩
        obtain ⟨dy, hdy⟩ : ∃ d, d = lb.getD j 0 := ⟨_, rfl⟩
        have cx : wr.cell? ⟨ba, oa + j, none⟩ = some (.int .i64 (dx : Int)) := by rw [hdx]; exact HF.out.cellAt (hca j hj) (fun x => x)
        have cy : wr.cell? ⟨bb, ob + j, none⟩ = some (.int .i64 (dy : Int)) := by rw [hdy]; exact HF.out.cellAt (hcb j hjb) (fun x => x)
        have HDX := Lib.hid hdx
        have HDY := Lib.hid hdy
        have ij : ((j + 1 : Nat) : Int) - 1 = j := by omega
        have ia : (j : Int) < la.length := by omega
        have ib : (j : Int) < lb.length := by omega
        rw [ij]
        clear ea eb hca hcb hdx hdy hk0 hk
        by_cases hde : dx = dy
        · subst hde
          go_wp2_with fail
          go_quiet (fail)
          go_wp2_with fail
          refine ⟨⟨j, by omega, rfl, ?_, HF.out.drewN _⟩, by simp [intOf]⟩
          rw [List.drop_eq_getElem_cons hj, List.drop_eq_getElem_cons hjb, HD.out]
          congr 1
          have h1 := HDX.out
          have h2 := HDY.out
          rw [h1] at h2
          simpa [List.getD, hj, hjb] using h2
        · have HNE := Lib.hid hde
          have hdb : ((dx : Int) != dy) = true := by simp; omega
          clear hde
          go_wp2_with fail
          go_quiet (fail)
          go_wp2_with fail
          go_quiet (fail)
          go_wp2_with fail
          go_ret
          have hfin : decide (x < y) = decide (dx < dy) := by
            have h1 := HDX.out
            have h2 := HDY.out
            have h3 := cmp_digits la lb j HSA.out HSB.out hlen hj HD.out (by rw [← h1, ← h2]; exact HNE.out)
            rw [HX.out, HY.out, ← h1, ← h2] at h3
            exact decide_eq_decide.2 h3
          exact ⟨congrArg (fun b => Ending.returned (Value.bool b)) hfin.symm, (HF.out.drewN _).drewN _⟩
  · have il : ¬ (la.length : Int) = lb.length := by omega
    have HE := Lib.hid (HLT.out hlen)
    go_wp2_with fail
    go_ret
    exact ⟨congrArg (fun b => Ending.returned (Value.bool b)) HE.out.symm, Keeps.refl _ w⟩
end
section
open Go Go.RowKit
def primeL : List Nat := 251 :: (List.replicate 15 255 ++ [3])
theorem primeL_dig : primeL = Dig.dig Poly.prime := by
  have h1 : Dig.Small primeL := by
    intro d hd
    have h : ∀ d ∈ primeL, d < 256 := by decide
    exact h d hd
  have h2 : Dig.val primeL = Poly.prime := by decide
  have h3 : Dig.strip primeL = primeL := by decide
  rw [← h2, ← Dig.strip_eq_dig _ h1, h3]
def PrimeRel (w : World) (v i : Value) (wr : World) : Prop :=
  ∃ k : Nat, k ≤ 15 ∧ i = .int .i64 k ∧ OwnI wr w.heap.size v (251 :: List.replicate k 255) ∧ Fresh w wr
set_option maxRecDepth 100000 in
theorem prime_c (w : World) : Calls Try.prog 65 #[] w (RetI w (Dig.dig Poly.prime)) := by
  go_enter Try.func65, Try.ntmps65
  go_wp2_with fail
  go_loopw [1, 3] (fun v i wr => PrimeRel w v i wr) (fun _ i _ => 15 - (intOf i).toNat)
  case atStart => exact ⟨0, by omega, rfl, World.ownsRow_lit w #[.int .i64 251] 1 (Nat.le_refl _) (by decide) rfl, (Keeps.refl _ w).alloc _⟩
  case round =>
    obtain ⟨k, hk, rfl, hown, hf⟩ := hrel
    have HOWN := Lib.hid hown
    have HF := Lib.hid hf
    have HRL : Hid ((251 :: List.replicate k 255).length ≤ 1000000) := Lib.hid (by simp; omega)
    clear hown hf
    by_cases hlt : k < 15
    · have i1 : (k : Int) < 15 := by omega
      go_wp2_with (at_builtin; refine wpList_appI rfl (.tmp 5) (.tmp 6) rfl w.heap.size _ (251 :: List.replicate k 255) 255 wr.heap.size rfl rfl (OwnI.kept HOWN.out ((Keeps.refl (fun _ => False) wr).alloc _) (fun _ _ h => h)) (heap_alloc_new wr _) HRL.out (by have := HF.out.size; simp; omega) ?_; intro v' w1 HO HK)
      refine ⟨⟨k + 1, by omega, by go_num, ?_, HF.out.then (((Keeps.refl _ wr).alloc _).trans HK.out) (fun q hq h => by omega)⟩, by simp [intOf]; omega⟩
      have h := HO.out
      rw [List.cons_append, ← List.replicate_succ'] at h
      exact h
    · have K15 := Lib.hid (show k = 15 by omega)
      have i1 : ¬ (k : Int) < 15 := by omega
      go_wp2_with (at_builtin; refine wpList_appI rfl (.tmp 9) (.tmp 10) rfl w.heap.size _ (251 :: List.replicate k 255) 3 wr.heap.size rfl rfl (OwnI.kept HOWN.out ((Keeps.refl (fun _ => False) wr).alloc _) (fun _ _ h => h)) (heap_alloc_new wr _) HRL.out (by have := HF.out.size; simp; omega) ?_; intro v' w1 HO HK)
      go_ret
      refine ⟨_, rfl, ?_, HF.out.then (((Keeps.refl _ wr).alloc _).trans HK.out) (fun q hq h => by omega)⟩
      have h := HO.out.sl
      rw [K15.out] at h
      rw [← primeL_dig]
      exact h
end
section
open Go Go.RowKit
theorem OwnI.set {w : World} {base g n cap : Nat} {l : List Nat} (h : OwnI w base (.slice (some ⟨g, 0, none⟩) n cap) l) (i x : Nat) :
    OwnI (w.setCell ⟨g, i, none⟩ (.int .i64 (x : Int))) base (.slice (some ⟨g, 0, none⟩) n cap) (l.set i x) := by
  obtain ⟨h1, h2⟩ := h
  refine ⟨by rw [valsI_len, Nat.mul_one], ?_⟩
  rcases h2 with ⟨hv, _⟩ | ⟨g', cap', cur, hv, hb, hg, e1, e2, e3, e4⟩
  · cases hv
  · injection hv with a1 a2 a3
    cases a1
    subst a3
    rw [List.length_set]
    refine Or.inr ⟨g, cap, cur.setIfInBounds i (.int .i64 (x : Int)), by rw [a2], hb, block_set hg, e1, e2, by rw [Array.size_setIfInBounds]; exact e3, ?_⟩
    rw [Array.toList_setIfInBounds, List.take_set, e4]
    unfold valsI
    rw [List.map_set]
theorem OwnI.free {w : World} {base g n cap : Nat} {l : List Nat} (h : OwnI w base (.slice (some ⟨g, 0, none⟩) n cap) l) (i : Nat) : w.frozen? ⟨g, i, none⟩ = false := by
  rcases h.2 with ⟨hv, _⟩ | ⟨g', cap', cur, hv, hb, hg, _⟩
  · cases hv
  · cases hv
    exact free_block hg i
theorem OwnI.cell {w : World} {base g n cap : Nat} {l : List Nat} (h : OwnI w base (.slice (some ⟨g, 0, none⟩) n cap) l) (i : Nat) (hi : i < l.length) : w.cell? ⟨g, i, none⟩ = some (.int .i64 ((l.getD i 0 : Nat) : Int)) := by
  rcases h.sl with ⟨hv, _⟩ | ⟨ad, c, hv, _, _, hc⟩
  · cases hv
  · cases hv
    have := hc i _ (valsI_get hi)
    rwa [Addr.add_lit, Nat.zero_add] at this
theorem val_set : ∀ (l : List Nat) (p d : Nat), p < l.length → Dig.val (l.set p d) + 256 ^ p * l.getD p 0 = Dig.val l + 256 ^ p * d := by
  intro l
  induction l with
  | nil => intro p d h; simp at h
  | cons x l ih =>
    intro p d h
    cases p with
    | zero => simp [Dig.val]; omega
    | succ p =>
      have := ih p d (by simpa using h)
      simp only [List.set_cons_succ, Dig.val, List.getD_cons_succ, Nat.pow_succ]
      rw [Nat.mul_right_comm, Nat.mul_right_comm (256 ^ p) 256 d]
      omega
theorem small_set {l : List Nat} (h : Dig.Small l) (p d : Nat) (hd : d < 256) : Dig.Small (l.set p d) := by
  intro x hx
  rcases List.mem_or_eq_of_mem_set hx with hx | rfl
  · exact h x hx
  · exact hd
theorem val_zeroN (n : Nat) : Dig.val (List.replicate n 0) = 0 := by
  induction n with
  | zero => rfl
  | succ n ih => rw [List.replicate_succ]; simp only [Dig.val, ih]
theorem made_zero (n : Nat) : (madeCells (Value.int .i64 0).cells (n * 1)).toList = valsI (List.replicate n 0) := by
  rw [Nat.mul_one]
  apply List.ext_getElem?
  intro i
  simp only [madeCells, valsI, Value.cells, List.map_replicate, List.getElem?_replicate]
  by_cases h : i < n
  · simp [h, Nat.mod_one]
  · simp [h]
/-- the outer loop of times -/
def TmOut (w : World) (la lb : List Nat) (i : Value) (wr : World) : Prop :=
  ∃ (k : Nat) (o : List Nat), k ≤ la.length ∧ i = .int .i64 k ∧ o.length = la.length + lb.length + 1 ∧ Dig.Small o ∧ Dig.val o = Dig.val (la.take k) * Dig.val lb ∧
    OwnI wr w.heap.size (.slice (some ⟨w.heap.size, 0, none⟩) (la.length + lb.length + 1) (la.length + lb.length + 1)) o ∧ Fresh w wr
/-- the inner loop of times -/
def TmIn (w : World) (la lb : List Nat) (i x : Nat) (q j : Value) (wr : World) : Prop :=
  ∃ (k c : Nat) (o : List Nat), k ≤ lb.length + 1 ∧ j = .int .i64 k ∧ q = .int .i64 c ∧ c ≤ 255 ∧ o.length = la.length + lb.length + 1 ∧ Dig.Small o ∧
    Dig.val o + 256 ^ (i + k) * c = Dig.val (la.take i) * Dig.val lb + 256 ^ i * (x * Dig.val (lb.take k)) ∧
    OwnI wr w.heap.size (.slice (some ⟨w.heap.size, 0, none⟩) (la.length + lb.length + 1) (la.length + lb.length + 1)) o ∧ Fresh w wr
/-- where a carry is left, there is room for it -/
theorem tm_room {la lb o : List Nat} {i k c x : Nat} (hsa : Dig.Small la) (hsb : Dig.Small lb) (hi : i < la.length) (hx : x = la.getD i 0) (hk : lb.length ≤ k) (hc : 0 < c)
    (hv : Dig.val o + 256 ^ (i + k) * c = Dig.val (la.take i) * Dig.val lb + 256 ^ i * (x * Dig.val (lb.take k))) : k ≤ lb.length := by
  have e : Dig.val (la.take (i + 1)) * Dig.val lb = Dig.val (la.take i) * Dig.val lb + 256 ^ i * (x * Dig.val lb) := by
    rw [val_take_succ la i hi, ← hx, Nat.add_mul, Nat.mul_assoc]
  rw [List.take_of_length_le hk, ← e] at hv
  have h1 : Dig.val (la.take (i + 1)) < 256 ^ (i + 1) := by
    have := Dig.val_lt (la.take (i + 1)) (fun d hd => hsa d (List.mem_of_mem_take hd))
    rwa [List.length_take, Nat.min_eq_left (by omega)] at this
  have h2 := Dig.val_lt lb hsb
  have h3 : Dig.val (la.take (i + 1)) * Dig.val lb < 256 ^ (i + 1) * 256 ^ lb.length := by
    rcases Nat.eq_zero_or_pos (Dig.val lb) with h0 | h0
    · rw [h0, Nat.mul_zero]; exact Nat.mul_pos (Nat.pow_pos (by decide)) (Nat.pow_pos (by decide))
    · exact Nat.mul_lt_mul'' h1 h2
  rw [← Nat.pow_add] at h3
  have h4 : 256 ^ (i + k) ≤ 256 ^ (i + k) * c := Nat.le_mul_of_pos_right _ hc
  have h5 : 256 ^ (i + k) < 256 ^ (i + 1 + lb.length) := by omega
  have := (Nat.pow_lt_pow_iff_right (by decide : 1 < 256)).1 h5
  omega
theorem tm_step {la lb o : List Nat} {i k c x y : Nat} (hp : i + k < o.length) (hv : Dig.val o + 256 ^ (i + k) * c = Dig.val (la.take i) * Dig.val lb + 256 ^ i * (x * Dig.val (lb.take k)))
    (hy : Dig.val (lb.take (k + 1)) = Dig.val (lb.take k) + 256 ^ k * y) :
    Dig.val (o.set (i + k) ((c + o.getD (i + k) 0 + x * y) % 256)) + 256 ^ (i + (k + 1)) * ((c + o.getD (i + k) 0 + x * y) / 256) = Dig.val (la.take i) * Dig.val lb + 256 ^ i * (x * Dig.val (lb.take (k + 1))) := by
  have hs := val_set o (i + k) ((c + o.getD (i + k) 0 + x * y) % 256) hp
  have hdm := Nat.div_add_mod (c + o.getD (i + k) 0 + x * y) 256
  rw [hy, show i + (k + 1) = i + k + 1 from rfl, Nat.pow_succ]
  have e2 : 256 ^ i * (x * (Dig.val (lb.take k) + 256 ^ k * y)) = 256 ^ i * (x * Dig.val (lb.take k)) + 256 ^ (i + k) * (x * y) := by
    rw [Nat.mul_add x, Nat.mul_add, Nat.pow_add]
    congr 1
    rw [Nat.mul_assoc, Nat.mul_left_comm x]
  rw [e2]
  generalize Dig.val (o.set (i + k) ((c + o.getD (i + k) 0 + x * y) % 256)) = V at *
  generalize 256 ^ (i + k) = P at *
  generalize o.getD (i + k) 0 = z at *
  generalize x * y = t at *
  generalize (c + z + t) / 256 = D at *
  generalize (c + z + t) % 256 = M at *
  have e1 : P * M + P * 256 * D = P * (c + z + t) := by rw [Nat.mul_assoc, ← Nat.mul_add, Nat.add_comm, hdm]
  rw [Nat.mul_add, Nat.mul_add] at e1
  omega
end
section
open Go Go.RowKit
theorem tm_next {w w1 : World} {la lb o : List Nat} {i k c x y : Nat} (hk : k ≤ lb.length) (ho : o.length = la.length + lb.length + 1) (hsm : Dig.Small o) (hi : i < la.length)
    (hv : Dig.val o + 256 ^ (i + k) * c = Dig.val (la.take i) * Dig.val lb + 256 ^ i * (x * Dig.val (lb.take k))) (hc : c ≤ 255) (hx : x < 256) (hyy : y < 256)
    (hy : Dig.val (lb.take (k + 1)) = Dig.val (lb.take k) + 256 ^ k * y)
    (hown : OwnI w1 w.heap.size (.slice (some ⟨w.heap.size, 0, none⟩) (la.length + lb.length + 1) (la.length + lb.length + 1)) (o.set (i + k) ((c + o.getD (i + k) 0 + x * y) % 256))) (hf : Fresh w w1) :
    TmIn w la lb i x (.int .i64 (((c + o.getD (i + k) 0 + x * y) / 256 : Nat) : Int)) (.int .i64 ((k : Int) + 1)) w1 := by
  have hz := small_getD hsm (i + k)
  have hxy : x * y ≤ 255 * 255 := Nat.mul_le_mul (by omega) (by omega)
  exact ⟨k + 1, _, _, by omega, rfl, rfl, by omega, by rw [List.length_set]; exact ho, small_set hsm _ _ (Nat.mod_lt _ (by decide)), tm_step (by omega) hv hy, hown, hf⟩
set_option maxRecDepth 100000 in
set_option maxHeartbeats 2000000 in
theorem times_c (va vb : Value) (la lb : List Nat) (w : World) (ha : SlI w va la) (hb : SlI w vb lb) (hsa : Dig.Small la) (hsb : Dig.Small lb) (hla : la.length ≤ 100000) (hlb : lb.length ≤ 100000) :
    Calls Try.prog 47 #[va, vb] w (RetI w (Dig.dig (Dig.val la * Dig.val lb))) := by
  have HA := Lib.hid ha
  have HBB := Lib.hid hb
  have HSA := Lib.hid hsa
  have HSB := Lib.hid hsb
  obtain ⟨pa, ca, rfl⟩ := ha.shape
  obtain ⟨pb, cb, rfl⟩ := hb.shape
  obtain ⟨i0, hi0, hz0, hz1, hz2⟩ := info_parts infoInt
  clear ha hb hsa hsb
  go_enter Try.func47, Try.ntmps47
  go_wp2_with (refine wpList_make_full _ rfl (.tmp 15) (.tmp 15) 88 rfl w.heap.size 3 i0 (.int .i64 0) 1 Try.underlying88 hi0 hz0 hz1 .i64 .i64 _ _ (la.length + lb.length + 1) rfl rfl (by simp) (by simp) (by rw [hz2]; omega) (by unfold maxLen; omega) (Nat.le_refl _) ?_; intro w0 hown0 hgr0; have HO0 : Hid (OwnI w0 w.heap.size (.slice (some ⟨w.heap.size, 0, none⟩) (la.length + lb.length + 1) (la.length + lb.length + 1)) (List.replicate (la.length + lb.length + 1) 0)) := Lib.hid (by unfold OwnI; rw [List.length_replicate, ← made_zero]; exact hown0); have HF0 : Hid (Fresh w w0) := Lib.hid ((Keeps.refl _ w).grown hgr0 (fun k hk => by cases hk)); clear hown0 hgr0)
  go_loopw [19] (fun i wr => TmOut w la lb i wr) (fun i _ => la.length - (intOf i).toNat)
  case atStart =>
    refine ⟨0, List.replicate (la.length + lb.length + 1) 0, Nat.zero_le _, rfl, by simp, ?_, ?_, HO0.out, HF0.out⟩
    · intro d hd; rw [List.eq_of_mem_replicate hd]; decide
    · rw [val_zeroN, List.take_zero]; simp [Dig.val]
  case round =>
    obtain ⟨i, o, hi, rfl, hol, hsm, hv, hown, hf⟩ := hrel
    have HOL := Lib.hid hol
    have HSM := Lib.hid hsm
    have HV := Lib.hid hv
    have HOWN := Lib.hid hown
    have HF := Lib.hid hf
    clear hol hsm hv hown hf HO0 HF0
    by_cases hlt : i < la.length
    · obtain ⟨ba, oa, xa, ea, -, -, hba, hca⟩ := HA.out.form (by omega)
      obtain ⟨rfl, rfl⟩ : pa = some ⟨ba, oa, none⟩ ∧ ca = xa := by injection ea with a1 a2 a3; exact ⟨a1, a3⟩
      obtain ⟨x, hxe⟩ : ∃ x, x = la.getD i 0 := ⟨_, rfl⟩
      have cx : wr.cell? ⟨ba, oa + i, none⟩ = some (.int .i64 (x : Int)) := by rw [hxe]; exact HF.out.cellAt (hca i hlt) (fun x => x)
      have hxs : x < 256 := by rw [hxe]; exact small_getD HSA.out i
      have HXE := Lib.hid hxe
      have ia : (i : Int) < la.length := by omega
      clear ea hca hxe
      obtain ⟨w2, hw2⟩ : ∃ w2, w2 = wr := ⟨_, rfl⟩
      subst hw2
      go_wp2_with fail
      go_loopw [8, 9] (fun q j wr => TmIn w la lb i x q j wr) (fun _ j _ => lb.length + 2 - (intOf j).toNat)
      case atStart =>
        refine ⟨0, 0, o, by omega, rfl, rfl, by omega, HOL.out, HSM.out, ?_, HOWN.out, HF.out⟩
        rw [HV.out, List.take_zero]; simp [Dig.val]
      case round =>
        obtain ⟨k, c, o', hk, rfl, rfl, hc, hol, hsm, hv, hown, hf⟩ := hrel
        have HOL' := Lib.hid hol
        have HSM' := Lib.hid hsm
        have HV' := Lib.hid hv
        have HOWN' := Lib.hid hown
        have HF' := Lib.hid hf
        have hltg : w.heap.size < wr.heap.size := World.block_lt_of_cell? wr _ (hown.cell 0 (by rw [hol]; omega))
        clear hol hsm hv hown hf
        by_cases hkb : k < lb.length
        · obtain ⟨bb, ob, xb, eb, -, -, hbb, hcb⟩ := HBB.out.form (by omega)
          obtain ⟨rfl, rfl⟩ : pb = some ⟨bb, ob, none⟩ ∧ cb = xb := by injection eb with a1 a2 a3; exact ⟨a1, a3⟩
          obtain ⟨y, hye⟩ : ∃ y, y = lb.getD k 0 := ⟨_, rfl⟩
          have cy : wr.cell? ⟨bb, ob + k, none⟩ = some (.int .i64 (y : Int)) := by rw [hye]; exact HF'.out.cellAt (hcb k hkb) (fun x => x)
          have hys : y < 256 := by rw [hye]; exact small_getD HSB.out k
          have HY : Hid (Dig.val (lb.take (k + 1)) = Dig.val (lb.take k) + 256 ^ k * y) := Lib.hid (by rw [hye]; exact val_take_succ lb k hkb)
          obtain ⟨z, hz⟩ : ∃ z, z = o'.getD (i + k) 0 := ⟨_, rfl⟩
          have cz : wr.cell? ⟨w.heap.size, i + k, none⟩ = some (.int .i64 (z : Int)) := by rw [hz]; exact HOWN'.out.cell (i + k) (by rw [HOL'.out]; omega)
          have fz : wr.frozen? ⟨w.heap.size, i + k, none⟩ = false := HOWN'.out.free _
          have hzs : z < 256 := by rw [hz]; exact small_getD HSM'.out _
          have HZ := Lib.hid hz
          have ib : (k : Int) < lb.length := by omega
          have iz : (i : Int) + k < (la.length + lb.length + 1 : Nat) := by omega
          have hxy : x * y ≤ 255 * 255 := Nat.mul_le_mul (by omega) (by omega)
          have hxy' : (x : Int) * y ≤ 65025 := by have := Int.ofNat_le.2 hxy; simpa using this
          have hxy0 : (0 : Int) ≤ (x : Int) * y := by have := Int.natCast_nonneg (x * y); simpa using this
          clear eb hcb hye hz
          go_wp2_with fail
          have hn : ((c + z + x * y : Nat) : Int) = (c : Int) + z + x * y := by simp
          have hq : ((c : Int) + z + x * y) / 256 = (((c + z + x * y) / 256 : Nat) : Int) := by rw [← hn]; generalize c + z + x * y = n; omega
          have hr : ((c : Int) + z + x * y) % 256 = (((c + z + x * y) % 256 : Nat) : Int) := by rw [← hn]; generalize c + z + x * y = n; omega
          refine ⟨?rel, ?measure⟩
          case rel =>
            rw [hq, hr, HZ.out]
            exact tm_next (by omega) HOL'.out HSM'.out hlt HV'.out hc hxs hys HY.out (HOWN'.out.set _ _) (HF'.out.setCell (Or.inr (Nat.le_refl _)) _)
          case measure => simp [intOf]; omega
        · have hyz : Dig.val (lb.take (k + 1)) = Dig.val (lb.take k) + 256 ^ k * 0 := by rw [val_take_over lb k (by omega), Nat.mul_zero, Nat.add_zero]
          have HY := Lib.hid hyz
          have ib : ¬ (k : Int) < lb.length := by omega
          clear hyz
          by_cases hc0 : c = 0
          · have HC0 := Lib.hid hc0
            have icz : ¬ (0 : Int) < c := by omega
            clear hc0
            go_wp2_with fail
            refine ⟨⟨i + 1, o', by omega, by go_num, HOL'.out, HSM'.out, ?_, HOWN'.out, HF'.out⟩, by simp [intOf]; omega⟩
            have hv := HV'.out
            rw [HC0.out, Nat.mul_zero, Nat.add_zero, List.take_of_length_le (Nat.le_of_not_lt hkb)] at hv
            rw [hv, val_take_succ la i hlt, ← HXE.out, Nat.add_mul, Nat.mul_assoc]
          · have hkle := tm_room HSA.out HSB.out hlt HXE.out (Nat.le_of_not_lt hkb) (Nat.pos_of_ne_zero hc0) HV'.out
            obtain ⟨z, hz⟩ : ∃ z, z = o'.getD (i + k) 0 := ⟨_, rfl⟩
            have cz : wr.cell? ⟨w.heap.size, i + k, none⟩ = some (.int .i64 (z : Int)) := by rw [hz]; exact HOWN'.out.cell (i + k) (by rw [HOL'.out]; omega)
            have fz : wr.frozen? ⟨w.heap.size, i + k, none⟩ = false := HOWN'.out.free _
            have hzs : z < 256 := by rw [hz]; exact small_getD HSM'.out _
            have HZ := Lib.hid hz
            have icz : (0 : Int) < c := by omega
            have iz : (i : Int) + k < (la.length + lb.length + 1 : Nat) := by omega
            clear hz hc0
            go_wp2_with fail
            have hq : ((c : Int) + z) / 256 = (((c + z + x * 0) / 256 : Nat) : Int) := by rw [Nat.mul_zero]; omega
            have hr : ((c : Int) + z) % 256 = (((c + z + x * 0) % 256 : Nat) : Int) := by rw [Nat.mul_zero]; omega
            refine ⟨?rel, ?measure⟩
            case rel =>
              rw [hq, hr, HZ.out]
              exact tm_next hkle HOL'.out HSM'.out hlt HV'.out hc hxs (by decide) HY.out (HOWN'.out.set _ _) (HF'.out.setCell (Or.inr (Nat.le_refl _)) _)
            case measure => simp [intOf]; omega
    · have HI := Lib.hid (show i = la.length by omega)
      have ia : ¬ (i : Int) < la.length := by omega
      go_wp2_with fail
      refine (short_c _ _ wr HOWN.out.sl).mono ?_
      rintro e w1 ⟨v', rfl, hs', rfl⟩
      have HS' := Lib.hid hs'
      clear hs'
      go_wp2_with fail
      go_ret
      refine ⟨_, rfl, ?_, HF.out⟩
      have h := HS'.out
      have hv := HV.out
      rw [HI.out, List.take_length] at hv
      rw [Dig.strip_eq_dig _ HSM.out, hv] at h
      exact h
end
end Go.Proofs.Ytlafnkcmdnfcpaa
