/-
  Slices of ints that read as digits, owned ones, append of one digit; contracts: spec.short, spec.natural.
-/
import Derived.Test.YtdkhpehniciijaaApp
import Derived.Test.YtdkhpehniciijaaDig
import Derived.Laws.AppendOwn
namespace Go.Proofs.Ytdkhpehniciijaa
open Go Go.RowKit
def valsI (l : List Nat) : List Value := l.map fun (n : Nat) => Value.int .i64 (n : Int)
theorem valsI_len (l : List Nat) : (valsI l).length = l.length := by simp [valsI]
theorem valsI_append (l r : List Nat) : valsI (l ++ r) = valsI l ++ valsI r := by simp [valsI]
theorem valsI_one (l : List Nat) : ∀ u ∈ valsI l, u.oneCell' = true := by
  intro v hv
  obtain ⟨x, _, rfl⟩ := List.mem_map.1 hv
  rfl
theorem valsI_get {l : List Nat} {i : Nat} (h : i < l.length) : (valsI l)[i]? = some (.int .i64 ((l.getD i 0 : Nat) : Int)) := by
  simp [valsI, h]
/-- the slice value v reads as the digits l -/
def SlI (w : World) (v : Value) (l : List Nat) : Prop :=
  (v = .slice none 0 0 ∧ l = []) ∨ ∃ ad c, v = .slice (some ad) l.length c ∧ l.length ≤ c ∧ c ≤ maxLen ∧ ∀ (j : Nat) (u : Value), (valsI l)[j]? = some u → w.cell? (ad.add j) = some u
theorem SlI.nil (w : World) : SlI w (.slice none 0 0) [] := Or.inl ⟨rfl, rfl⟩
theorem SlI.shape {w : World} {v : Value} {l : List Nat} (h : SlI w v l) : ∃ p c, v = .slice p l.length c := by
  rcases h with ⟨rfl, rfl⟩ | ⟨ad, c, rfl, -⟩
  · exact ⟨_, _, rfl⟩
  · exact ⟨_, _, rfl⟩
theorem SlI.form {w : World} {v : Value} {l : List Nat} (h : SlI w v l) (hn : 0 < l.length) :
    ∃ b o c, v = .slice (some ⟨b, o, none⟩) l.length c ∧ l.length ≤ c ∧ c ≤ maxLen ∧ b < w.heap.size ∧ ∀ i, i < l.length → w.cell? ⟨b, o + i, none⟩ = some (.int .i64 ((l.getD i 0 : Nat) : Int)) := by
  rcases h with ⟨_, rfl⟩ | ⟨ad, c, rfl, h1, h2, hc⟩
  · simp at hn
  · obtain ⟨b, o, sp⟩ := ad
    have h0 := hc 0 _ (valsI_get hn)
    have hsp : sp = none := by
      cases sp with
      | none => rfl
      | some x =>
        rw [Addr.add_zero'] at h0
        unfold World.cell? at h0
        split at h0 <;> simp at h0
    subst hsp
    refine ⟨b, o, c, rfl, h1, h2, ?_, fun i hi => ?_⟩
    · have := World.block_lt_of_cell? w _ h0
      simpa [Addr.add_lit] using this
    · have := hc i _ (valsI_get hi)
      rwa [Addr.add_lit] at this
theorem SlI.of {w : World} {b o c : Nat} {l : List Nat} (h1 : l.length ≤ c) (h2 : c ≤ maxLen) (h : ∀ i, i < l.length → w.cell? ⟨b, o + i, none⟩ = some (.int .i64 ((l.getD i 0 : Nat) : Int))) : SlI w (.slice (some ⟨b, o, none⟩) l.length c) l := by
  refine Or.inr ⟨_, c, rfl, h1, h2, fun j u hu => ?_⟩
  have hj : j < l.length := by have := (List.getElem?_eq_some_iff.1 hu).1; rwa [valsI_len] at this
  rw [valsI_get hj] at hu
  rw [Addr.add_lit, h j hj, hu]
theorem SlI.fresh {w w' : World} {v : Value} {l : List Nat} (h : SlI w v l) (hk : Fresh w w') : SlI w' v l := by
  rcases h with h | ⟨ad, c, rfl, h1, h2, hc⟩
  · exact Or.inl h
  · exact Or.inr ⟨ad, c, rfl, h1, h2, fun j u hu => hk.cellAt (hc j u hu) (fun x => x)⟩
theorem SlI.len_le {w : World} {v : Value} {l : List Nat} (h : SlI w v l) : l.length ≤ maxLen := by
  rcases h with ⟨_, rfl⟩ | ⟨ad, c, _, h1, h2, _⟩
  · exact Nat.zero_le _
  · omega
/-- the slice value v owns the digits l -/
def OwnI (w : World) (base : Nat) (v : Value) (l : List Nat) : Prop := w.ownsRow base 3 1 v l.length (valsI l)
theorem OwnI.sl {w : World} {base : Nat} {v : Value} {l : List Nat} (h : OwnI w base v l) : SlI w v l := by
  rcases h.2 with ⟨hv, h0⟩ | ⟨g, cap, cur, hv, hb, hg, h1, h2, h3, h4⟩
  · exact Or.inl ⟨hv, List.eq_nil_of_length_eq_zero h0⟩
  · subst hv
    exact Or.inr ⟨⟨g, 0, none⟩, cap, rfl, h1, h2, World.ownsRow.cells h (g := g) rfl⟩
theorem OwnI.kept {S : Nat → Prop} {w w' : World} {base : Nat} {v : Value} {l : List Nat} (h : OwnI w base v l) (hk : Keeps S w w') (hs : ∀ k, base ≤ k → ¬ S k) : OwnI w' base v l := by
  obtain ⟨h1, h2⟩ := h
  refine ⟨h1, ?_⟩
  rcases h2 with h2 | ⟨g, cap, cur, rfl, hb, hg, r⟩
  · exact Or.inl h2
  · exact Or.inr ⟨g, cap, cur, rfl, hb, hk.at hg (hs g hb), r⟩
theorem infoInt : (Try.prog.info? 3).map (fun i => (i.zero, i.size, i.bytes)) = some (some (.int .i64 0), 1, 8) := by kernel_rfl
/-- append of one digit -/
theorem wpList_appI {ops : Array Oper} {rest : List Oper} {o : Oper} {a : Act} {w : World} {Q : Exit → Act → World → Prop} (hgd : o.guard = none) (s x : Operand)
    (ho : o.op = .call { callee := .builtin .append, args := #[s, x], argTypes := #[33, 33] }) (base : Nat) (v : Value) (l : List Nat) (n g : Nat)
    (hs : a.eval s = v) (hx : a.eval x = .slice (some ⟨g, 0, none⟩) 1 1) (hown : OwnI w base v l) (hg : w.heap[g]? = some (.cells #[.int .i64 (n : Int)] 3 (0, 0))) (hlen : l.length ≤ 1000000) (hbase : base ≤ w.heap.size)
    (h : ∀ v' w', Hid (OwnI w' base v' (l ++ [n])) → Hid (Keeps (fun q => base ≤ q) w w') → wpList Try.prog ops Q rest (a.put o.dst v') w') : wpList Try.prog ops Q (o :: rest) a w := by
  obtain ⟨i0, hi, hz0, hz1, hz2⟩ := info_parts infoInt
  refine wpList_append_own _ hgd s x 33 ho base 3 i0 (.int .i64 0) 1 8 Try.underlying33 hi hz0 hz1 hz2 rfl (by decide) v l.length (valsI l) hs hown ⟨g, 0, none⟩ 1 1 (valsI [n]) hx rfl ?_ (valsI_one _) (by unfold maxLen; omega) (by omega) hbase ?_
  · intro j u hu
    have hj : j = 0 := by have := (List.getElem?_eq_some_iff.1 hu).1; rw [valsI_len] at this; simp at this; omega
    subst hj
    rw [Addr.add_lit, Nat.zero_add, cell_block hg]
    exact hu
  · intro v' w' h1 h2 _
    refine h v' w' (Lib.hid ?_) (Lib.hid ((Keeps.refl _ w).grown h2 (fun k hk => Or.inl (World.ownsRow.lt hown k hk).1)))
    unfold OwnI
    rw [List.length_append, valsI_append]
    exact h1
theorem strip_snoc_zero (l : List Nat) : Dig.strip (l ++ [0]) = Dig.strip l := by
  induction l with
  | nil => rfl
  | cons d r ih => simp only [List.cons_append, Dig.strip]; rw [ih]
theorem strip_snoc_pos (l : List Nat) (d : Nat) (h : d ≠ 0) : Dig.strip (l ++ [d]) = l ++ [d] := by
  induction l with
  | nil => simp [Dig.strip, h]
  | cons x r ih =>
    simp only [List.cons_append, Dig.strip]
    rw [ih]
    cases r <;> rfl
/-- the loop of short -/
def ShortRel (w : World) (l : List Nat) (v : Value) (wr : World) : Prop := ∃ m, SlI wr v m ∧ Dig.strip m = Dig.strip l ∧ wr = w
def lenI : Value → Nat
  | .slice _ n _ => n
  | _ => 0
set_option maxRecDepth 100000 in
theorem short_c (v : Value) (l : List Nat) (w : World) (hs : SlI w v l) :
    Calls Try.prog 35 #[v] w fun e w' => ∃ v', e = .returned v' ∧ SlI w v' (Dig.strip l) ∧ w' = w := by
  have HS := Lib.hid hs
  clear hs
  go_enter Try.func35, Try.ntmps35
  go_wp2_with fail
  go_loopw [0] (fun v wr => ShortRel w l v wr) (fun v _ => lenI v)
  case atStart => exact ⟨l, HS.out, rfl, rfl⟩
  case round =>
    obtain ⟨m, hm, he, rfl⟩ := hrel
    have HM := Lib.hid hm
    have HE := Lib.hid he
    clear hm he HS
    rcases List.eq_nil_or_concat m with rfl | ⟨m', d, rfl⟩
    · obtain ⟨p, c, rfl⟩ := HM.out.shape
      go_wp2_with fail
      go_ret
      refine ⟨_, rfl, ?_, rfl⟩
      rw [← HE.out]
      exact HM.out
    · rw [List.concat_eq_append] at HM HE
      obtain ⟨b, o, c, rfl, hlc, hmx, hbl, hc⟩ := HM.out.form (by simp)
      have hlen : (m' ++ [d]).length = m'.length + 1 := by simp
      have cd : wr.cell? ⟨b, o + m'.length, none⟩ = some (.int .i64 (d : Int)) := by
        have := hc m'.length (by simp)
        simpa [List.getD] using this
      have HC := Lib.hid hc
      rw [hlen] at hlc ⊢
      have hsmall : (m'.length : Int) + 1 ≤ 9223372036854775807 := by simp only [maxLen] at hmx; omega
      have e1 : ((m'.length + 1 : Nat) : Int) - 1 = m'.length := by omega
      clear hc
      by_cases hd : d = 0
      · subst hd
        go_wp2_with fail
        refine ⟨⟨m', ?_, by rw [← HE.out, strip_snoc_zero], rfl⟩, Nat.lt_succ_self _⟩
        refine SlI.of (by omega) hmx (fun i hi => ?_)
        have := HC.out i (by simp; omega)
        rw [this]
        simp [List.getD, List.getElem?_append_left hi]
      · have HD := Lib.hid hd
        have hdb : ((d : Int) == 0) = false := by simp [hd]
        clear hd
        go_wp2_with fail
        go_ret
        refine ⟨_, rfl, ?_, rfl⟩
        rw [← HE.out, strip_snoc_pos _ _ HD.out]
        have h := HM.out
        rw [hlen] at h
        exact h
end Go.Proofs.Ytdkhpehniciijaa
