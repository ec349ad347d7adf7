/-
  Memory: what a call keeps, blocks known whole, blocks of bytes and of words.
-/
import Derived.Test.YtlafnkcmdnfcpaaWords
import Derived.Test.YtlafnkcmdnfcpaaTail
import Derived.Deep.Draws
import Derived.Deep.MidRow
import Derived.Lib.Hide
namespace Go.Proofs.Ytlafnkcmdnfcpaa
open Go Go.RowKit

/-- w' is w with new blocks, and with writes to those old blocks alone that S names. -/
structure Keeps (S : Nat → Prop) (w w' : World) : Prop where
  os : w'.os = w.os
  tape : w'.tape = w.tape
  output : w'.output = w.output
  size : w.heap.size ≤ w'.heap.size
  block : ∀ k, k < w.heap.size → ¬ S k → w'.heap[k]? = w.heap[k]?

theorem Keeps.refl (S : Nat → Prop) (w : World) : Keeps S w w := ⟨rfl, rfl, rfl, Nat.le_refl _, fun _ _ _ => rfl⟩
theorem Keeps.trans {S : Nat → Prop} {a b c : World} (h : Keeps S a b) (k : Keeps S b c) : Keeps S a c :=
  ⟨k.os.trans h.os, k.tape.trans h.tape, k.output.trans h.output, Nat.le_trans h.size k.size,
    fun i hi hs => (k.block i (Nat.lt_of_lt_of_le hi h.size) hs).trans (h.block i hi hs)⟩
theorem Keeps.mono {S T : Nat → Prop} {a b : World} (h : Keeps S a b) (hst : ∀ k, k < a.heap.size → S k → T k) : Keeps T a b :=
  ⟨h.os, h.tape, h.output, h.size, fun i hi hs => h.block i hi (fun hS => hs (hst i hi hS))⟩
theorem Keeps.drewN {S : Nat → Prop} {a b : World} (h : Keeps S a b) (n : Nat) : Keeps S a (b.drewN n) := ⟨h.os, h.tape, h.output, h.size, h.block⟩
theorem Keeps.drew {S : Nat → Prop} {a b : World} (h : Keeps S a b) : Keeps S a b.drew := ⟨h.os, h.tape, h.output, h.size, h.block⟩
theorem Keeps.alloc {S : Nat → Prop} {a b : World} (h : Keeps S a b) (o : Obj) : Keeps S a (b.alloc o) :=
  h.trans ⟨rfl, rfl, rfl, by simp, fun k hk _ => Below.heap_alloc _ _ _ hk⟩
/-- a store into a block that S names, or into one that is new -/
theorem Keeps.setCell {S : Nat → Prop} {a b : World} (h : Keeps S a b) {p : Addr} (hp : S p.block ∨ a.heap.size ≤ p.block) (u : Value) : Keeps S a (b.setCell p u) := by
  refine ⟨h.os, h.tape, h.output, by simpa using h.size, fun k hk hs => ?_⟩
  rw [Below.heap_setCell _ _ _ _ (by rintro rfl; rcases hp with hp | hp; exact hs hp; omega)]
  exact h.block k hk hs
theorem Keeps.own {b i : Nat} {a w : World} (h : Keeps (fun q => q = b) a w) (v : Value) : Keeps (fun q => q = b) a (w.setCell ⟨b, i, none⟩ v) := h.setCell (Or.inl rfl) v
theorem Keeps.below {S : Nat → Prop} {a b : World} (h : Keeps S a b) {B : Nat} (hB : ∀ k, k < a.heap.size → S k → B ≤ k) (hsz : B ≤ a.heap.size) : Below B a b :=
  ⟨h.os, h.tape, h.output, h.size, fun k hk => h.block k (by omega) (fun hS => by have := hB k (by omega) hS; omega)⟩
theorem Keeps.of_below {B : Nat} {a b : World} (h : Below B a b) : Keeps (fun k => B ≤ k) a b :=
  ⟨h.os, h.tape, h.output, h.size, fun k _ hs => h.block k (by omega)⟩
theorem Keeps.grown {S : Nat → Prop} {a b c : World} {row : Option Nat} (h : Keeps S a b) (hg : b.grownBy c row) (hr : ∀ k, row = some k → S k ∨ a.heap.size ≤ k) : Keeps S a c := by
  refine ⟨hg.os.trans h.os, hg.tape.trans h.tape, hg.output.trans h.output, Nat.le_trans h.size hg.size, fun k hk hs => ?_⟩
  rw [hg.block k (Nat.lt_of_lt_of_le hk h.size) (fun e => by rcases hr k e.symm with h' | h'; exact hs h'; omega)]
  exact h.block k hk hs

/-- nothing old is written -/
abbrev Fresh (w w' : World) : Prop := Keeps (fun _ => False) w w'
theorem Fresh.to {S : Nat → Prop} {w w' : World} (h : Fresh w w') : Keeps S w w' := h.mono fun _ _ hk => hk.elim
theorem Fresh.at {w w' : World} (h : Fresh w w') {k : Nat} {o : Obj} (hk : w.heap[k]? = some o) : w'.heap[k]? = some o := by
  rw [h.block k (by simpa using (Array.getElem?_eq_some_iff.1 hk).1) (fun x => x)]; exact hk
theorem Keeps.at {S : Nat → Prop} {w w' : World} (h : Keeps S w w') {k : Nat} {o : Obj} (hk : w.heap[k]? = some o) (hs : ¬ S k) : w'.heap[k]? = some o := by
  rw [h.block k (by simpa using (Array.getElem?_eq_some_iff.1 hk).1) hs]; exact hk
theorem Keeps.cellAt {S : Nat → Prop} {w w' : World} (h : Keeps S w w') {p : Addr} {v : Value} (hk : w.cell? p = some v) (hs : ¬ S p.block) : w'.cell? p = some v := by
  rw [World.cell?_of_block (h.block p.block (World.block_lt_of_cell? w p hk) hs)]; exact hk
theorem lt_of_block {w : World} {k : Nat} {o : Obj} (hk : w.heap[k]? = some o) : k < w.heap.size := (Array.getElem?_eq_some_iff.1 hk).1

@[go_sem] theorem setCell_drewN (w : World) (n : Nat) (p : Addr) (v : Value) : (w.drewN n).setCell p v = (w.setCell p v).drewN n := rfl
@[go_sem] theorem alloc_drewN (w : World) (n : Nat) (o : Obj) : (w.drewN n).alloc o = (w.alloc o).drewN n := rfl
/-- a callee that only draws, met behind other draws -/
theorem quiet_more {P : Program} {f : FuncId} {args : Array Value} {w : World} {k n : Nat} {v : Value}
    (h : Calls P f args (w.drewN (k + n)) fun e w' => e = .returned v ∧ ∃ m, w' = (w.drewN (k + n)).drewN m) :
    Calls P f args (w.drewN (k + n)) fun e w'' => e = .returned v ∧ ∃ m, w'' = w.drewN (k + m) :=
  h.mono fun _ _ ⟨he, m, hm⟩ => ⟨he, n + m, by rw [hm, World.drewN_drewN, Nat.add_assoc]⟩
section blocks
variable {w : World} {b i n : Nat} {v : Value} {cs : Array Value} {T : TypeId}
theorem block_drewN {o : Obj} (h : w.heap[b]? = some o) : (w.drewN n).heap[b]? = some o := h
theorem block_set (h : w.heap[b]? = some (.cells cs T (0, 0))) : (w.setCell ⟨b, i, none⟩ v).heap[b]? = some (.cells (cs.setIfInBounds i v) T (0, 0)) :=
  heap_setCell_same w b i cs T v h
theorem block_set_other {o : Obj} {p : Addr} (h : w.heap[b]? = some o) (hne : b ≠ p.block) : (w.setCell p v).heap[b]? = some o := by
  rw [heap_setCell_other w p b v hne]; exact h
theorem block_alloc {o o' : Obj} (h : w.heap[b]? = some o) : (w.alloc o').heap[b]? = some o := by
  rw [Below.heap_alloc w o' b (lt_of_block h)]; exact h
theorem cell_block (h : w.heap[b]? = some (.cells cs T (0, 0))) (i : Nat) : w.cell? ⟨b, i, none⟩ = cs[i]? := cell_of_row w b i cs T (0, 0) h
theorem free_block (h : w.heap[b]? = some (.cells cs T (0, 0))) (i : Nat) : w.frozen? ⟨b, i, none⟩ = false := frozen_of_row w b i cs T h
end blocks

/-- words as cells -/
def cells32 (l : List UInt32) : Array Value := (l.map fun x => Value.int .u32 (u32 x)).toArray
def cells64 (l : List UInt64) : Array Value := (l.map fun x => Value.int .u64 (u64 x)).toArray
def cells8 (l : List UInt8) : Array Value := (l.map fun x => Value.int .u8 (u8 x)).toArray
theorem cells32_size (l : List UInt32) : (cells32 l).size = l.length := by simp [cells32]
theorem cells8_size (l : List UInt8) : (cells8 l).size = l.length := by simp [cells8]
theorem cells32_get {l : List UInt32} {i : Nat} (h : i < l.length) : (cells32 l)[i]? = some (.int .u32 (u32 (l.getD i 0))) := by
  simp [cells32, h]
theorem cells8_get {l : List UInt8} {i : Nat} (h : i < l.length) : (cells8 l)[i]? = some (.int .u8 (u8 (l.getD i 0))) := by
  simp [cells8, h]
theorem cells32_set (l : List UInt32) (i : Nat) (x : UInt32) : (cells32 l).setIfInBounds i (.int .u32 (u32 x)) = cells32 (l.set i x) := by
  simp [cells32, List.map_set]
theorem cells8_set (l : List UInt8) (i : Nat) (x : UInt8) : (cells8 l).setIfInBounds i (.int .u8 (u8 x)) = cells8 (l.set i x) := by
  simp [cells8, List.map_set]
theorem one_of_map {α : Type} (f : α → Value) (hf : ∀ x, (f x).oneCell' = true) (l : List α) : (l.map f).toArray.all (·.oneCell') = true := by
  apply all_oneCell_toArray
  intro v hv
  obtain ⟨x, _, rfl⟩ := List.mem_map.1 hv
  exact hf x
theorem cells32_one (l : List UInt32) : (cells32 l).all (·.oneCell') = true := one_of_map _ (fun _ => rfl) l
theorem cells64_one (l : List UInt64) : (cells64 l).all (·.oneCell') = true := one_of_map _ (fun _ => rfl) l
theorem cells8_one (l : List UInt8) : (cells8 l).all (·.oneCell') = true := one_of_map _ (fun _ => rfl) l

/-- bytes as values -/
def vals8 (l : List UInt8) : List Value := l.map fun x => Value.int .u8 (u8 x)
theorem vals8_len (l : List UInt8) : (vals8 l).length = l.length := by simp [vals8]
theorem vals8_append (l r : List UInt8) : vals8 (l ++ r) = vals8 l ++ vals8 r := by simp [vals8]
theorem vals8_one (l : List UInt8) : ∀ u ∈ vals8 l, u.oneCell' = true := by
  intro v hv
  obtain ⟨x, _, rfl⟩ := List.mem_map.1 hv
  rfl
theorem vals8_get {l : List UInt8} {i : Nat} (h : i < l.length) : (vals8 l)[i]? = some (.int .u8 (u8 (l.getD i 0))) := by
  simp [vals8, h]
/-- the slice value v owns the bytes l, in a block of its own from 'base' on; T: the number of the type byte -/
def OwnB (T : TypeId) (w : World) (base : Nat) (v : Value) (l : List UInt8) : Prop := w.ownsRow base T 1 v l.length (vals8 l)
theorem OwnB.kept {T : TypeId} {S : Nat → Prop} {w w' : World} {base : Nat} {v : Value} {l : List UInt8} (h : OwnB T w base v l) (hk : Keeps S w w') (hs : ∀ k, base ≤ k → ¬ S k) : OwnB T w' base v l := by
  obtain ⟨h1, h2⟩ := h
  refine ⟨h1, ?_⟩
  rcases h2 with h2 | ⟨g, cap, cur, rfl, hb, hg, r⟩
  · exact Or.inl h2
  · exact Or.inr ⟨g, cap, cur, rfl, hb, hk.at hg (hs g hb), r⟩
theorem OwnB.mono {T : TypeId} {w : World} {base base' : Nat} {v : Value} {l : List UInt8} (h : OwnB T w base v l) (hb : base' ≤ base) : OwnB T w base' v l := by
  obtain ⟨h1, h2⟩ := h
  refine ⟨h1, ?_⟩
  rcases h2 with h2 | ⟨g, cap, cur, rfl, hbg, r⟩
  · exact Or.inl h2
  · exact Or.inr ⟨g, cap, cur, rfl, Nat.le_trans hb hbg, r⟩
theorem OwnB.form {T : TypeId} {w : World} {base : Nat} {v : Value} {l : List UInt8} (h : OwnB T w base v l) (hn : 0 < l.length) :
    ∃ g cap, v = .slice (some ⟨g, 0, none⟩) l.length cap ∧ base ≤ g ∧ g < w.heap.size := by
  rcases h.2 with ⟨_, h0⟩ | ⟨g, cap, cur, hv, hb, hg, _⟩
  · omega
  · exact ⟨g, cap, hv, hb, lt_of_block hg⟩
theorem OwnB.lt {T : TypeId} {w : World} {base : Nat} {v : Value} {l : List UInt8} (h : OwnB T w base v l) : ∀ k, v.ownBlock = some k → base ≤ k ∧ k < w.heap.size := World.ownsRow.lt h
/-- the slice value v reads as the bytes l -/
def SlB (w : World) (v : Value) (l : List UInt8) : Prop :=
  (v = .slice none 0 0 ∧ l = []) ∨ ∃ ad c, v = .slice (some ad) l.length c ∧ l.length ≤ c ∧ c ≤ maxLen ∧ ∀ (j : Nat) (u : Value), (vals8 l)[j]? = some u → w.cell? (ad.add j) = some u
theorem OwnB.sl {T : TypeId} {w : World} {base : Nat} {v : Value} {l : List UInt8} (h : OwnB T w base v l) : SlB w v l := by
  rcases h.2 with ⟨hv, h0⟩ | ⟨g, cap, cur, hv, hb, hg, h1, h2, h3, h4⟩
  · exact Or.inl ⟨hv, List.eq_nil_of_length_eq_zero h0⟩
  · subst hv
    exact Or.inr ⟨⟨g, 0, none⟩, cap, rfl, h1, h2, World.ownsRow.cells h (g := g) rfl⟩
/-- a slice that reads as bytes, at least one of them: where it lies -/
theorem SlB.form {w : World} {v : Value} {l : List UInt8} (h : SlB w v l) (hn : 0 < l.length) :
    ∃ b o c, v = .slice (some ⟨b, o, none⟩) l.length c ∧ l.length ≤ c ∧ c ≤ maxLen ∧ b < w.heap.size ∧ ∀ i, i < l.length → w.cell? ⟨b, o + i, none⟩ = some (.int .u8 (u8 (l.getD i 0))) := by
  rcases h with ⟨_, rfl⟩ | ⟨ad, c, rfl, h1, h2, hc⟩
  · simp at hn
  · obtain ⟨b, o, sp⟩ := ad
    have h0 := hc 0 _ (vals8_get hn)
    have hsp : sp = none := by
      cases sp with
      | none => rfl
      | some x =>
        rw [Addr.add_zero'] at h0
        unfold World.cell? at h0
        split at h0 <;> simp at h0
    subst hsp
    refine ⟨b, o, c, rfl, h1, h2, ?_, fun i hi => ?_⟩
    · have := World.block_lt_of_cell? w _ h0
      simpa [Addr.add_lit] using this
    · have := hc i _ (vals8_get hi)
      rwa [Addr.add_lit] at this
theorem SlB.nil (w : World) : SlB w (.slice none 0 0) [] := Or.inl ⟨rfl, rfl⟩
theorem SlB.of {w : World} {b o c : Nat} {l : List UInt8} (h1 : l.length ≤ c) (h2 : c ≤ maxLen) (h : ∀ i, i < l.length → w.cell? ⟨b, o + i, none⟩ = some (.int .u8 (u8 (l.getD i 0)))) : SlB w (.slice (some ⟨b, o, none⟩) l.length c) l := by
  refine Or.inr ⟨_, c, rfl, h1, h2, fun j u hu => ?_⟩
  have hj : j < l.length := by have := (List.getElem?_eq_some_iff.1 hu).1; rwa [vals8_len] at this
  rw [vals8_get hj] at hu
  rw [Addr.add_lit, h j hj, hu]
theorem SlB.keeps {S : Nat → Prop} {w w' : World} {v : Value} {l : List UInt8} (h : SlB w v l) (hk : Keeps S w w') (hs : ∀ k, v.ownBlock = some k → k < w.heap.size → ¬ S k) : SlB w' v l := by
  rcases h with h | ⟨ad, c, rfl, h1, h2, hc⟩
  · exact Or.inl h
  · refine Or.inr ⟨ad, c, rfl, h1, h2, fun j u hu => ?_⟩
    have hb : (ad.add j).block = ad.block := by unfold Addr.add; split <;> rfl
    have hlt := World.block_lt_of_cell? w _ (hc j u hu)
    rw [hb] at hlt
    exact hk.cellAt (hc j u hu) (by rw [hb]; exact hs ad.block rfl hlt)
theorem SlB.fresh {w w' : World} {v : Value} {l : List UInt8} (h : SlB w v l) (hk : Fresh w w') : SlB w' v l := h.keeps hk (fun _ _ _ h => h)

/-- what is returned owns these bytes; nothing old is written -/
def RetB (T : TypeId) (w : World) (l : List UInt8) (e : Ending) (w' : World) : Prop := ∃ v, e = .returned v ∧ OwnB T w' w.heap.size v l ∧ Fresh w w'
theorem news_at (w : World) (cs : Array Value) (T : TypeId) : ∀ (j : Nat) (u : Value), cs.toList[j]? = some u → (w.alloc (.cells cs T)).cell? ((⟨w.heap.size, 0, none⟩ : Addr).add j) = some u := by
  intro j u hj
  rw [Addr.add_lit, Nat.zero_add, World.cell?_alloc_new]
  simpa using hj

/-- a block of n cells, not frozen -/
def Room (w : World) (b : Nat) (T : TypeId) (n : Nat) : Prop := ∃ old : Array Value, old.size = n ∧ w.heap[b]? = some (.cells old T (0, 0))
theorem Room.of {w : World} {b : Nat} {T : TypeId} {n : Nat} {old : Array Value} (h : w.heap[b]? = some (.cells old T (0, 0))) (hs : old.size = n) : Room w b T n := ⟨old, hs, h⟩
theorem Room.keeps {S : Nat → Prop} {w w' : World} {b : Nat} {T : TypeId} {n : Nat} (h : Room w b T n) (hk : Keeps S w w') (hs : ¬ S b) : Room w' b T n :=
  let ⟨old, h1, h2⟩ := h
  ⟨old, h1, hk.at h2 hs⟩
theorem row_heap {w : World} {b : Nat} {T : TypeId} {cs old : Array Value} (h : w.heap[b]? = some (.cells old T (0, 0))) : (w.setRow b cs).heap[b]? = some (.cells cs T (0, 0)) := setRow_heap w b old cs T _ h
theorem Keeps.setRow {S : Nat → Prop} {a b : World} (h : Keeps S a b) {p : Nat} (hp : S p ∨ a.heap.size ≤ p) (cs : Array Value) : Keeps S a (b.setRow p cs) := by
  refine ⟨h.os, h.tape, h.output, by simpa using h.size, fun k hk hs => ?_⟩
  rw [setRow_other _ _ _ _ (by rintro rfl; rcases hp with hp | hp; exact hs hp; omega)]
  exact h.block k hk hs
/-- the frame of a callee that writes only what is new to us -/
theorem Fresh.then {S : Nat → Prop} {a b c : World} (h : Fresh a b) (k : Keeps S b c) (hS : ∀ q, q < a.heap.size → ¬ S q) : Fresh a c :=
  ⟨k.os.trans h.os, k.tape.trans h.tape, k.output.trans h.output, Nat.le_trans h.size k.size,
    fun i hi _ => (k.block i (Nat.lt_of_lt_of_le hi h.size) (hS i hi)).trans (h.block i hi (fun x => x))⟩
end Go.Proofs.Ytlafnkcmdnfcpaa
