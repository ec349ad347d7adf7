/-
  Contract: spec.times.
-/
import Derived.Test.YtdkhpehniciijaaNatural
import Derived.OwnWalk
namespace Go.Proofs.Ytdkhpehniciijaa
open Go Go.RowKit
theorem OwnI.set {w : World} {base g n cap : Nat} {l : List Nat} (h : OwnI w base (.slice (some ⟨g, 0, none⟩) n cap) l) (i x : Nat) :
    OwnI (w.setCell ⟨g, i, none⟩ (.int .i64 (x : Int))) base (.slice (some ⟨g, 0, none⟩) n cap) (l.set i x) := by
  obtain ⟨h1, h2⟩ := h
  refine ⟨by rw [valsI_len, Nat.mul_one], ?_⟩
  rcases h2 with ⟨hv, _⟩ | ⟨g', cap', cur, hv, hb, hg, e1, e2, e3, e4⟩
  · cases hv
  · injection hv with a1 a2 a3
    cases a1
    subst a3
    rw [List.length_set]
    refine Or.inr ⟨g, cap, cur.setIfInBounds i (.int .i64 (x : Int)), by rw [a2], hb, block_set hg, e1, e2, by rw [Array.size_setIfInBounds]; exact e3, ?_⟩
    rw [Array.toList_setIfInBounds, List.take_set, e4]
    unfold valsI
    rw [List.map_set]
theorem OwnI.free {w : World} {base g n cap : Nat} {l : List Nat} (h : OwnI w base (.slice (some ⟨g, 0, none⟩) n cap) l) (i : Nat) : w.frozen? ⟨g, i, none⟩ = false := by
  rcases h.2 with ⟨hv, _⟩ | ⟨g', cap', cur, hv, hb, hg, _⟩
  · cases hv
  · cases hv
    exact free_block hg i
theorem OwnI.cell {w : World} {base g n cap : Nat} {l : List Nat} (h : OwnI w base (.slice (some ⟨g, 0, none⟩) n cap) l) (i : Nat) (hi : i < l.length) : w.cell? ⟨g, i, none⟩ = some (.int .i64 ((l.getD i 0 : Nat) : Int)) := by
  rcases h.sl with ⟨hv, _⟩ | ⟨ad, c, hv, _, _, hc⟩
  · cases hv
  · cases hv
    have := hc i _ (valsI_get hi)
    rwa [Addr.add_lit, Nat.zero_add] at this
theorem val_set : ∀ (l : List Nat) (p d : Nat), p < l.length → Dig.val (l.set p d) + 256 ^ p * l.getD p 0 = Dig.val l + 256 ^ p * d := by
  intro l
  induction l with
  | nil => intro p d h; simp at h
  | cons x l ih =>
    intro p d h
    cases p with
    | zero => simp [Dig.val]; omega
    | succ p =>
      have := ih p d (by simpa using h)
      simp only [List.set_cons_succ, Dig.val, List.getD_cons_succ, Nat.pow_succ]
      rw [Nat.mul_right_comm, Nat.mul_right_comm (256 ^ p) 256 d]
      omega
theorem small_set {l : List Nat} (h : Dig.Small l) (p d : Nat) (hd : d < 256) : Dig.Small (l.set p d) := by
  intro x hx
  rcases List.mem_or_eq_of_mem_set hx with hx | rfl
  · exact h x hx
  · exact hd
theorem val_zeroN (n : Nat) : Dig.val (List.replicate n 0) = 0 := by
  induction n with
  | zero => rfl
  | succ n ih => rw [List.replicate_succ]; simp only [Dig.val, ih]
theorem made_zero (n : Nat) : (madeCells (Value.int .i64 0).cells (n * 1)).toList = valsI (List.replicate n 0) := by
  rw [Nat.mul_one]
  apply List.ext_getElem?
  intro i
  simp only [madeCells, valsI, Value.cells, List.map_replicate, List.getElem?_replicate]
  by_cases h : i < n
  · simp [h, Nat.mod_one]
  · simp [h]
/-- the outer loop of times -/
def TmOut (w : World) (la lb : List Nat) (i : Value) (wr : World) : Prop :=
  ∃ (k : Nat) (o : List Nat), k ≤ la.length ∧ i = .int .i64 k ∧ o.length = la.length + lb.length + 1 ∧ Dig.Small o ∧ Dig.val o = Dig.val (la.take k) * Dig.val lb ∧
    OwnI wr w.heap.size (.slice (some ⟨w.heap.size, 0, none⟩) (la.length + lb.length + 1) (la.length + lb.length + 1)) o ∧ Fresh w wr
/-- the inner loop of times -/
def TmIn (w : World) (la lb : List Nat) (i x : Nat) (q j : Value) (wr : World) : Prop :=
  ∃ (k c : Nat) (o : List Nat), k ≤ lb.length + 1 ∧ j = .int .i64 k ∧ q = .int .i64 c ∧ c ≤ 255 ∧ o.length = la.length + lb.length + 1 ∧ Dig.Small o ∧
    Dig.val o + 256 ^ (i + k) * c = Dig.val (la.take i) * Dig.val lb + 256 ^ i * (x * Dig.val (lb.take k)) ∧
    OwnI wr w.heap.size (.slice (some ⟨w.heap.size, 0, none⟩) (la.length + lb.length + 1) (la.length + lb.length + 1)) o ∧ Fresh w wr
/-- where a carry is left, there is room for it -/
theorem tm_room {la lb o : List Nat} {i k c x : Nat} (hsa : Dig.Small la) (hsb : Dig.Small lb) (hi : i < la.length) (hx : x = la.getD i 0) (hk : lb.length ≤ k) (hc : 0 < c)
    (hv : Dig.val o + 256 ^ (i + k) * c = Dig.val (la.take i) * Dig.val lb + 256 ^ i * (x * Dig.val (lb.take k))) : k ≤ lb.length := by
  have e : Dig.val (la.take (i + 1)) * Dig.val lb = Dig.val (la.take i) * Dig.val lb + 256 ^ i * (x * Dig.val lb) := by
    rw [val_take_succ la i hi, ← hx, Nat.add_mul, Nat.mul_assoc]
  rw [List.take_of_length_le hk, ← e] at hv
  have h1 : Dig.val (la.take (i + 1)) < 256 ^ (i + 1) := by
    have := Dig.val_lt (la.take (i + 1)) (fun d hd => hsa d (List.mem_of_mem_take hd))
    rwa [List.length_take, Nat.min_eq_left (by omega)] at this
  have h2 := Dig.val_lt lb hsb
  have h3 : Dig.val (la.take (i + 1)) * Dig.val lb < 256 ^ (i + 1) * 256 ^ lb.length := by
    rcases Nat.eq_zero_or_pos (Dig.val lb) with h0 | h0
    · rw [h0, Nat.mul_zero]; exact Nat.mul_pos (Nat.pow_pos (by decide)) (Nat.pow_pos (by decide))
    · exact Nat.mul_lt_mul'' h1 h2
  rw [← Nat.pow_add] at h3
  have h4 : 256 ^ (i + k) ≤ 256 ^ (i + k) * c := Nat.le_mul_of_pos_right _ hc
  have h5 : 256 ^ (i + k) < 256 ^ (i + 1 + lb.length) := by omega
  have := (Nat.pow_lt_pow_iff_right (by decide : 1 < 256)).1 h5
  omega
theorem tm_step {la lb o : List Nat} {i k c x y : Nat} (hp : i + k < o.length) (hv : Dig.val o + 256 ^ (i + k) * c = Dig.val (la.take i) * Dig.val lb + 256 ^ i * (x * Dig.val (lb.take k)))
    (hy : Dig.val (lb.take (k + 1)) = Dig.val (lb.take k) + 256 ^ k * y) :
    Dig.val (o.set (i + k) ((c + o.getD (i + k) 0 + x * y) % 256)) + 256 ^ (i + (k + 1)) * ((c + o.getD (i + k) 0 + x * y) / 256) = Dig.val (la.take i) * Dig.val lb + 256 ^ i * (x * Dig.val (lb.take (k + 1))) := by
  have hs := val_set o (i + k) ((c + o.getD (i + k) 0 + x * y) % 256) hp
  have hdm := Nat.div_add_mod (c + o.getD (i + k) 0 + x * y) 256
  rw [hy, show i + (k + 1) = i + k + 1 from rfl, Nat.pow_succ]
  have e2 : 256 ^ i * (x * (Dig.val (lb.take k) + 256 ^ k * y)) = 256 ^ i * (x * Dig.val (lb.take k)) + 256 ^ (i + k) * (x * y) := by
    rw [Nat.mul_add x, Nat.mul_add, Nat.pow_add]
    congr 1
    rw [Nat.mul_assoc, Nat.mul_left_comm x]
  rw [e2]
  generalize Dig.val (o.set (i + k) ((c + o.getD (i + k) 0 + x * y) % 256)) = V at *
  generalize 256 ^ (i + k) = P at *
  generalize o.getD (i + k) 0 = z at *
  generalize x * y = t at *
  generalize (c + z + t) / 256 = D at *
  generalize (c + z + t) % 256 = M at *
  have e1 : P * M + P * 256 * D = P * (c + z + t) := by rw [Nat.mul_assoc, ← Nat.mul_add, Nat.add_comm, hdm]
  rw [Nat.mul_add, Nat.mul_add] at e1
  omega
end Go.Proofs.Ytdkhpehniciijaa
