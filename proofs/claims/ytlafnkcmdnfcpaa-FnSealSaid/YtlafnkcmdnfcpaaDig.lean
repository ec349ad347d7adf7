/-
  Plain: numbers as digits to the base 256. No program in sight.
-/
namespace Go.Proofs.Ytlafnkcmdnfcpaa.Dig
/-- the number of digits to the base 256, the lowest first -/
def val : List Nat → Nat
  | [] => 0
  | d :: r => d + 256 * val r
/-- without noughts at the end -/
def strip : List Nat → List Nat
  | [] => []
  | d :: r => match strip r with
    | [] => if d = 0 then [] else [d]
    | s => d :: s
def Small (l : List Nat) : Prop := ∀ d ∈ l, d < 256
/-- the digits of a number -/
def digF : Nat → Nat → List Nat
  | 0, _ => []
  | f + 1, n => if n = 0 then [] else n % 256 :: digF f (n / 256)
def dig (n : Nat) : List Nat := digF n n

theorem digF_enough : ∀ (f g n : Nat), n ≤ f → n ≤ g → digF f n = digF g n := by
  intro f
  induction f with
  | zero => intro g n h _; have : n = 0 := by omega
            subst this; cases g <;> simp [digF]
  | succ f ih =>
    intro g n h h'
    cases g with
    | zero => have : n = 0 := by omega
              subst this; simp [digF]
    | succ g =>
      simp only [digF]
      by_cases h0 : n = 0
      · simp [h0]
      · simp only [h0, if_false]
        rw [ih g (n / 256) (by omega) (by omega)]
theorem dig_zero : dig 0 = [] := rfl
theorem dig_pos (n : Nat) (h : 0 < n) : dig n = n % 256 :: dig (n / 256) := by
  cases n with
  | zero => omega
  | succ n =>
    show digF (n + 1) (n + 1) = _
    simp only [digF, Nat.succ_ne_zero, if_false]
    rw [digF_enough n ((n + 1) / 256) ((n + 1) / 256) (by omega) (by omega)]
    rfl
theorem val_dig (n : Nat) : val (dig n) = n := by
  induction n using Nat.strongRecOn with
  | _ n ih =>
    by_cases h : n = 0
    · subst h; rfl
    · rw [dig_pos n (by omega)]
      simp only [val]
      rw [ih (n / 256) (by omega)]
      omega
theorem small_dig (n : Nat) : Small (dig n) := by
  induction n using Nat.strongRecOn with
  | _ n ih =>
    by_cases h : n = 0
    · subst h; intro d hd; cases hd
    · rw [dig_pos n (by omega)]
      intro d hd
      rcases List.mem_cons.1 hd with rfl | hd
      · omega
      · exact ih (n / 256) (by omega) d hd
theorem strip_eq_dig (l : List Nat) (h : Small l) : strip l = dig (val l) := by
  induction l with
  | nil => rfl
  | cons d r ih =>
    have hd : d < 256 := h d (by simp)
    have ih := ih (fun x hx => h x (by simp [hx]))
    simp only [strip, val]
    rw [ih]
    by_cases hv : val r = 0
    · rw [hv]
      simp only [dig_zero]
      by_cases h0 : d = 0
      · simp [h0, dig_zero]
      · rw [if_neg h0, dig_pos _ (by omega)]
        have e1 : (d + 256 * 0) % 256 = d := by omega
        have e2 : (d + 256 * 0) / 256 = 0 := by omega
        rw [e1, e2, dig_zero]
    · rw [dig_pos (val r) (by omega)]
      simp only []
      rw [← dig_pos (val r) (by omega), dig_pos (d + 256 * val r) (by omega)]
      have e1 : (d + 256 * val r) % 256 = d := by omega
      have e2 : (d + 256 * val r) / 256 = val r := by omega
      rw [e1, e2]
theorem val_append (a b : List Nat) : val (a ++ b) = val a + 256 ^ a.length * val b := by
  induction a with
  | nil => simp [val]
  | cons d r ih =>
    simp only [List.cons_append, val, ih, List.length_cons, Nat.pow_succ]
    rw [Nat.mul_add, Nat.add_assoc]
    congr 2
    rw [← Nat.mul_assoc]; congr 1; rw [Nat.mul_comm]
theorem val_lt (l : List Nat) (h : Small l) : val l < 256 ^ l.length := by
  induction l with
  | nil => simp [val]
  | cons d r ih =>
    have hd : d < 256 := h d (by simp)
    have := ih (fun x hx => h x (by simp [hx]))
    simp only [val, List.length_cons, Nat.pow_succ]
    omega
end Go.Proofs.Ytlafnkcmdnfcpaa.Dig
