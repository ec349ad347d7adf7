/-
  Contract: laws.told.
-/
import Derived.Test.YtdkhpehniciijaaSession
import Derived.Test.YtdkhpehniciijaaOrd
namespace Go.Proofs.Ytdkhpehniciijaa
open Go Go.RowKit
attribute [local irreducible] tagK
/-- what told returns, where no call but the last one failed -/
def ToldR (key m : List UInt8) (cs : List Cl) (w : World) (e : Ending) (w' : World) : Prop :=
  ∃ v ps, e = .returned (.tuple #[v, .bool true]) ∧ AnsL w' v ps ∧ ps.map (·.2) = sess key m false cs ∧ Fresh w w'
theorem CallsL.of_own {w : World} {base : Nat} {v : Value} {qs : List (Value × Cl)} (h : w.ownsRow base TCl 2 v qs.length (callCells qs)) (hq : ∀ q ∈ qs, SlB w q.1 q.2.bytes) : CallsL w v qs := by
  refine ⟨?_, hq⟩
  rcases h.2 with ⟨hv, h0⟩ | ⟨g, cap, cur, hv, hb, hg, h1, h2, h3, h4⟩
  · exact Or.inl ⟨hv, List.eq_nil_of_length_eq_zero h0⟩
  · exact Or.inr ⟨⟨g, 0, none⟩, cap, hv, h1, h2, World.ownsRow.cells h (g := g) (by rw [hv]; rfl)⟩
/-- the answers behind the first one -/
theorem AnsL.tail {w : World} {g o c : Nat} {p : Value × An} {ps : List (Value × An)} (h : Lie w ⟨g, o, none⟩ (ansCells (p :: ps))) (hs : ∀ q ∈ ps, SlB w q.1 q.2.bytes) (hc : ps.length + 1 ≤ c) (hm : c ≤ maxLen) : AnsL w (.slice (some ⟨g, o + 4, none⟩) ps.length (c - 1)) ps := by
  refine ⟨Or.inr ⟨g, o + 4, c - 1, rfl, by omega, by omega, ?_⟩, hs⟩
  intro j u hu
  have := h (4 + j) u (by
    show ([p.1, .int .i64 p.2.n, .bool p.2.is, .bool p.2.failed] ++ ansCells ps)[4 + j]? = some u
    rw [List.getElem?_append_right (by simp)]
    simpa using hu)
  rw [Addr.add_lit] at this ⊢
  rw [Nat.add_assoc]
  exact this
set_option maxRecDepth 100000 in
theorem told_c (key m : List UInt8) (qs : List (Value × Cl)) (vm vc : Value) (w : World) (hk : key.length = 32) (hm : SlB w vm m) (hml : m.length ≤ 140737488355000) (hc : CallsL w vc qs) (h0 : 0 < qs.length) (hn : qs.length ≤ 1000) (hb : ∀ q ∈ qs, q.2.bytes.length ≤ 140737488355000)
    (hlen : (sess key m false (qs.map (·.2))).length = qs.length) :
    Calls Try.prog 20 #[.agg (cells8 key), vm, vc] w (ToldR key m (qs.map (·.2)) w) := by
  obtain ⟨pc, cc, rfl⟩ := hc.shape
  obtain ⟨pm, cm, rfl⟩ := hm.slice
  have HC := Lib.hid hc
  have HK := Lib.hid hk
  have HM := Lib.hid hm
  have HML := Lib.hid hml
  have HB := Lib.hid hb
  have HL := Lib.hid hlen
  clear hc hk hm hb hlen hml
  go_enter Try.func20, Try.ntmps20
  go_wp2_with fail
  have HKS := Lib.hid (show (cells8 key).size = 32 by rw [cells8_size, HK.out])
  have HB0 : Hid ((w.alloc (.cells (cells8 key) 22)).heap[w.heap.size]? = some (.cells (cells8 key) 22 (0, 0))) := Lib.hid (heap_alloc_new w _)
  have HF0 : Hid (Fresh w (w.alloc (.cells (cells8 key) 22))) := Lib.hid ((Keeps.refl _ w).alloc _)
  refine wp_region_ord (fun w' => w'.heap[w.heap.size]? = some (.cells (cells8 key) 22 (0, 0))) [(0, true), (1, true), (2, true), (4, true), (3, false), (5, false), (6, false), (7, true)] (by kernel_rfl) (by kernel_rfl) HB0.out ?_
  refine ord_load (.agg (cells8 key)) rfl (by rfl) (fun w' hw' => exec_load_row _ _ rfl w.heap.size rfl _ _ _ hw' Try.underlying22 rfl (by rw [HKS.out]; exact info32B)) ?_
  iterate 3 (refine ord_quiet rfl (fun K hK => ?_); go_simp; refine hK _ ?_; clear hK K)
  refine ord_loud rfl (fun K hK => ?_)
  go_wp2_with fail
  obtain ⟨w1, hw1⟩ : ∃ w1, w1 = ((w.alloc (.cells (cells8 key) 22)).alloc (.cells #[Value.int .i64 0, .slice pm m.length cm] TCl)).drew := ⟨_, rfl⟩
  have HB1 : Hid (w1.heap[w.heap.size]? = some (.cells (cells8 key) 22 (0, 0))) := Lib.hid (by rw [hw1]; exact heap_alloc2_old w _ _)
  have HF1 : Hid (Fresh w w1) := Lib.hid (by rw [hw1]; exact (HF0.out.alloc _).drew)
  have HO1 : Hid (w1.ownsRow (w.heap.size + 1) TCl 2 (.slice (some ⟨w.heap.size + 1, 0, none⟩) 1 1) 1 (callCells [(.slice pm m.length cm, ⟨0, m⟩)])) := Lib.hid (by
    rw [hw1]
    have := World.ownsRow_lit (base := w.heap.size + 1) (e := TCl) (size := 2) (w.alloc (.cells (cells8 key) 22)) #[Value.int .i64 0, .slice pm m.length cm] 1 (by simp) (by decide) rfl
    rw [show (w.alloc (.cells (cells8 key) 22)).heap.size = w.heap.size + 1 by simp] at this
    exact this)
  have hsz1 : w.heap.size + 1 ≤ w1.heap.size := by rw [hw1]; simp
  refine hK _ _ (by rw [← hw1]; exact HB1.out) ?_
  rw [← hw1]
  clear hK K hw1
  refine ord_loud rfl (fun K hK => ?_)
  refine wpList_appC rfl (.tmp 12) (.tmp 13) rfl (w.heap.size + 1) _ _ [(.slice pm m.length cm, ⟨0, m⟩)] qs rfl rfl HO1.out (HC.out.fresh HF1.out) (by simp; omega) hsz1 ?_
  intro v2 w2 HO2 HK2
  have HF2 : Hid (Fresh w w2) := Lib.hid (Fresh.then HF1.out HK2.out (fun q hq e => by have : w.heap.size + 1 = q := Option.some.inj e; omega))
  have HB2 : Hid (w2.heap[w.heap.size]? = some (.cells (cells8 key) 22 (0, 0))) := Lib.hid (HK2.out.at HB1.out (fun e => by have : w.heap.size + 1 = w.heap.size := Option.some.inj e; omega))
  have HC2 : Hid (CallsL w2 v2 ((.slice pm m.length cm, ⟨0, m⟩) :: qs)) := Lib.hid (CallsL.of_own HO2.out (fun q hq => by
    rcases List.mem_cons.1 hq with rfl | hq
    · exact HM.out.fresh HF2.out
    · exact (HC.out.2 q hq).fresh HF2.out))
  clear HO2 HK2 HO1 HB1 HF1 HF0 HB0
  go_wp2_with fail
  refine hK _ _ HB2.out ?_
  clear hK K
  refine ord_loud rfl (fun K hK => ?_)
  go_wp2_with fail
  refine (Session_c key _ v2 w2 HK.out HC2.out (by simp; omega) (fun q hq => by
    rcases List.mem_cons.1 hq with rfl | hq
    · exact HML.out
    · exact HB.out q hq)).mono ?_
  rintro e w3 ⟨v3, ps, rfl, ho, hp, hf⟩
  have HF3 : Hid (Fresh w w3) := Lib.hid (HF2.out.trans hf)
  have HB3 := Lib.hid (hf.at HB2.out)
  rw [List.map_cons, sess_cons, askA_write, askM_write] at hp
  obtain ⟨⟨v0, a0⟩, ps', rfl⟩ : ∃ p ps', ps = p :: ps' := by
    cases ps with
    | nil => simp at hp
    | cons p ps' => exact ⟨p, ps', rfl⟩
  rw [List.map_cons] at hp
  obtain ⟨hp0, hp1⟩ := List.cons.inj hp
  simp only at hp0
  subst hp0
  have hp2 : ps'.map (·.2) = sess key m false (qs.map (·.2)) := hp1
  have hpl : ps'.length = qs.length := by rw [← HL.out, ← hp2, List.length_map]
  have hsl := ho.sl
  obtain ⟨g, o, c, rfl, h1, h2, h3⟩ := hsl.form (by simp)
  have HS2 := hsl.2
  obtain ⟨e0, e1, e2, e3⟩ := AnsL.at (i := 0) h3 rfl
  simp only [Nat.zero_mul, Nat.add_zero] at e0 e1 e2 e3
  have HP2 := Lib.hid hp2
  have HLI := Lib.hid h3
  have HSS := Lib.hid HS2
  have HPL := Lib.hid hpl
  rw [List.length_cons, hpl] at h1 ⊢
  have hc1 : ¬ c = 1 := by omega
  clear hp hp1 hp2 h3 HS2 hsl ho hpl hf
  go_wp2_with fail
  refine hK _ _ HB3.out ?_
  clear hK K
  iterate 1 (refine ord_quiet rfl (fun K hK => ?_); go_simp; refine hK _ ?_; clear hK K)
  refine ord_last ?_
  go_wp2_with fail
  go_ret2
  have ht := AnsL.tail HLI.out (fun q hq => HSS.out q (List.mem_cons_of_mem _ hq)) (by rw [HPL.out]; exact h1) h2
  rw [HPL.out] at ht
  exact ⟨_, ps', rfl, ht, HP2.out, HF3.out⟩
end Go.Proofs.Ytdkhpehniciijaa
