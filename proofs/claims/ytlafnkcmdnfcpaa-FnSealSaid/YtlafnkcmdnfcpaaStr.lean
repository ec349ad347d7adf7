/-
  string(b) of bytes.
-/
import Derived.Test.YtlafnkcmdnfcpaaApp
import Derived.Laws.BytesArg
namespace Go.Proofs.Ytlafnkcmdnfcpaa
open Go Go.RowKit
theorem SlB.slice {w : World} {v : Value} {l : List UInt8} (h : SlB w v l) : ∃ a c, v = .slice a l.length c := by
  rcases h with ⟨rfl, rfl⟩ | ⟨ad, c, rfl, _⟩
  · exact ⟨none, 0, rfl⟩
  · exact ⟨some ad, c, rfl⟩
theorem strOfNums_u8 (l : List UInt8) : strOfNums (l.map u8) = ⟨l.toArray⟩ := by
  unfold strOfNums
  congr 2
  rw [List.map_map]
  conv => rhs; rw [← List.map_id l]
  apply List.map_congr_left
  intro x _
  simp [u8]
/-- the string of bytes -/
def strB (l : List UInt8) : ByteArray := ⟨l.toArray⟩
theorem strB_toList (l : List UInt8) : (strB l).toList = l := by
  rw [ByteArray.toList_eq]; rfl
theorem run_strB (w : World) (v : Value) (l : List UInt8) (h : SlB w v l) : (convert 24 9 v).run Try.prog w = .ok (.string (strB l)) w := by
  by_cases hn : 0 < l.length
  · obtain ⟨b, o, c, rfl, _, _, _, hc⟩ := h.form hn
    rw [run_convert_bytes_arg w 24 5 Try.underlying24 Try.underlying5 b o l.length c (l.map u8) (by simp) (fun i hi => by rw [hc i hi]; simp [hi]) 9 Try.underlying9, strOfNums_u8]
    rfl
  · have : l = [] := List.eq_nil_of_length_eq_zero (by omega)
    subst this
    rcases h with ⟨rfl, _⟩ | ⟨ad, c, rfl, _⟩
    · exact run_convert_bytes_nil w 24 5 Try.underlying24 Try.underlying5 0 0 9 Try.underlying9
    · rw [run_convert_bytes_string w 24 9 5 _ _ c Try.underlying24 Try.underlying5 Try.underlying9]
      exact run_bytesToString w ad _ c [] (by simp [loadCells, loadCellsFrom])
end Go.Proofs.Ytlafnkcmdnfcpaa
