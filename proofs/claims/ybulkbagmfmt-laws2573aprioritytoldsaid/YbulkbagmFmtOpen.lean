/-
  From the arguments as data to the walk's 'Strs'.
-/
import Derived.Test.YbulkbagmFmtLawA
import Derived.SliceStrings
import Derived.OpenShut
namespace Go.Proofs.YbulkbagmFmt
open Go.RowKit

theorem cell_lt {w : World} {a : Addr} {v : Value} (h : w.cell? a = some v) : a.block < w.heap.size := by
  unfold World.cell? at h
  split at h
  · rename_i hb
    exact (Array.getElem?_eq_some_iff.1 hb).1
  · cases h

theorem strs_of {w : World} {a : Addr} {len : Nat} {ss : List ByteArray} (hl : len ≤ ss.length) (hc : ∀ i, i < ss.length → w.cell? (a.add i) = some (.string (ss.getD i ByteArray.empty))) (hs : ∀ s ∈ ss, s.size ≤ maxLen) :
    Strs w (some a) (ss.take len) := by
  intro i hi
  have hi' : i < len := by simp at hi; omega
  have hil : i < ss.length := by omega
  obtain ⟨b, off, spot⟩ := a
  have hspot : spot = none := by simpa [Addr.add] using World.cell?_spot (hc 0 (by omega))
  subst hspot
  have h1 := hc i hil
  rw [Go.WideShapes.add_plain] at h1
  refine ⟨b, off, rfl, cell_lt h1, ?_, ?_⟩
  · rw [h1]
    simp [hil]
  · have hm : (ss.take len)[i] ∈ ss := by
      rw [List.getElem_take]
      exact List.getElem_mem _
    exact hs _ hm

end Go.Proofs.YbulkbagmFmt
