/-
  THE COPY AT A LAW's HEAD ('zzc := make([]byte, len(esc)); copy(zzc, esc)'): small facts on the row that it leaves.
-/
import Derived.Test.Qxb6601260aUnit
import Derived.Laws.CopyOwn
namespace Go.Proofs.Qxb6601260a
open Go.RowKit Plain

theorem Try.info5b : (Try.prog.info? 5).map (fun i => (i.zero, i.size, i.bytes)) = some (some (.int .u8 0), 1, 1) := by kernel_rfl
theorem Try.size5 : (Try.prog.info? 5).map (·.size) = some 1 := by kernel_rfl

/-- A row that make has laid, as a block that is known whole. -/
theorem row_of_full {w : World} {B e g n : Nat} {xs : List Value} (h : w.ownsRow B e 1 (.slice (some ⟨g, 0, none⟩) n n) n xs) :
    ∃ cur : List Value, cur.length = n ∧ w.heap[g]? = some (.cells cur.toArray e (0, 0)) := by
  rcases h.2 with ⟨h, _⟩ | ⟨g', cap, cur, hv, _, hg, _, _, hs, _⟩
  · cases h
  · simp only [Value.slice.injEq, Option.some.injEq, Addr.mk.injEq] at hv
    obtain ⟨⟨rfl, _⟩, _, rfl⟩ := hv
    exact ⟨cur.toList, by simpa using hs, by simpa using hg⟩

/-- Behind a copy over the whole row the block holds what was copied. -/
theorem splice_full {cur cs : List Value} (h : cs.length = cur.length) : splice cur 0 cs = cs := by
  simp [splice, h]

theorem cells_of_block {w : World} {g e : Nat} {zs : List Int} (h : w.heap[g]? = some (.cells (zs.map (Value.int .u8)).toArray e (0, 0))) :
    ∀ i, i < zs.length → w.cell? ⟨g, 0 + i, none⟩ = some (.int .u8 (zs.getD i 0)) := by
  intro i hi
  rw [Nat.zero_add, cell_of_row w g i _ e (0, 0) h]
  simp [List.getD, List.getElem?_eq_getElem hi]

theorem map_at {zs : List Int} {j : Nat} {v : Value} (h : (zs.map (Value.int .u8))[j]? = some v) : j < zs.length ∧ v = .int .u8 (zs.getD j 0) := by
  rw [List.getElem?_map] at h
  by_cases hj : j < zs.length
  · rw [List.getElem?_eq_getElem hj] at h
    simp at h
    exact ⟨hj, by rw [← h]; simp [List.getD, List.getElem?_eq_getElem hj]⟩
  · rw [List.getElem?_eq_none (by omega)] at h
    simp at h

theorem ones_of_map (zs : List Int) : ∀ v ∈ zs.map (Value.int .u8), v.oneCell' = true := ints_oneCell _ _

end Go.Proofs.Qxb6601260a
