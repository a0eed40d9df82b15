/-
  THE PLAIN MATHEMATICS of the hex escape that FnUtf16UnitInvertsHexEscape writes: which bytes it lays, and that reading them gives the number back. No dump in sight.
-/
import Derived.Test.Qxb6601260aPlain
namespace Go.Proofs.Qxb6601260a.Plain

/-- The byte at place d of the Go constant hexDigits. -/
def hexCh (d : Nat) : Int := (([48, 49, 50, 51, 52, 53, 54, 55, 56, 57, 97, 98, 99, 100, 101, 102, 65, 66, 67, 68, 69, 70] : List Nat).getD d 0 : Nat)

theorem hexAt (d : Nat) (h : d < ({ data := #[48, 49, 50, 51, 52, 53, 54, 55, 56, 57, 97, 98, 99, 100, 101, 102, 65, 66, 67, 68, 69, 70] } : ByteArray).size) :
    ((({ data := #[48, 49, 50, 51, 52, 53, 54, 55, 56, 57, 97, 98, 99, 100, 101, 102, 65, 66, 67, 68, 69, 70] } : ByteArray)[d]'h).toNat : Int) = hexCh d := by
  have key : ∀ e : Fin 22, ((({ data := #[48, 49, 50, 51, 52, 53, 54, 55, 56, 57, 97, 98, 99, 100, 101, 102, 65, 66, 67, 68, 69, 70] } : ByteArray)[e.val]'e.isLt).toNat : Int) = hexCh e.val := by decide
  exact key ⟨d, h⟩

theorem hexCh_low (d : Nat) (h : d < 16) : hexv (hexCh d) = d ∧ 0 ≤ hexCh d ∧ hexCh d ≤ 255 := by
  have key : ∀ e : Fin 16, hexv (hexCh e.val) = e.val ∧ 0 ≤ hexCh e.val ∧ hexCh e.val ≤ 255 := by decide
  exact key ⟨d, h⟩
theorem hexCh_upp (d : Nat) (h0 : 10 ≤ d) (h : d < 16) : hexv (hexCh (d + 6)) = d ∧ 0 ≤ hexCh (d + 6) ∧ hexCh (d + 6) ≤ 255 := by
  have key : ∀ e : Fin 16, 10 ≤ e.val → hexv (hexCh (e.val + 6)) = e.val ∧ 0 ≤ hexCh (e.val + 6) ∧ hexCh (e.val + 6) ≤ 255 := by decide
  exact key ⟨d, h⟩ h0

/-- The digit of u at place j of four. -/
def dg (u : Int) : Nat → Int
  | 0 => u / 4096 % 16
  | 1 => u / 256 % 16
  | 2 => u / 16 % 16
  | _ => u % 16

/-- L is a backslash, a 'u' and the first k digits of u, each in whichever case. -/
def HexPre (u : Int) (k : Nat) (L : List Int) : Prop :=
  L.length = 2 + k ∧ L.getD 0 0 = 92 ∧ L.getD 1 0 = 117 ∧ (∀ x ∈ L, 0 ≤ x ∧ x ≤ 255) ∧ ∀ j, j < k → hexv (L.getD (2 + j) 0) = dg u j

theorem good0 (u : Int) : HexPre u 0 [92, 117] := ⟨rfl, rfl, rfl, by simp, fun j hj => by omega⟩

theorem good_snoc {u : Int} {k : Nat} {L : List Int} {c : Int} (h : HexPre u k L) (hc : hexv c = dg u k) (h0 : 0 ≤ c) (h1 : c ≤ 255) : HexPre u (k + 1) (L ++ [c]) := by
  obtain ⟨hl, e0, e1, hb, hd⟩ := h
  have g : ∀ i, i < L.length → (L ++ [c]).getD i 0 = L.getD i 0 := fun i hi => by simp [List.getD, List.getElem?_append_left hi]
  refine ⟨by simp; omega, by rw [g 0 (by omega)]; exact e0, by rw [g 1 (by omega)]; exact e1, ?_, ?_⟩
  · intro x hx
    rcases List.mem_append.1 hx with hx | hx
    · exact hb x hx
    · simp at hx; subst hx; exact ⟨h0, h1⟩
  · intro j hj
    by_cases e : j < k
    · rw [g (2 + j) (by omega)]; exact hd j e
    · obtain rfl : j = k := by omega
      have : (L ++ [c]).getD (2 + j) 0 = c := by rw [← hl]; simp [List.getD]
      rw [this]; exact hc

theorem good_end {u : Int} {L : List Int} (T : List Int) (h : HexPre u 4 L) (h0 : 0 ≤ u) (h1 : u ≤ 65535) : U (L ++ T) = u := by
  obtain ⟨hl, e0, e1, _, hd⟩ := h
  have g : ∀ i, i < 6 → (L ++ T).getD i 0 = L.getD i 0 := fun i hi => by simp [List.getD, List.getElem?_append_left (show i < L.length by omega)]
  have d0 := hd 0 (by omega); have d1 := hd 1 (by omega); have d2 := hd 2 (by omega); have d3 := hd 3 (by omega)
  simp only [Nat.reduceAdd, Nat.add_zero, dg] at d0 d1 d2 d3
  unfold U six
  rw [if_neg (by simp; omega)]
  simp only [g 0 (by omega), g 1 (by omega), g 2 (by omega), g 3 (by omega), g 4 (by omega), g 5 (by omega)]
  rw [if_pos ⟨e0, e1⟩, d0, d1, d2, d3, comb_pos (by omega)]
  omega

/-- 'x & 15' on an int32 that is not negative, as the walk spells it. -/
theorem and15 {x : Int} (h0 : 0 ≤ x) (h1 : x ≤ 65535) : bits .and .i32 x 15 = x % 16 :=
  bits_mask .i32 31 (by decide) wraps_i32 4 (by decide) x h0 (by omega)

theorem dig (u x : Int) (k : Nat) (h0 : 0 ≤ x) (h1 : x ≤ 65535) (hx : x % 16 = dg u k) : ∃ d : Nat, bits .and .i32 x 15 = (d : Int) ∧ d < 16 ∧ (d : Int) = dg u k := by
  refine ⟨(x % 16).toNat, ?_, by omega, by omega⟩
  rw [and15 h0 h1]; omega

end Go.Proofs.Qxb6601260a.Plain
