/-
  THE PLAIN MATHEMATICS of the laws over utf16Unit: the worth of a hexadecimal digit, the number of four of them, the fold that the Go loop makes. No dump in sight.
-/
import Derived.WalkKit
import Derived.Laws.BitsLemmas
namespace Go.Proofs.Qxb6601260a.Plain

/-- The worth of a byte as a hexadecimal digit, or -1. -/
def hexv (c : Int) : Int :=
  if 48 ≤ c ∧ c ≤ 57 then c - 48 else if 97 ≤ c ∧ c ≤ 102 then c - 87 else if 65 ≤ c ∧ c ≤ 70 then c - 55 else -1

/-- Four digits' number, or -1. -/
def comb (h0 h1 h2 h3 : Int) : Int :=
  if h0 < 0 ∨ h1 < 0 ∨ h2 < 0 ∨ h3 < 0 then -1 else h0 * 4096 + h1 * 256 + h2 * 16 + h3

/-- What utf16Unit answers at six bytes or more. -/
def six (cs : Nat → Int) : Int :=
  if cs 0 = 92 ∧ cs 1 = 117 then comb (hexv (cs 2)) (hexv (cs 3)) (hexv (cs 4)) (hexv (cs 5)) else -1

/-- What utf16Unit answers. -/
def U (xs : List Int) : Int := if xs.length < 6 then -1 else six (fun i => xs.getD i 0)

def acc (cs : Nat → Int) : Nat → Int
  | 0 => 0
  | k + 1 => acc cs k * 16 + hexv (cs (2 + k))

/-- The loop's state behind k digits. -/
def Inv (cs : Nat → Int) (k : Nat) (x : Int) : Prop := x = acc cs k ∧ ∀ j, j < k → 0 ≤ hexv (cs (2 + j))

theorem hexv_le (c : Int) : -1 ≤ hexv c ∧ hexv c ≤ 15 := by
  unfold hexv; split
  · omega
  · split
    · omega
    · split <;> omega

theorem inv0 (cs : Nat → Int) : Inv cs 0 0 := ⟨rfl, fun j hj => by omega⟩

theorem inv_bd {cs : Nat → Int} {k : Nat} {x : Int} (h : Inv cs k x) (hk : k ≤ 3) : 0 ≤ x ∧ x ≤ 4095 := by
  obtain ⟨rfl, h⟩ := h
  have b := fun j => hexv_le (cs (2 + j))
  have b0 := b 0; have b1 := b 1; have b2 := b 2
  have g0 := h 0; have g1 := h 1; have g2 := h 2
  match k, hk with
  | 0, _ => simp [acc]
  | 1, _ => have := g0 (by omega); simp [acc] at *; omega
  | 2, _ => have := g0 (by omega); have := g1 (by omega); simp [acc] at *; omega
  | 3, _ => have := g0 (by omega); have := g1 (by omega); have := g2 (by omega); simp [acc] at *; omega

theorem or4 {x y : Int} (h0 : 0 ≤ x) (h1 : x ≤ 4095) (h2 : 0 ≤ y) (h3 : y < 16) : bits .or .i32 (x * 16) y = x * 16 + y :=
  bits_join .i32 31 (by decide) wraps_i32 4 (x * 16) y (by omega) (by omega) (by omega) h2 h3 (by omega)

theorem inv_step {cs : Nat → Int} {k : Nat} {x d : Int} (h : Inv cs k x) (hk : k ≤ 3) (hd : hexv (cs (2 + k)) = d) (hd0 : 0 ≤ d) : Inv cs (k + 1) (bits .or .i32 (x * 16) d) := by
  obtain ⟨b0, b1⟩ := inv_bd h hk
  have := hexv_le (cs (2 + k))
  rw [or4 b0 b1 hd0 (by omega)]
  obtain ⟨rfl, h⟩ := h
  refine ⟨by rw [acc, hd], fun j hj => ?_⟩
  by_cases e : j = k
  · subst e; omega
  · exact h j (by omega)

theorem inv_dig {cs : Nat → Int} {k : Nat} {x : Int} (h : Inv cs k x) (hk : k ≤ 3) (h0 : 48 ≤ cs (2 + k)) (h1 : cs (2 + k) ≤ 57) : Inv cs (k + 1) (bits .or .i32 (x * 16) (cs (2 + k) - 48)) :=
  inv_step h hk (by unfold hexv; rw [if_pos ⟨h0, h1⟩]) (by omega)
theorem inv_low {cs : Nat → Int} {k : Nat} {x : Int} (h : Inv cs k x) (hk : k ≤ 3) (h0 : 97 ≤ cs (2 + k)) (h1 : cs (2 + k) ≤ 102) : Inv cs (k + 1) (bits .or .i32 (x * 16) (cs (2 + k) - 97 + 10)) :=
  inv_step h hk (by unfold hexv; rw [if_neg (by omega), if_pos ⟨h0, h1⟩]; omega) (by omega)
theorem inv_upp {cs : Nat → Int} {k : Nat} {x : Int} (h : Inv cs k x) (hk : k ≤ 3) (h0 : 65 ≤ cs (2 + k)) (h1 : cs (2 + k) ≤ 70) : Inv cs (k + 1) (bits .or .i32 (x * 16) (cs (2 + k) - 65 + 10)) :=
  inv_step h hk (by unfold hexv; rw [if_neg (by omega), if_neg (by omega), if_pos ⟨h0, h1⟩]; omega) (by omega)

theorem comb_neg {h0 h1 h2 h3 : Int} (h : h0 < 0 ∨ h1 < 0 ∨ h2 < 0 ∨ h3 < 0) : comb h0 h1 h2 h3 = -1 := by unfold comb; rw [if_pos h]
theorem comb_pos {h0 h1 h2 h3 : Int} (h : ¬ (h0 < 0 ∨ h1 < 0 ∨ h2 < 0 ∨ h3 < 0)) : comb h0 h1 h2 h3 = h0 * 4096 + h1 * 256 + h2 * 16 + h3 := by unfold comb; rw [if_neg h]

theorem hexv_bad {c : Int} (h : ¬ (48 ≤ c ∧ c ≤ 57) ∧ ¬ (97 ≤ c ∧ c ≤ 102) ∧ ¬ (65 ≤ c ∧ c ≤ 70)) : hexv c = -1 := by
  unfold hexv; rw [if_neg h.1, if_neg h.2.1, if_neg h.2.2]

theorem bad_six {cs : Nat → Int} (e0 : cs 0 = 92) (e1 : cs 1 = 117) {k : Nat} (hk : k < 4) (h : ¬ (48 ≤ cs (2 + k) ∧ cs (2 + k) ≤ 57) ∧ ¬ (97 ≤ cs (2 + k) ∧ cs (2 + k) ≤ 102) ∧ ¬ (65 ≤ cs (2 + k) ∧ cs (2 + k) ≤ 70)) : (-1 : Int) = six cs := by
  have hb := hexv_bad h
  unfold six; rw [if_pos ⟨e0, e1⟩]
  refine (comb_neg ?_).symm
  match k, hk with
  | 0, _ => simp only [Nat.add_zero] at hb; omega
  | 1, _ => simp only [Nat.reduceAdd] at hb; omega
  | 2, _ => simp only [Nat.reduceAdd] at hb; omega
  | 3, _ => simp only [Nat.reduceAdd] at hb; omega

theorem end_six {cs : Nat → Int} (e0 : cs 0 = 92) (e1 : cs 1 = 117) {x : Int} (h : Inv cs 4 x) : x = six cs := by
  obtain ⟨rfl, h⟩ := h
  have g0 := h 0 (by omega); have g1 := h 1 (by omega); have g2 := h 2 (by omega); have g3 := h 3 (by omega)
  simp only [Nat.reduceAdd, Nat.add_zero] at g0 g1 g2 g3
  unfold six; rw [if_pos ⟨e0, e1⟩, comb_pos (by omega)]
  simp only [acc, Nat.reduceAdd, Nat.add_zero]; omega

theorem not_six {cs : Nat → Int} (h : ¬ (cs 0 = 92 ∧ cs 1 = 117)) : (-1 : Int) = six cs := by unfold six; rw [if_neg h]

theorem comb_range (a b c d : Int) : comb (hexv a) (hexv b) (hexv c) (hexv d) = -1 ∨ 0 ≤ comb (hexv a) (hexv b) (hexv c) (hexv d) ∧ comb (hexv a) (hexv b) (hexv c) (hexv d) ≤ 65535 := by
  have := hexv_le a; have := hexv_le b; have := hexv_le c; have := hexv_le d
  by_cases h : hexv a < 0 ∨ hexv b < 0 ∨ hexv c < 0 ∨ hexv d < 0
  · exact .inl (comb_neg h)
  · rw [comb_pos h]; omega

theorem six_range (cs : Nat → Int) : six cs = -1 ∨ 0 ≤ six cs ∧ six cs ≤ 65535 := by
  unfold six; split
  · exact comb_range _ _ _ _
  · exact .inl rfl

theorem U_range (xs : List Int) : U xs = -1 ∨ 0 ≤ U xs ∧ U xs ≤ 65535 := by
  unfold U; split
  · exact .inl rfl
  · exact six_range _

end Go.Proofs.Qxb6601260a.Plain
