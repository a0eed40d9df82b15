/-
  THE WALK of FnProblemStringIgnoresEmptySlots (4).
-/
import Derived.Test.Qxb6001076aLine
namespace Go.Proofs.Qxb6001076a
open Go.RowKit

theorem tail_len (sep : List UInt8) : ∀ r : List (List UInt8), (Lib.joinTail sep r).length = (r.map List.length).sum + sep.length * r.length
  | [] => by simp [Lib.joinTail]
  | x :: r => by
    have ih := tail_len sep r
    simp only [Lib.joinTail, List.map_cons, List.flatten_cons, List.length_append, List.sum_cons, List.length_cons] at ih ⊢
    rw [ih, Nat.mul_succ]; omega
theorem join_len (sep : List UInt8) (xs : List (List UInt8)) : (Lib.join xs sep).length ≤ (xs.map List.length).sum + sep.length * xs.length := by
  cases xs with
  | nil => simp [Lib.join_nil]
  | cons x r =>
    rw [Lib.join_cons, List.length_append, tail_len]
    simp only [List.map_cons, List.sum_cons, List.length_cons, Nat.mul_succ]; omega

theorem size_toList (x : ByteArray) : x.toList.length = x.size := by rw [Lib.toList_data]; simp

theorem flt_sum : ∀ P : List ByteArray, ((flt P).map (fun x => x.data.toList.length)).sum ≤ (P.map (·.size)).sum ∧ (flt P).length ≤ P.length
  | [] => by simp [flt]
  | x :: P => by
    have ih := flt_sum P
    have hx : x.data.toList.length = x.size := by simp
    unfold flt at ih ⊢
    simp only [List.filter_cons]
    split
    · simp only [List.map_cons, List.sum_cons, List.length_cons]; omega
    · simp only [List.map_cons, List.sum_cons, List.length_cons]; omega

theorem line_len (P : List ByteArray) : (lineOf P).length ≤ (P.map (·.size)).sum + 2 * P.length := by
  have h1 := join_len [58, 32] ((flt P).map (·.data.toList))
  have h2 := flt_sum P
  rw [List.map_map, List.length_map] at h1
  have e : (List.length ∘ fun x : ByteArray => x.data.toList) = fun x => x.data.toList.length := rfl
  rw [e] at h1
  unfold lineOf
  simp only [List.length_cons, List.length_nil] at h1
  omega

theorem flt_cons_no {x : ByteArray} (P : List ByteArray) (h : x.toList = []) : flt (x :: P) = flt P := by simp [flt, h]
theorem flt_cons_yes {x : ByteArray} (P : List ByteArray) (h : ¬ x.toList = []) : flt (x :: P) = x :: flt P := by
  have h' : x.toList.isEmpty = false := by simpa using h
  simp [flt, h']
theorem flt_nil : flt [] = [] := rfl
theorem e_nil : (⟨#[]⟩ : ByteArray).toList = [] := by rw [Lib.toList_data]

/-- One text: the line is that text. -/
theorem line_one (a : ByteArray) : (⟨(lineOf [a]).toArray⟩ : ByteArray) = a := by
  unfold lineOf
  by_cases h : a.toList = []
  · rw [flt_cons_no _ h, flt_nil]
    have : a.data = #[] := by rw [Lib.toList_data] at h; exact Array.toList_inj.1 (by simpa using h)
    cases a
    simp only at this
    subst this
    rfl
  · rw [flt_cons_yes _ h, flt_nil]
    simp [Lib.join_one]

theorem l1 (a : ByteArray) : lineOf [a, ⟨#[]⟩, ⟨#[]⟩] = lineOf [a] := by
  unfold lineOf
  by_cases h : a.toList = []
  · rw [flt_cons_no _ h, flt_cons_no _ h, flt_cons_no _ e_nil, flt_cons_no _ e_nil]
  · rw [flt_cons_yes _ h, flt_cons_yes _ h, flt_cons_no _ e_nil, flt_cons_no _ e_nil]
theorem l2 (a : ByteArray) : lineOf [⟨#[]⟩, a, ⟨#[]⟩] = lineOf [a] := by
  unfold lineOf
  rw [flt_cons_no _ e_nil]
  by_cases h : a.toList = []
  · rw [flt_cons_no _ h, flt_cons_no _ h, flt_cons_no _ e_nil]
  · rw [flt_cons_yes _ h, flt_cons_yes _ h, flt_cons_no _ e_nil]
theorem l3 (a : ByteArray) : lineOf [⟨#[]⟩, ⟨#[]⟩, a] = lineOf [a] := by unfold lineOf; rw [flt_cons_no _ e_nil, flt_cons_no _ e_nil]
theorem m1 (a b : ByteArray) : lineOf [a, b, ⟨#[]⟩] = lineOf [a, b] := by
  have e : flt [b, ⟨#[]⟩] = flt [b] := by
    by_cases h : b.toList = []
    · rw [flt_cons_no _ h, flt_cons_no _ h, flt_cons_no _ e_nil]
    · rw [flt_cons_yes _ h, flt_cons_yes _ h, flt_cons_no _ e_nil]
  unfold lineOf
  by_cases h : a.toList = []
  · rw [flt_cons_no _ h, flt_cons_no _ h, e]
  · rw [flt_cons_yes _ h, flt_cons_yes _ h, e]
theorem m2 (a b : ByteArray) : lineOf [a, ⟨#[]⟩, b] = lineOf [a, b] := by
  unfold lineOf
  by_cases h : a.toList = []
  · rw [flt_cons_no _ h, flt_cons_no _ h, flt_cons_no _ e_nil]
  · rw [flt_cons_yes _ h, flt_cons_yes _ h, flt_cons_no _ e_nil]
theorem m3 (a b : ByteArray) : lineOf [⟨#[]⟩, a, b] = lineOf [a, b] := by unfold lineOf; rw [flt_cons_no _ e_nil]

set_option maxHeartbeats 1000000 in
theorem slots_core (a b : ByteArray) (w : World) (ha : a.size ≤ 262144) (hb : b.size ≤ 262144) :
    Calls Try.prog 4 #[.string a, .string b] w fun e w' => e = .returned (.bool true) ∧ Below w.heap.size w w' := by
  have ha' : (a.size : Int) ≤ 262144 := by omega
  have hb' : (b.size : Int) ≤ 262144 := by omega
  have z : (⟨#[]⟩ : ByteArray).size = 0 := rfl
  have A1 : Hid (∀ w, Calls Try.prog 7 #[.agg #[.string a, .string ⟨#[]⟩, .string ⟨#[]⟩]] w fun e w' => e = .returned (.string a) ∧ Below w.heap.size w w') := fun w => by
    have h := line_any a ⟨#[]⟩ ⟨#[]⟩ w (by have := line_len [a, ⟨#[]⟩, ⟨#[]⟩]; simp [z] at this ⊢; omega)
    rwa [l1, line_one] at h
  have A2 : Hid (∀ w, Calls Try.prog 7 #[.agg #[.string ⟨#[]⟩, .string a, .string ⟨#[]⟩]] w fun e w' => e = .returned (.string a) ∧ Below w.heap.size w w') := fun w => by
    have h := line_any ⟨#[]⟩ a ⟨#[]⟩ w (by have := line_len [⟨#[]⟩, a, ⟨#[]⟩]; simp [z] at this ⊢; omega)
    rwa [l2, line_one] at h
  have A3 : Hid (∀ w, Calls Try.prog 7 #[.agg #[.string ⟨#[]⟩, .string ⟨#[]⟩, .string a]] w fun e w' => e = .returned (.string a) ∧ Below w.heap.size w w') := fun w => by
    have h := line_any ⟨#[]⟩ ⟨#[]⟩ a w (by have := line_len [⟨#[]⟩, ⟨#[]⟩, a]; simp [z] at this ⊢; omega)
    rwa [l3, line_one] at h
  obtain ⟨y, hy⟩ : ∃ y : ByteArray, y = ⟨(lineOf [a, b]).toArray⟩ := ⟨_, rfl⟩
  have B1 : Hid (∀ w, Calls Try.prog 7 #[.agg #[.string a, .string b, .string ⟨#[]⟩]] w fun e w' => e = .returned (.string y) ∧ Below w.heap.size w w') := fun w => by
    have h := line_any a b ⟨#[]⟩ w (by have := line_len [a, b, ⟨#[]⟩]; simp [z] at this ⊢; omega)
    rwa [m1, ← hy] at h
  have B2 : Hid (∀ w, Calls Try.prog 7 #[.agg #[.string a, .string ⟨#[]⟩, .string b]] w fun e w' => e = .returned (.string y) ∧ Below w.heap.size w w') := fun w => by
    have h := line_any a ⟨#[]⟩ b w (by have := line_len [a, ⟨#[]⟩, b]; simp [z] at this ⊢; omega)
    rwa [m2, ← hy] at h
  have B3 : Hid (∀ w, Calls Try.prog 7 #[.agg #[.string ⟨#[]⟩, .string a, .string b]] w fun e w' => e = .returned (.string y) ∧ Below w.heap.size w w') := fun w => by
    have h := line_any ⟨#[]⟩ a b w (by have := line_len [⟨#[]⟩, a, b]; simp [z] at this ⊢; omega)
    rwa [m3, ← hy] at h
  clear hy z
  go_enter Try.func4, Try.ntmps4
  go_wp2_with (first | (go_at_call 9; go_in) | fail)
  refine (A1.out _).mono ?_
  rintro e w1 ⟨rfl, h1⟩
  go_wp2_with fail
  refine (A2.out _).mono ?_
  rintro e w2 ⟨rfl, h2⟩
  go_wp2_with fail
  refine (A3.out _).mono ?_
  rintro e w3 ⟨rfl, h3⟩
  go_wp2_with fail
  refine (B1.out _).mono ?_
  rintro e w4 ⟨rfl, h4⟩
  go_wp2_with fail
  refine (B2.out _).mono ?_
  rintro e w5 ⟨rfl, h5⟩
  go_wp2_with fail
  refine (B3.out _).mono ?_
  rintro e w6 ⟨rfl, h6⟩
  go_wp2
  go_ret
  have g2 := h1.trans (h2.mono h1.size)
  have g3 := g2.trans (h3.mono g2.size)
  have g4 := g3.trans (h4.mono g3.size)
  have g5 := g4.trans (h5.mono g4.size)
  exact ⟨by simp, g5.trans (h6.mono g5.size)⟩
end Go.Proofs.Qxb6001076a
