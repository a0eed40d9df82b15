/-
  THE PLAIN MATHEMATICS of splitColonSpace: cutting at every colon that a blank follows; it undoes strings.Join by a colon and a blank where no text holds a colon. No dump in sight.
-/
import Derived.WalkKit
import Derived.Lib.Join
namespace Go.Proofs.Qxb6001076a.Plain

/-- p goes ahead of the first piece. -/
def glue (p : List UInt8) : List (List UInt8) → List (List UInt8)
  | [] => [p]
  | h :: t => (p ++ h) :: t

/-- The pieces of a text, cut at every colon and blank. -/
def splitc : List UInt8 → List (List UInt8)
  | [] => [[]]
  | [c] => [[c]]
  | c :: d :: r => if c == 58 && d == 32 then [] :: splitc r else glue [c] (splitc (d :: r))

def cutc (T : List UInt8) : List (List UInt8) := if T = [] then [] else splitc T

theorem glue_ne (p : List UInt8) (l : List (List UInt8)) : glue p l ≠ [] := by cases l <;> simp [glue]
theorem glue_glue (p q : List UInt8) (l : List (List UInt8)) : glue p (glue q l) = glue (p ++ q) l := by cases l <;> simp [glue]
theorem glue_nil {l : List (List UInt8)} (h : l ≠ []) : glue [] l = l := by
  cases l with
  | nil => exact absurd rfl h
  | cons => simp [glue]
theorem splitc_ne : ∀ T : List UInt8, splitc T ≠ []
  | [] => by simp [splitc]
  | [_] => by simp [splitc]
  | c :: d :: r => by
    rw [splitc]
    split
    · simp
    · exact glue_ne _ _
theorem splitc_cut (r : List UInt8) : splitc (58 :: 32 :: r) = [] :: splitc r := by rw [splitc]; rfl
theorem splitc_go {c : UInt8} {r : List UInt8} (h : c = 58 → r.head? ≠ some 32) : splitc (c :: r) = glue [c] (splitc r) := by
  match r with
  | [] => simp [splitc, glue]
  | d :: r =>
    rw [splitc]
    rw [if_neg]
    intro hc
    simp at hc
    exact h hc.1 (by simp [hc.2])
theorem splitc_text (r : List UInt8) : ∀ x : List UInt8, (58 : UInt8) ∉ x → splitc (x ++ r) = glue x (splitc r)
  | [], _ => by rw [List.nil_append, glue_nil (splitc_ne r)]
  | c :: x, h => by
    have hc : c ≠ 58 := fun e => h (by simp [e])
    have hx : (58 : UInt8) ∉ x := fun e => h (by simp [e])
    rw [List.cons_append, splitc_go (fun e => absurd e hc), splitc_text r x hx, glue_glue]
    rfl
theorem splitc_tail : ∀ (r : List (List UInt8)) (x : List UInt8), (58 : UInt8) ∉ x → (∀ y ∈ r, (58 : UInt8) ∉ y) → splitc (x ++ Lib.joinTail [58, 32] r) = x :: r
  | [], x, h, _ => by rw [splitc_text _ x h]; simp [Lib.joinTail, splitc, glue]
  | y :: r, x, h, hr => by
    have e : Lib.joinTail [58, 32] (y :: r) = 58 :: 32 :: (y ++ Lib.joinTail [58, 32] r) := by simp [Lib.joinTail]
    rw [splitc_text _ x h, e, splitc_cut, splitc_tail r y (hr y (by simp)) (fun z hz => hr z (by simp [hz]))]
    simp [glue]

/-- THE LAW: cutting undoes joining. -/
theorem cut_join (xs : List (List UInt8)) (hne : ∀ x ∈ xs, x ≠ []) (hc : ∀ x ∈ xs, (58 : UInt8) ∉ x) : cutc (Lib.join xs [58, 32]) = xs := by
  cases xs with
  | nil => simp [Lib.join_nil, cutc]
  | cons x r =>
    rw [Lib.join_cons]
    unfold cutc
    rw [if_neg]
    · exact splitc_tail r x (hc x (by simp)) (fun y hy => hc y (by simp [hy]))
    · have := hne x (by simp)
      intro h
      exact this (List.append_eq_nil_iff.1 h).1

/-- WHAT THE LOOP KEEPS: X: the pieces laid down; st: where the open piece begins; i: where it stands. -/
def Inv (T : List UInt8) (X : List (List UInt8)) (st i : Nat) : Prop :=
  st ≤ i ∧ i ≤ T.length ∧ X.length ≤ i ∧ splitc T = X ++ glue ((T.drop st).take (i - st)) (splitc (T.drop i))

theorem inv0 (T : List UInt8) : Inv T [] 0 0 := ⟨Nat.le_refl _, Nat.zero_le _, Nat.zero_le _, by simp [glue_nil (splitc_ne T)]⟩

theorem take_more (T : List UInt8) (st i : Nat) (h1 : st ≤ i) (h2 : i < T.length) : (T.drop st).take (i + 1 - st) = (T.drop st).take (i - st) ++ [T[i]] := by
  have e : i + 1 - st = (i - st) + 1 := by omega
  rw [e, List.take_succ_eq_append_getElem (by rw [List.length_drop]; omega)]
  congr 2
  rw [List.getElem_drop]
  congr 1
  omega

theorem inv_go {T : List UInt8} {X : List (List UInt8)} {st i : Nat} (h : Inv T X st i) (hi : i < T.length) (hn : T[i]? = some 58 → T[i + 1]? ≠ some 32) : Inv T X st (i + 1) := by
  obtain ⟨a, b, c, d⟩ := h
  refine ⟨by omega, by omega, by omega, ?_⟩
  have e : T.drop i = T[i] :: T.drop (i + 1) := List.drop_eq_getElem_cons hi
  rw [d, e, splitc_go (c := T[i]) (r := T.drop (i + 1)) ?_, glue_glue, take_more T st i a hi]
  intro h58
  rw [List.head?_drop]
  exact hn (by rw [List.getElem?_eq_getElem hi, h58])

theorem inv_cut {T : List UInt8} {X : List (List UInt8)} {st i : Nat} (h : Inv T X st i) (hi : i + 1 < T.length) (h0 : T[i]? = some 58) (h1 : T[i + 1]? = some 32) : Inv T (X ++ [(T.drop st).take (i - st)]) (i + 2) (i + 2) := by
  obtain ⟨a, b, c, d⟩ := h
  refine ⟨Nat.le_refl _, by omega, by simp; omega, ?_⟩
  have e : T.drop i = 58 :: 32 :: T.drop (i + 2) := by
    rw [List.drop_eq_getElem_cons (by omega), List.drop_eq_getElem_cons (by omega)]
    rw [List.getElem?_eq_getElem (by omega)] at h0 h1
    simp only [Option.some.injEq] at h0 h1
    rw [h0, h1]
  rw [d, e, splitc_cut, Nat.sub_self, List.take_zero, glue_nil (splitc_ne _)]
  simp [glue]

theorem inv_end {T : List UInt8} {X : List (List UInt8)} {st i : Nat} (h : Inv T X st i) (hi : i = T.length) : splitc T = X ++ [(T.drop st).take (i - st)] := by
  obtain ⟨a, b, c, d⟩ := h
  subst hi
  rw [d]
  simp [splitc, glue]

end Go.Proofs.Qxb6001076a.Plain
