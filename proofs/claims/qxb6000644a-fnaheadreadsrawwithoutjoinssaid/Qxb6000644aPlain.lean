/-
  THE PLAIN MATHEMATICS of 'ahead': the reader that leaves line continuations out. No dump in sight.
-/
import Derived.WalkKit
namespace Go.Proofs.Qxb6000644a.Plain

/-- A backslash and a line break stand at the head. -/
def jn : List UInt8 → Bool
  | c :: d :: _ => c == 92 && d == 10
  | _ => false

/-- How many bytes of continuations stand at the head. -/
def sk (j : Bool) : List UInt8 → Nat
  | c :: d :: r => if j && (c == 92 && d == 10) then 2 + sk j r else 0
  | _ => 0

/-- What the reader reads (at most n bytes), and how far it comes. -/
def rd (j : Bool) : List UInt8 → Nat → List UInt8 × Nat
  | _, 0 => ([], 0)
  | l, n + 1 =>
    match l.drop (sk j l) with
    | [] => ([], sk j l)
    | c :: r => (c :: (rd j r n).1, sk j l + 1 + (rd j r n).2)

theorem sk_no {j : Bool} {l : List UInt8} (h : (j && jn l) = false) : sk j l = 0 := by
  match l with
  | [] => rfl
  | [_] => rfl
  | c :: d :: r => simp only [jn] at h; simp only [sk, h]; rfl
theorem sk_yes {j : Bool} {l : List UInt8} (h : (j && jn l) = true) : sk j l = 2 + sk j (l.drop 2) := by
  match l with
  | [] => simp [jn] at h
  | [_] => simp [jn] at h
  | c :: d :: r => simp only [jn] at h; simp only [sk, h]; simp
theorem jn_len {l : List UInt8} (h : jn l = true) : 2 ≤ l.length := by
  match l with
  | [] => simp [jn] at h
  | [_] => simp [jn] at h
  | c :: d :: r => simp
theorem sk_le (j : Bool) : ∀ (n : Nat) (l : List UInt8), l.length ≤ n → sk j l ≤ l.length
  | _, [], _ => by simp [sk]
  | _, [_], _ => by simp [sk]
  | 0, _ :: _ :: _, h => by simp at h
  | 1, _ :: _ :: _, h => by simp at h
  | n + 2, c :: d :: r, h => by
    have := sk_le j n r (by simp at h; omega)
    simp only [sk]; split <;> simp <;> omega

theorem rd_nil (j : Bool) (n : Nat) : rd j [] n = ([], 0) := by
  cases n <;> simp [rd, sk]

theorem rd_end {j : Bool} {l : List UInt8} (n : Nat) (h : l.drop (sk j l) = []) : rd j l (n + 1) = ([], sk j l) := by
  rw [rd]; rw [h]
theorem rd_go {j : Bool} {l : List UInt8} (n : Nat) {c : UInt8} {r : List UInt8} (h : l.drop (sk j l) = c :: r) : rd j l (n + 1) = (c :: (rd j r n).1, sk j l + 1 + (rd j r n).2) := by
  rw [rd]; rw [h]

theorem rd_le (j : Bool) : ∀ (n : Nat) (l : List UInt8), (rd j l n).1.length ≤ n ∧ (rd j l n).2 ≤ l.length
  | 0, l => by simp [rd]
  | n + 1, l => by
    have hs := sk_le j _ l (Nat.le_refl _)
    match h : l.drop (sk j l) with
    | [] => rw [rd_end n h]; simp; exact hs
    | c :: r =>
      have ih := rd_le j n r
      have hl : l.length - sk j l = r.length + 1 := by rw [← List.length_drop, h]; simp
      rw [rd_go n h]
      simp only [List.length_cons]
      omega

/-- THE LAW: reading a, then b from there, is reading a + b. -/
theorem rd_add (j : Bool) (b : Nat) : ∀ (a : Nat) (l : List UInt8), rd j l (a + b) = ((rd j l a).1 ++ (rd j (l.drop (rd j l a).2) b).1, (rd j l a).2 + (rd j (l.drop (rd j l a).2) b).2)
  | 0, l => by simp [rd]
  | a + 1, l => by
    rw [show a + 1 + b = (a + b) + 1 by omega]
    match h : l.drop (sk j l) with
    | [] => rw [rd_end (a + b) h, rd_end a h]; simp [h, rd_nil]
    | c :: r =>
      have ih := rd_add j b a r
      have hd : l.drop (sk j l + 1 + (rd j r a).2) = r.drop (rd j r a).2 := by
        rw [Nat.add_assoc, ← List.drop_drop, h, Nat.add_comm 1, List.drop_succ_cons]
      rw [rd_go (a + b) h, rd_go a h]
      simp only [hd]
      rw [ih]
      simp only [List.cons_append, Nat.add_assoc]

/-- Where no continuation is left out, the reader reads the bytes as they stand. -/
theorem rd_raw (j : Bool) : ∀ (n : Nat) (l : List UInt8), (∀ k, (j && jn (l.drop k)) = false) → rd j l n = (l.take n, min n l.length)
  | 0, l, _ => by simp [rd]
  | n + 1, l, h => by
    have h0 : sk j l = 0 := sk_no (by simpa using h 0)
    match l with
    | [] => rw [rd_nil]; simp
    | c :: r =>
      have ih := rd_raw j n r (fun k => by simpa using h (k + 1))
      rw [rd_go n (c := c) (r := r) (by rw [h0]; simp), ih, h0]
      simp; omega

/-- WHAT THE OUTER LOOP KEEPS: i0: where it began; N: how many are wanted; p: where it stands; R: what it has read. -/
def Inv (j : Bool) (t : List UInt8) (i0 N p : Nat) (R : List UInt8) : Prop :=
  i0 ≤ p ∧ p ≤ t.length ∧ R.length ≤ N ∧ R.length ≤ p ∧
  rd j (t.drop i0) N = (R ++ (rd j (t.drop p) (N - R.length)).1, (p - i0) + (rd j (t.drop p) (N - R.length)).2)

theorem inv0 (j : Bool) (t : List UInt8) (i0 N : Nat) (h : i0 ≤ t.length) : Inv j t i0 N i0 [] :=
  ⟨Nat.le_refl _, h, by simp, by simp, by simp⟩

/-- WHAT THE INNER LOOP KEEPS: p: where it began; q: where it stands. -/
def Skp (j : Bool) (t : List UInt8) (p q : Nat) : Prop := p ≤ q ∧ q ≤ t.length ∧ sk j (t.drop p) = (q - p) + sk j (t.drop q)
theorem skp0 (j : Bool) (t : List UInt8) (p : Nat) (h : p ≤ t.length) : Skp j t p p := ⟨Nat.le_refl _, h, by simp⟩
theorem skp_step {j : Bool} {t : List UInt8} {p q : Nat} (h : Skp j t p q) (hj : (j && jn (t.drop q)) = true) : Skp j t p (q + 2) ∧ q + 2 ≤ t.length := by
  obtain ⟨h1, h2, h3⟩ := h
  have hl := jn_len (show jn (t.drop q) = true by simp at hj; exact hj.2)
  rw [List.length_drop] at hl
  refine ⟨⟨by omega, by omega, ?_⟩, by omega⟩
  rw [h3, sk_yes hj, List.drop_drop]
  omega

/-- The inner loop's end: the text's end. -/
theorem inv_break {j : Bool} {t : List UInt8} {i0 N p q : Nat} {R : List UInt8} (h : Inv j t i0 N p R) (hN : R.length < N) (hs : Skp j t p q) (hj : (j && jn (t.drop q)) = false) (hq : q = t.length) :
    rd j (t.drop i0) N = (R, q - i0) := by
  obtain ⟨a1, a2, a3, _, a4⟩ := h
  obtain ⟨b1, b2, b3⟩ := hs
  rw [sk_no hj] at b3
  obtain ⟨m, hm⟩ : ∃ m, N - R.length = m + 1 := ⟨N - R.length - 1, by omega⟩
  rw [hm, rd_end m (by rw [List.drop_drop]; exact List.drop_eq_nil_of_le (by omega))] at a4
  rw [a4, b3]
  simp; omega

/-- The inner loop's end: a byte is there: it is read. -/
theorem inv_step {j : Bool} {t : List UInt8} {i0 N p q : Nat} {R : List UInt8} {c : UInt8} (h : Inv j t i0 N p R) (hN : R.length < N) (hs : Skp j t p q) (hj : (j && jn (t.drop q)) = false) (hq : q < t.length) (hc : t[q]? = some c) :
    Inv j t i0 N (q + 1) (R ++ [c]) := by
  obtain ⟨a1, a2, a3, a5, a4⟩ := h
  obtain ⟨b1, b2, b3⟩ := hs
  rw [sk_no hj] at b3
  obtain ⟨m, hm⟩ : ∃ m, N - R.length = m + 1 := ⟨N - R.length - 1, by omega⟩
  have hd : t.drop q = c :: t.drop (q + 1) := by
    rw [List.drop_eq_getElem_cons hq]
    rw [List.getElem?_eq_getElem hq] at hc
    simp at hc
    rw [hc]
  have hd2 : (t.drop p).drop (sk j (t.drop p)) = c :: t.drop (q + 1) := by
    rw [List.drop_drop, b3, ← hd]; congr 1; omega
  rw [hm, rd_go m hd2] at a4
  refine ⟨by omega, by omega, by simp; omega, by simp; omega, ?_⟩
  have hm2 : N - (R ++ [c]).length = m := by simp; omega
  rw [a4, hm2, b3]
  simp; omega

theorem inv_end {j : Bool} {t : List UInt8} {i0 N p : Nat} {R : List UInt8} (h : Inv j t i0 N p R) (hN : N ≤ R.length) : rd j (t.drop i0) N = (R, p - i0) := by
  obtain ⟨a1, a2, a3, _, a4⟩ := h
  rw [show N - R.length = 0 by omega] at a4
  rw [a4]; simp [rd]

end Go.Proofs.Qxb6000644a.Plain
