/-
  THE CONTRACT of zzlHasJoin (11), and THE WALK of FnAheadReadsRawWithoutJoins (4).
-/
import Derived.Test.Qxb6000644aAhead2
namespace Go.Proofs.Qxb6000644a
open Go.RowKit Plain

namespace Plain
def anyJn : List UInt8 → Bool
  | [] => false
  | c :: r => jn (c :: r) || anyJn r
theorem any_no : ∀ {l : List UInt8}, (∀ k, jn (l.drop k) = false) → anyJn l = false
  | [], _ => rfl
  | c :: r, h => by
    have h0 := h 0
    have ih := any_no (l := r) (fun k => by simpa using h (k + 1))
    simp only [List.drop_zero] at h0
    simp only [anyJn, h0, ih]; rfl
theorem any_yes : ∀ {l : List UInt8} (k : Nat), jn (l.drop k) = true → anyJn l = true
  | [], k, h => by simp [jn] at h
  | c :: r, 0, h => by simp only [List.drop_zero] at h; simp only [anyJn, h]; rfl
  | c :: r, k + 1, h => by
    have ih := any_yes (l := r) k (by simpa using h)
    simp only [anyJn, ih, Bool.or_true]
theorem no_any {l : List UInt8} (h : anyJn l = false) (k : Nat) : jn (l.drop k) = false := by
  cases e : jn (l.drop k)
  · rfl
  · rw [any_yes k e] at h; cases h
def NoTo (l : List UInt8) (k : Nat) : Prop := ∀ j, j < k → jn (l.drop j) = false
theorem no_step {l : List UInt8} {k : Nat} (h : NoTo l k) (hk : jn (l.drop k) = false) : NoTo l (k + 1) := fun j hj => by
  by_cases e : j = k
  · rw [e]; exact hk
  · exact h j (by omega)
theorem no_end {l : List UInt8} {k : Nat} (h : NoTo l k) (hk : l.length ≤ k + 1) : false = anyJn l := by
  refine (any_no fun j => ?_).symm
  by_cases e : j < k
  · exact h j e
  · have hl : (l.drop j).length ≤ 1 := by rw [List.length_drop]; omega
    match hd : l.drop j with
    | [] => rfl
    | [_] => rfl
    | _ :: _ :: _ => rw [hd] at hl; simp at hl
end Plain

/-- What stands at place k of the text, as the walk's two tests say it. -/
theorem jn_at (t : ByteArray) (k : Nat) (h1 : k + 1 < t.size) : jn (t.data.toList.drop k) = (((t[k]'(by omega)).toNat : Int) == 92 && ((t[k + 1]'h1).toNat : Int) == 10) := by
  have hl : t.data.toList.length = t.size := by simp
  have e0 : t.data.toList.drop k = t[k]'(by omega) :: t[k + 1]'h1 :: t.data.toList.drop (k + 1 + 1) := by
    rw [List.drop_eq_getElem_cons (by omega), List.drop_eq_getElem_cons (by omega)]
    rfl
  have key : ∀ (c : UInt8) (n : Nat) (_ : n < 256), (c == UInt8.ofNat n) = ((c.toNat : Int) == (n : Int)) := by
    intro c n hn
    rw [Bool.eq_iff_iff]
    simp only [beq_iff_eq]
    constructor
    · intro h; rw [h]; simp; omega
    · intro h; exact UInt8.toNat_inj.1 (by simp; omega)
  rw [e0]
  simp only [jn]
  rw [show (92 : UInt8) = UInt8.ofNat 92 from rfl, show (10 : UInt8) = UInt8.ofNat 10 from rfl, key _ 92 (by omega), key _ 10 (by omega)]
  rfl

theorem ret_bool' {a b : Bool} (h : a = b) : Ending.returned (.bool a) = .returned (.bool b) := by rw [h]

set_option maxHeartbeats 1000000 in
theorem hasjoin_any (t : ByteArray) (w : World) (hsz : t.size ≤ 1048576) :
    Calls Try.prog 11 #[.string t] w fun e w' => e = .returned (.bool (anyJn t.data.toList)) ∧ w' = w := by
  have HL : Hid (t.data.toList.length = t.size) := by show _ = _; simp
  obtain ⟨T, hT⟩ : ∃ T, T = t.data.toList := ⟨_, rfl⟩
  have HT : Hid (T = t.data.toList) := hT
  rw [← hT]
  rw [← hT] at HL
  clear hT
  go_enter Try.func11, Try.ntmps11
  go_wp2
  go_loop [3] (fun i => ∃ k : Nat, k ≤ t.size ∧ i = .int .i64 k ∧ NoTo T k) (fun i => t.size - (intOf i).toNat)
  case atStart => exact ⟨0, by omega, rfl, fun j hj => by omega⟩
  case round =>
    obtain ⟨k, hk, rfl, hn⟩ := hrel
    by_cases hlt : k + 1 < t.size
    · have J := jn_at t k hlt
      rw [← HT.out] at J
      cases h92 : (((t[k]'(by omega)).toNat : Int) == 92)
      · have HJ : Hid (jn (T.drop k) = false) := by show _ = _; rw [J, h92]; rfl
        clear J
        go_wp2
        go_round
        case rel => exact ⟨k + 1, by omega, by go_num, no_step hn HJ.out⟩
        case measure => simp [intOf]; omega
      · cases h10 : (((t[k + 1]'hlt).toNat : Int) == 10)
        · have HJ : Hid (jn (T.drop k) = false) := by show _ = _; rw [J, h92, h10]; rfl
          clear J
          go_wp2
          go_round
          case rel => exact ⟨k + 1, by omega, by go_num, no_step hn HJ.out⟩
          case measure => simp [intOf]; omega
        · have HJ : Hid (true = anyJn T) := (any_yes k (by rw [J, h92, h10]; rfl)).symm
          clear J
          go_wp2
          go_ret
          exact ⟨ret_bool' HJ.out, rfl⟩
    · have HJ : Hid (false = anyJn T) := no_end hn (by rw [HL.out]; omega)
      go_wp2
      go_ret
      exact ⟨ret_bool' HJ.out, rfl⟩

/-- A piece of the text, as a string of its own. -/
theorem piece (t : ByteArray) (i m p : Nat) (h : p = i + m) : (⟨((t.data.toList.drop i).take m).toArray⟩ : ByteArray) = t.extract i p := by
  subst h
  have : (⟨((t.data.toList.drop i).take m).toArray⟩ : ByteArray).data.toList = (t.extract i (i + m)).data.toList := by
    rw [Lib.extract_data]; simp
  cases hx : t.extract i (i + m)
  rw [hx] at this
  congr 1
  exact Array.toList_inj.1 (by simpa using this)

/-- ZZAhead where no continuation is left out: the text as it stands. -/
theorem raw_any (t : ByteArray) (sp : Int) (i : Nat) (n : Int) (w : World) (hsz : t.size ≤ 1048576) (hi : i ≤ t.size) (hno : ∀ k, (jo sp && jn (t.data.toList.drop k)) = false) (p : Nat) (hp : p = i + min n.toNat (t.size - i)) :
    Calls Try.prog 9 #[.string t, .int .i64 sp, .int .i64 i, .int .i64 n] w fun e w' => e = .returned (.tuple #[.string (t.extract i p), .int .i64 (p : Int)]) ∧ Below w.heap.size w w' := by
  have h := zzahead_any t sp i n w hsz hi
  have hl : (t.data.toList.drop i).length = t.size - i := by rw [List.length_drop]; simp
  rw [rd_raw (jo sp) n.toNat _ (fun k => by rw [List.drop_drop]; exact hno _), hl] at h
  have e : (t.data.toList.drop i).take n.toNat = (t.data.toList.drop i).take (min n.toNat (t.size - i)) := by
    rw [← hl, ← List.take_take, List.take_length]
  rw [e, piece t i _ p hp] at h
  subst hp
  exact h

set_option maxHeartbeats 1000000 in
theorem raw_bare (t : ByteArray) (sp : Int) (i : Nat) (n : Int) (w : World) (hsz : t.size ≤ 1048576) (hi : i ≤ t.size) (s0 : (sp == 0) = true) (H11 : Hid (∀ w, Calls Try.prog 11 #[.string t] w fun e w' => e = .returned (.bool false) ∧ w' = w)) (HNO : Hid (∀ k, (jo sp && jn (t.data.toList.drop k)) = false)) :
    Calls Try.prog 4 #[.string t, .int .i64 sp, .int .i64 i, .int .i64 n] w fun e w' => e = .returned (.bool true) ∧ Below w.heap.size w w' := by
  by_cases hn : n ≤ 0
  · have C : Hid (∀ w, Calls Try.prog 9 #[.string t, .int .i64 sp, .int .i64 i, .int .i64 n] w fun e w' => e = .returned (.tuple #[.string (t.extract i i), .int .i64 (i : Int)]) ∧ Below w.heap.size w w') :=
      fun w => raw_any t sp i n w hsz hi HNO.out i (by omega)
    go_enter Try.func4, Try.ntmps4
    go_wp2_with (first | (go_at_call 10; go_in) | fail)
    refine (H11.out _).mono ?_
    rintro e w1 ⟨rfl, rfl⟩
    go_wp2_with fail
    refine (C.out _).mono ?_
    rintro e w1 ⟨rfl, h1⟩
    go_wp2
    go_ret
    exact ⟨rfl, h1⟩
  · obtain ⟨N, rfl⟩ : ∃ N : Nat, n = N := ⟨n.toNat, by omega⟩
    by_cases hlt : N < t.size - i
    · have C : Hid (∀ w, Calls Try.prog 9 #[.string t, .int .i64 sp, .int .i64 i, .int .i64 N] w fun e w' => e = .returned (.tuple #[.string (t.extract i (i + N)), .int .i64 ((i + N : Nat) : Int)]) ∧ Below w.heap.size w w') :=
        fun w => raw_any t sp i N w hsz hi HNO.out (i + N) (by omega)
      go_enter Try.func4, Try.ntmps4
      go_wp2_with (first | (go_at_call 10; go_in) | fail)
      refine (H11.out _).mono ?_
      rintro e w1 ⟨rfl, rfl⟩
      go_wp2_with fail
      refine (C.out _).mono ?_
      rintro e w1 ⟨rfl, h1⟩
      go_wp2
      go_ret
      exact ⟨rfl, h1⟩
    · have C : Hid (∀ w, Calls Try.prog 9 #[.string t, .int .i64 sp, .int .i64 i, .int .i64 N] w fun e w' => e = .returned (.tuple #[.string (t.extract i t.size), .int .i64 (t.size : Int)]) ∧ Below w.heap.size w w') :=
        fun w => raw_any t sp i N w hsz hi HNO.out t.size (by omega)
      have hlt' : ¬ (N : Int) < (t.size : Int) - (i : Int) := by omega
      go_enter Try.func4, Try.ntmps4
      go_wp2_with (first | (go_at_call 10; go_in) | fail)
      refine (H11.out _).mono ?_
      rintro e w1 ⟨rfl, rfl⟩
      go_wp2_with fail
      refine (C.out _).mono ?_
      rintro e w1 ⟨rfl, h1⟩
      go_wp2
      go_ret
      exact ⟨rfl, h1⟩

set_option maxHeartbeats 1000000 in
theorem raw_quoted (t : ByteArray) (sp : Int) (i : Nat) (n : Int) (w : World) (hsz : t.size ≤ 1048576) (hi : i ≤ t.size) (s0 : (sp == 0) = false) (s2 : (sp == 2) = true) (H11 : Hid (∀ w, Calls Try.prog 11 #[.string t] w fun e w' => e = .returned (.bool false) ∧ w' = w)) (HNO : Hid (∀ k, (jo sp && jn (t.data.toList.drop k)) = false)) :
    Calls Try.prog 4 #[.string t, .int .i64 sp, .int .i64 i, .int .i64 n] w fun e w' => e = .returned (.bool true) ∧ Below w.heap.size w w' := by
  by_cases hn : n ≤ 0
  · have C : Hid (∀ w, Calls Try.prog 9 #[.string t, .int .i64 sp, .int .i64 i, .int .i64 n] w fun e w' => e = .returned (.tuple #[.string (t.extract i i), .int .i64 (i : Int)]) ∧ Below w.heap.size w w') :=
      fun w => raw_any t sp i n w hsz hi HNO.out i (by omega)
    go_enter Try.func4, Try.ntmps4
    go_wp2_with (first | (go_at_call 10; go_in) | fail)
    refine (H11.out _).mono ?_
    rintro e w1 ⟨rfl, rfl⟩
    go_wp2_with fail
    refine (C.out _).mono ?_
    rintro e w1 ⟨rfl, h1⟩
    go_wp2
    go_ret
    exact ⟨rfl, h1⟩
  · obtain ⟨N, rfl⟩ : ∃ N : Nat, n = N := ⟨n.toNat, by omega⟩
    by_cases hlt : N < t.size - i
    · have C : Hid (∀ w, Calls Try.prog 9 #[.string t, .int .i64 sp, .int .i64 i, .int .i64 N] w fun e w' => e = .returned (.tuple #[.string (t.extract i (i + N)), .int .i64 ((i + N : Nat) : Int)]) ∧ Below w.heap.size w w') :=
        fun w => raw_any t sp i N w hsz hi HNO.out (i + N) (by omega)
      go_enter Try.func4, Try.ntmps4
      go_wp2_with (first | (go_at_call 10; go_in) | fail)
      refine (H11.out _).mono ?_
      rintro e w1 ⟨rfl, rfl⟩
      go_wp2_with fail
      refine (C.out _).mono ?_
      rintro e w1 ⟨rfl, h1⟩
      go_wp2
      go_ret
      exact ⟨rfl, h1⟩
    · have C : Hid (∀ w, Calls Try.prog 9 #[.string t, .int .i64 sp, .int .i64 i, .int .i64 N] w fun e w' => e = .returned (.tuple #[.string (t.extract i t.size), .int .i64 (t.size : Int)]) ∧ Below w.heap.size w w') :=
        fun w => raw_any t sp i N w hsz hi HNO.out t.size (by omega)
      have hlt' : ¬ (N : Int) < (t.size : Int) - (i : Int) := by omega
      go_enter Try.func4, Try.ntmps4
      go_wp2_with (first | (go_at_call 10; go_in) | fail)
      refine (H11.out _).mono ?_
      rintro e w1 ⟨rfl, rfl⟩
      go_wp2_with fail
      refine (C.out _).mono ?_
      rintro e w1 ⟨rfl, h1⟩
      go_wp2
      go_ret
      exact ⟨rfl, h1⟩

set_option maxHeartbeats 1000000 in
theorem raw_other (t : ByteArray) (sp : Int) (i : Nat) (n : Int) (w : World) (hsz : t.size ≤ 1048576) (hi : i ≤ t.size) (s0 : (sp == 0) = false) (s2 : (sp == 2) = false) (HNO : Hid (∀ k, (jo sp && jn (t.data.toList.drop k)) = false)) :
    Calls Try.prog 4 #[.string t, .int .i64 sp, .int .i64 i, .int .i64 n] w fun e w' => e = .returned (.bool true) ∧ Below w.heap.size w w' := by
  by_cases hn : n ≤ 0
  · have C : Hid (∀ w, Calls Try.prog 9 #[.string t, .int .i64 sp, .int .i64 i, .int .i64 n] w fun e w' => e = .returned (.tuple #[.string (t.extract i i), .int .i64 (i : Int)]) ∧ Below w.heap.size w w') :=
      fun w => raw_any t sp i n w hsz hi HNO.out i (by omega)
    go_enter Try.func4, Try.ntmps4
    go_wp2_with (first | (go_at_call 10; go_in) | fail)
    refine (C.out _).mono ?_
    rintro e w1 ⟨rfl, h1⟩
    go_wp2
    go_ret
    exact ⟨rfl, h1⟩
  · obtain ⟨N, rfl⟩ : ∃ N : Nat, n = N := ⟨n.toNat, by omega⟩
    by_cases hlt : N < t.size - i
    · have C : Hid (∀ w, Calls Try.prog 9 #[.string t, .int .i64 sp, .int .i64 i, .int .i64 N] w fun e w' => e = .returned (.tuple #[.string (t.extract i (i + N)), .int .i64 ((i + N : Nat) : Int)]) ∧ Below w.heap.size w w') :=
        fun w => raw_any t sp i N w hsz hi HNO.out (i + N) (by omega)
      go_enter Try.func4, Try.ntmps4
      go_wp2_with (first | (go_at_call 10; go_in) | fail)
      refine (C.out _).mono ?_
      rintro e w1 ⟨rfl, h1⟩
      go_wp2
      go_ret
      exact ⟨rfl, h1⟩
    · have C : Hid (∀ w, Calls Try.prog 9 #[.string t, .int .i64 sp, .int .i64 i, .int .i64 N] w fun e w' => e = .returned (.tuple #[.string (t.extract i t.size), .int .i64 (t.size : Int)]) ∧ Below w.heap.size w w') :=
        fun w => raw_any t sp i N w hsz hi HNO.out t.size (by omega)
      have hlt' : ¬ (N : Int) < (t.size : Int) - (i : Int) := by omega
      go_enter Try.func4, Try.ntmps4
      go_wp2_with (first | (go_at_call 10; go_in) | fail)
      refine (C.out _).mono ?_
      rintro e w1 ⟨rfl, h1⟩
      go_wp2
      go_ret
      exact ⟨rfl, h1⟩

set_option maxHeartbeats 1000000 in
theorem raw_joined (t : ByteArray) (sp : Int) (i : Nat) (n : Int) (w : World) (hsz : t.size ≤ 1048576) (hi : i ≤ t.size) (hs : (sp == 0) = true ∨ (sp == 0) = false ∧ (sp == 2) = true) (H11 : Hid (∀ w, Calls Try.prog 11 #[.string t] w fun e w' => e = .returned (.bool true) ∧ w' = w)) :
    Calls Try.prog 4 #[.string t, .int .i64 sp, .int .i64 i, .int .i64 n] w fun e w' => e = .returned (.bool true) ∧ Below w.heap.size w w' := by
  rcases hs with s0 | ⟨s0, s2⟩
  · go_enter Try.func4, Try.ntmps4
    go_wp2_with (first | (go_at_call 10; go_in) | fail)
    refine (H11.out _).mono ?_
    rintro e w1 ⟨rfl, rfl⟩
    go_wp2
    go_ret
    exact ⟨rfl, Below.refl _ _⟩
  · go_enter Try.func4, Try.ntmps4
    go_wp2_with (first | (go_at_call 10; go_in) | fail)
    refine (H11.out _).mono ?_
    rintro e w1 ⟨rfl, rfl⟩
    go_wp2
    go_ret
    exact ⟨rfl, Below.refl _ _⟩

theorem raw_core (t : ByteArray) (sp : Int) (i : Nat) (n : Int) (w : World) (hsz : t.size ≤ 1048576) (hi : i ≤ t.size) :
    Calls Try.prog 4 #[.string t, .int .i64 sp, .int .i64 i, .int .i64 n] w fun e w' => e = .returned (.bool true) ∧ Below w.heap.size w w' := by
  have h11 := fun w => hasjoin_any t w hsz
  cases ha : anyJn t.data.toList
  · rw [ha] at h11
    have hno : Hid (∀ k, (jo sp && jn (t.data.toList.drop k)) = false) := fun k => by rw [no_any ha k]; simp
    cases s0 : (sp == 0)
    · cases s2 : (sp == 2)
      · exact raw_other t sp i n w hsz hi s0 s2 hno
      · exact raw_quoted t sp i n w hsz hi s0 s2 h11 hno
    · exact raw_bare t sp i n w hsz hi s0 h11 hno
  · rw [ha] at h11
    cases s0 : (sp == 0)
    · cases s2 : (sp == 2)
      · exact raw_other t sp i n w hsz hi s0 s2 (fun k => by simp only [jo, s0, s2]; rfl)
      · exact raw_joined t sp i n w hsz hi (.inr ⟨s0, s2⟩) h11
    · exact raw_joined t sp i n w hsz hi (.inl s0) h11
end Go.Proofs.Qxb6000644a
