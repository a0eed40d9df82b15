/-
  THE WALK of FnAheadSplits (3).
-/
import Derived.Test.Qxb6000644aAhead2
namespace Go.Proofs.Qxb6000644a
open Go.RowKit Plain

/-- The three readings that the law makes, and how they hang together. -/
theorem three (t : ByteArray) (sp : Int) (i : Nat) (a b : Int) (hsz : t.size ≤ 1048576) (hi : i ≤ t.size) (ha : 0 ≤ a) (hb : 0 ≤ b) :
    ∃ (s1 s2 s3 : ByteArray) (p1 p2 : Nat), i ≤ p1 ∧ p1 ≤ t.size ∧ (s1.size : Int) ≤ a ∧ (s2.size : Int) ≤ b ∧ Hid ((s3.toList == (s1 ++ s2).toList) = true) ∧
      Hid (∀ w, Calls Try.prog 9 #[.string t, .int .i64 sp, .int .i64 i, .int .i64 a] w fun e w' => e = .returned (.tuple #[.string s1, .int .i64 p1]) ∧ Below w.heap.size w w') ∧
      Hid (∀ w, Calls Try.prog 9 #[.string t, .int .i64 sp, .int .i64 p1, .int .i64 b] w fun e w' => e = .returned (.tuple #[.string s2, .int .i64 p2]) ∧ Below w.heap.size w w') ∧
      Hid (∀ w, Calls Try.prog 9 #[.string t, .int .i64 sp, .int .i64 i, .int .i64 (a + b)] w fun e w' => e = .returned (.tuple #[.string s3, .int .i64 p2]) ∧ Below w.heap.size w w') := by
  obtain ⟨T, hT⟩ : ∃ T, T = t.data.toList := ⟨_, rfl⟩
  have hTl : T.length = t.size := by rw [hT]; simp
  have e := rd_add (jo sp) b.toNat a.toNat (T.drop i)
  have l1 := rd_le (jo sp) a.toNat (T.drop i)
  obtain ⟨x1, h1⟩ : ∃ x, x = rd (jo sp) (T.drop i) a.toNat := ⟨_, rfl⟩
  rw [← h1] at e l1
  rw [List.drop_drop] at e
  have l2 := rd_le (jo sp) b.toNat (T.drop (i + x1.2))
  obtain ⟨x2, h2⟩ : ∃ x, x = rd (jo sp) (T.drop (i + x1.2)) b.toNat := ⟨_, rfl⟩
  rw [← h2] at e l2
  rw [List.length_drop] at l1 l2
  refine ⟨⟨x1.1.toArray⟩, ⟨x2.1.toArray⟩, ⟨(x1.1 ++ x2.1).toArray⟩, i + x1.2, i + x1.2 + x2.2, by omega, by omega, ?_, ?_, ?_, ?_, ?_, ?_⟩
  · show ((x1.1.toArray.size : Nat) : Int) ≤ a
    simp; omega
  · show ((x2.1.toArray.size : Nat) : Int) ≤ b
    simp; omega
  · show (_ == _) = true
    rw [Lib.toList_data, Lib.toList_data]
    simp
  · intro w
    have := zzahead_any t sp i a w hsz hi
    rw [← hT, ← h1] at this
    exact this
  · intro w
    have := zzahead_any t sp (i + x1.2) b w hsz (by omega)
    rw [← hT, ← h2] at this
    exact this
  · intro w
    have := zzahead_any t sp i (a + b) w hsz hi
    rw [← hT, show (a + b).toNat = a.toNat + b.toNat by omega, e] at this
    rw [Nat.add_assoc]
    exact this

set_option maxHeartbeats 1000000 in
theorem splits_core (t : ByteArray) (sp : Int) (i : Nat) (a b : Int) (w : World) (hsz : t.size ≤ 1048576) (hi : i ≤ t.size) (ha : 0 ≤ a) (hb : 0 ≤ b) (ha1 : a ≤ 536870912) (hb1 : b ≤ 536870912) :
    Calls Try.prog 3 #[.string t, .int .i64 sp, .int .i64 i, .int .i64 a, .int .i64 b] w fun e w' => e = .returned (.bool true) ∧ Below w.heap.size w w' := by
  obtain ⟨s1, s2, s3, p1, p2, g1, g2, g3, g4, HS, C1, C2, C3⟩ := three t sp i a b hsz hi ha hb
  have hs := HS.out
  go_enter Try.func3, Try.ntmps3
  go_wp2_with (first | (go_at_call 8; go_in) | fail)
  refine (C1.out _).mono ?_
  rintro e w1 ⟨rfl, h1⟩
  go_wp2_with fail
  refine (C2.out _).mono ?_
  rintro e w2 ⟨rfl, h2⟩
  go_wp2_with fail
  refine (C3.out _).mono ?_
  rintro e w3 ⟨rfl, h3⟩
  go_wp2
  go_ret
  exact ⟨rfl, h1.trans ((h2.trans (h3.mono h2.size)).mono h1.size)⟩
end Go.Proofs.Qxb6000644a
