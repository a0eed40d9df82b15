/-
  THE CONTRACTS of top (29), joins (30), strings.HasPrefix at a backslash and a line break (31), joinAt (25).
-/
import Derived.Test.Qxb6000644aRows
import Derived.WalkKit
import Derived.WalkSpells
import Derived.WalkLawsBesides
import Derived.ProofKit
import Derived.Below
import Derived.RegionTactic
import Derived.ChangeAlike
import Derived.Deep.QuietTactic
import Derived.BigQuiet
import Derived.Lib.Strings
import Derived.Test.Qxb6000644aPlain
namespace Go.Proofs.Qxb6000644a
open Go.RowKit Plain

set_option maxHeartbeats 400000 in
theorem top_any (be bs cap : Nat) (w : World) (hs : w.cell? ⟨be, 5, none⟩ = some (.slice (some ⟨bs, 0, none⟩) 1 cap)) :
    Calls Try.prog 29 #[.pointer (some ⟨be, 0, none⟩)] w fun e w' => e = .returned (.pointer (some ⟨bs, 0, none⟩)) ∧ ∃ n, w' = w.drewN n := by
  go_enter Try.func29, Try.ntmps29
  go_wp2
  go_quiet (fail)
  go_wp2
  go_ret
  exact ⟨rfl, _, rfl⟩

set_option maxHeartbeats 400000 in
theorem joins_any (bs : Nat) (sp : Int) (w : World) (hs : w.cell? ⟨bs, 0, none⟩ = some (.int .i64 sp)) :
    Calls Try.prog 30 #[.pointer (some ⟨bs, 0, none⟩)] w fun e w' => e = .returned (.bool (sp == 0 || sp == 2)) ∧ w' = w := by
  cases h0 : (sp == 0)
  · go_enter Try.func30, Try.ntmps30
    go_wp2
    go_ret
    exact ⟨by simp, rfl⟩
  · go_enter Try.func30, Try.ntmps30
    go_wp2
    go_ret
    exact ⟨by simp, rfl⟩

theorem ret_bool {a b : Bool} (h : a = b) : Ending.returned (.bool a) = .returned (.bool b) := by rw [h]

theorem pre_jn (s : ByteArray) (h : 2 ≤ s.size) : ((s.extract 0 2).toList == [92, 10]) = jn s.data.toList := by
  rw [Lib.toList_data, Lib.extract_data]
  have hl : s.data.toList.length = s.size := by simp
  match hd : s.data.toList with
  | [] => rw [hd] at hl; simp at hl; omega
  | [_] => rw [hd] at hl; simp at hl; omega
  | c :: d :: r =>
    simp only [List.drop_zero, jn]
    show ([c, d] == [92, 10]) = _
    simp

set_option maxHeartbeats 400000 in
theorem prefix_any (s : ByteArray) (w : World) (hsz : s.size ≤ 1048576) :
    Calls Try.prog 31 #[.string s, .string { data := #[92, 10] }] w fun e w' => e = .returned (.bool (jn s.data.toList)) ∧ w' = w := by
  by_cases h2 : 2 ≤ s.size
  · go_enter Try.func31, Try.ntmps31
    go_wp2
    go_ret
    exact ⟨ret_bool (pre_jn s h2), rfl⟩
  · have HJ : Hid (false = jn s.data.toList) := by
      show _ = _
      match h : s.data.toList with
      | [] => rfl
      | [_] => rfl
      | _ :: _ :: _ => exact absurd (congrArg List.length h) (by simp; have : s.data.size = s.size := rfl; omega)
    go_enter Try.func31, Try.ntmps31
    go_wp2
    go_ret
    exact ⟨ret_bool HJ.out, rfl⟩

set_option maxHeartbeats 400000 in
theorem join_yes (be bs cap : Nat) (t : ByteArray) (sp : Int) (i : Nat) (w : World) (ht : w.cell? ⟨be, 0, none⟩ = some (.string t)) (hs : w.cell? ⟨be, 5, none⟩ = some (.slice (some ⟨bs, 0, none⟩) 1 cap)) (hf : w.cell? ⟨bs, 0, none⟩ = some (.int .i64 sp))
    (hsz : t.size ≤ 1048576) (hi : i ≤ t.size) (hj : (sp == 0 || sp == 2) = true) :
    Calls Try.prog 25 #[.pointer (some ⟨be, 0, none⟩), .int .i64 i] w fun e w' => e = .returned (.bool (jn (t.data.toList.drop i))) ∧ ∃ n, w' = w.drewN n := by
  have C2 : Hid (∀ w : World, w.cell? ⟨bs, 0, none⟩ = some (.int .i64 sp) → Calls Try.prog 30 #[.pointer (some ⟨bs, 0, none⟩)] w fun e w' => e = .returned (.bool true) ∧ w' = w) := by
    intro w hf
    have := joins_any bs sp w hf
    rwa [hj] at this
  clear hj
  go_enter Try.func25, Try.ntmps25
  go_wp2_with fail
  refine (top_any be bs cap _ hs).mono ?_
  rintro e w1 ⟨rfl, n, rfl⟩
  go_wp2_with fail
  refine (C2.out _ (by simpa using hf)).mono ?_
  rintro e w1 ⟨rfl, rfl⟩
  go_wp2_with fail
  refine (prefix_any _ _ (by simp; omega)).mono ?_
  rintro e w1 ⟨rfl, rfl⟩
  go_wp2
  go_ret
  exact ⟨ret_bool (by rw [List.take_of_length_le (by simp)]), _, rfl⟩

set_option maxHeartbeats 400000 in
theorem join_no (be bs cap : Nat) (sp : Int) (i : Nat) (w : World) (hs : w.cell? ⟨be, 5, none⟩ = some (.slice (some ⟨bs, 0, none⟩) 1 cap)) (hf : w.cell? ⟨bs, 0, none⟩ = some (.int .i64 sp))
    (hj : (sp == 0 || sp == 2) = false) :
    Calls Try.prog 25 #[.pointer (some ⟨be, 0, none⟩), .int .i64 i] w fun e w' => e = .returned (.bool false) ∧ ∃ n, w' = w.drewN n := by
  have C2 : Hid (∀ w : World, w.cell? ⟨bs, 0, none⟩ = some (.int .i64 sp) → Calls Try.prog 30 #[.pointer (some ⟨bs, 0, none⟩)] w fun e w' => e = .returned (.bool false) ∧ w' = w) := by
    intro w hf
    have := joins_any bs sp w hf
    rwa [hj] at this
  clear hj
  go_enter Try.func25, Try.ntmps25
  go_wp2_with fail
  refine (top_any be bs cap _ hs).mono ?_
  rintro e w1 ⟨rfl, n, rfl⟩
  go_wp2_with fail
  refine (C2.out _ (by simpa using hf)).mono ?_
  rintro e w1 ⟨rfl, rfl⟩
  go_wp2
  go_ret
  exact ⟨rfl, _, rfl⟩

/-- Does a frame of this kind follow line continuations? -/
def jo (sp : Int) : Bool := sp == 0 || sp == 2

theorem join_any (be bs cap : Nat) (t : ByteArray) (sp : Int) (i : Nat) (w : World) (ht : w.cell? ⟨be, 0, none⟩ = some (.string t)) (hs : w.cell? ⟨be, 5, none⟩ = some (.slice (some ⟨bs, 0, none⟩) 1 cap)) (hf : w.cell? ⟨bs, 0, none⟩ = some (.int .i64 sp))
    (hsz : t.size ≤ 1048576) (hi : i ≤ t.size) {r : Bool} (hr : (jo sp && jn (t.data.toList.drop i)) = r) :
    Calls Try.prog 25 #[.pointer (some ⟨be, 0, none⟩), .int .i64 i] w fun e w' => e = .returned (.bool r) ∧ ∃ n, w' = w.drewN n := by
  subst hr
  cases hj : jo sp
  · exact join_no be bs cap sp i w hs hf hj
  · exact join_yes be bs cap t sp i w ht hs hf hsz hi hj
end Go.Proofs.Qxb6000644a
