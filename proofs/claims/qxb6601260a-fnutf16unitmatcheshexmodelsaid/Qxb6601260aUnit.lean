/-
  THE CONTRACTS of utf16Unit (11) and ZZUtf16Unit (7): they answer 'Plain.U' of the bytes that the slice shows; the world stands.
-/
import Derived.Test.Qxb6601260aRows
import Derived.Test.Qxb6601260aPlain
import Derived.WalkKit
import Derived.WalkSpells
import Derived.WalkLawsBesides
import Derived.ProofKit
import Derived.Below
namespace Go.Proofs.Qxb6601260a
open Go.RowKit Plain

theorem ret_int {k : IntKind} {a b : Int} (h : a = b) : Ending.returned (.int k a) = .returned (.int k b) := by rw [h]

set_option maxHeartbeats 400000 in
theorem unit_short (a : Option Addr) (len cap : Nat) (h : len < 6) (w : World) :
    Calls Try.prog 11 #[.slice a len cap] w fun e w' => e = .returned (.int .i32 (-1)) ∧ w' = w := by
  have h' : (len : Int) < 6 := by omega
  go_enter Try.func11, Try.ntmps11
  go_wp2
  go_ret
  exact ⟨rfl, rfl⟩

set_option maxHeartbeats 400000 in
theorem unit_no (b off len cap : Nat) (cs : Nat → Int) (hlen : 6 ≤ len) (_hcap : len ≤ cap) (w : World)
    (hc : ∀ i, i < 6 → w.cell? ⟨b, off + i, none⟩ = some (.int .u8 (cs i))) (e : ¬ (cs 0 = 92 ∧ cs 1 = 117)) :
    Calls Try.prog 11 #[.slice (some ⟨b, off, none⟩) len cap] w fun e w' => e = .returned (.int .i32 (-1)) ∧ w' = w := by
  have h' : ¬ (len : Int) < 6 := by omega
  have c0 : w.cell? ⟨b, off, none⟩ = some (.int .u8 (cs 0)) := by simpa using hc 0 (by omega)
  have c1 := hc 1 (by omega)
  by_cases e0 : cs 0 = 92
  · have f0 : (cs 0 != 92) = false := by simp [e0]
    have f1 : (cs 1 != 117) = true := by simp; omega
    clear e e0
    go_enter Try.func11, Try.ntmps11
    go_wp2
    go_ret
    exact ⟨rfl, rfl⟩
  · have f0 : (cs 0 != 92) = true := by simp; omega
    clear e e0
    go_enter Try.func11, Try.ntmps11
    go_wp2
    go_ret
    exact ⟨rfl, rfl⟩

set_option maxHeartbeats 1000000 in
theorem unit_yes (b off len cap : Nat) (cs : Nat → Int) (hlen : 6 ≤ len) (hcap : len ≤ cap) (w : World)
    (hb : ∀ i, i < 6 → 0 ≤ cs i ∧ cs i ≤ 255) (hc : ∀ i, i < 6 → w.cell? ⟨b, off + i, none⟩ = some (.int .u8 (cs i)))
    (E0 : Hid (cs 0 = 92)) (E1 : Hid (cs 1 = 117)) :
    Calls Try.prog 11 #[.slice (some ⟨b, off, none⟩) len cap] w fun e w' => e = .returned (.int .i32 (six cs)) ∧ w' = w := by
  have h' : ¬ (len : Int) < 6 := by omega
  have c0 : w.cell? ⟨b, off, none⟩ = some (.int .u8 (cs 0)) := by simpa using hc 0 (by omega)
  have c1 := hc 1 (by omega)
  have f0 : (cs 0 != 92) = false := by simp [E0.out]
  have f1 : (cs 1 != 117) = false := by simp [E1.out]
  go_enter Try.func11, Try.ntmps11
  go_wp2
  go_loop [3, 24] (fun u i => ∃ k : Nat, k ≤ 4 ∧ i = .int .i64 k ∧ ∃ x : Int, Inv cs k x ∧ u = .int .i32 x) (fun _ i => 4 - (intOf i).toNat)
  case atStart => exact ⟨0, by omega, rfl, 0, inv0 _, rfl⟩
  case round =>
    obtain ⟨k, hk, rfl, x, hx, rfl⟩ := hrel
    by_cases hk4 : k < 4
    · have ck : w.cell? ⟨b, off + 2 + k, none⟩ = some (.int .u8 (cs (2 + k))) := by have := hc (2 + k) (by omega); rwa [← Nat.add_assoc] at this
      obtain ⟨l0, l1⟩ := hb (2 + k) (by omega)
      obtain ⟨x0, x1⟩ := inv_bd hx (by omega)
      clear hb hc c0 c1 f0 f1
      by_cases d1 : 48 ≤ cs (2 + k) ∧ cs (2 + k) ≤ 57
      · have R := inv_dig hx (by omega) d1.1 d1.2
        obtain ⟨d1, d2⟩ := d1
        clear hx
        go_wp2
        go_round
        case rel => exact ⟨k + 1, by omega, by go_num, _, R, rfl⟩
        case measure => simp [intOf]; omega
      · by_cases d2 : 97 ≤ cs (2 + k) ∧ cs (2 + k) ≤ 102
        · have R := inv_low hx (by omega) d2.1 d2.2
          obtain ⟨d2, d3⟩ := d2
          have d1' : 57 < cs (2 + k) := by omega
          clear hx d1
          go_wp2
          go_round
          case rel => exact ⟨k + 1, by omega, by go_num, _, R, rfl⟩
          case measure => simp [intOf]; omega
        · by_cases d3 : 65 ≤ cs (2 + k) ∧ cs (2 + k) ≤ 70
          · have R := inv_upp hx (by omega) d3.1 d3.2
            obtain ⟨d3, d4⟩ := d3
            have d1' : 57 < cs (2 + k) := by omega
            have d2' : cs (2 + k) < 97 := by omega
            clear hx d1 d2
            go_wp2
            go_round
            case rel => exact ⟨k + 1, by omega, by go_num, _, R, rfl⟩
            case measure => simp [intOf]; omega
          · have B := bad_six E0.out E1.out hk4 ⟨d1, d2, d3⟩
            have HB : Hid ((-1 : Int) = six cs) := B
            have D : cs (2 + k) < 48 ∨ (57 < cs (2 + k) ∧ cs (2 + k) < 65) ∨ (70 < cs (2 + k) ∧ cs (2 + k) < 97) ∨ 102 < cs (2 + k) := by omega
            clear B hx d1 d2 d3
            rcases D with D | ⟨D, D2⟩ | ⟨D, D2⟩ | D
            all_goals
              go_wp2
              go_ret
              exact ⟨ret_int HB.out, rfl⟩
    · obtain rfl : k = 4 := by omega
      have HB : Hid (x = six cs) := end_six E0.out E1.out hx
      clear hb hc c0 c1 f0 f1 hx
      go_wp2
      go_ret
      exact ⟨ret_int HB.out, rfl⟩

/-- THE CONTRACT OF utf16Unit, at whatever slice of bytes. -/
theorem unit_any (a : Option Addr) (len cap : Nat) (xs : List Int) (w : World) (hl : xs.length = len) (hcap : len ≤ cap)
    (hc : 0 < len → ∃ b off, a = some ⟨b, off, none⟩ ∧ ∀ i, i < len → w.cell? ⟨b, off + i, none⟩ = some (.int .u8 (xs.getD i 0)))
    (hb : ∀ i, i < len → 0 ≤ xs.getD i 0 ∧ xs.getD i 0 ≤ 255) :
    Calls Try.prog 11 #[.slice a len cap] w fun e w' => e = .returned (.int .i32 (U xs)) ∧ w' = w := by
  subst hl
  by_cases h6 : xs.length < 6
  · have e : U xs = -1 := by unfold U; rw [if_pos h6]
    rw [e]
    exact unit_short a _ cap h6 w
  · have e : U xs = six (fun i => xs.getD i 0) := by unfold U; rw [if_neg h6]
    rw [e]
    obtain ⟨b, off, rfl, hcell⟩ := hc (by omega)
    by_cases he : xs.getD 0 0 = 92 ∧ xs.getD 1 0 = 117
    · exact unit_yes b off _ cap (fun i => xs.getD i 0) (by omega) hcap w (fun i hi => hb i (by omega)) (fun i hi => hcell i (by omega)) he.1 he.2
    · rw [← not_six (cs := fun i => xs.getD i 0) he]
      exact unit_no b off _ cap (fun i => xs.getD i 0) (by omega) hcap w (fun i hi => hcell i (by omega)) he

set_option maxHeartbeats 400000 in
theorem zzunit_any (a : Option Addr) (len cap : Nat) (xs : List Int) (w : World) (hl : xs.length = len) (hcap : len ≤ cap)
    (hc : 0 < len → ∃ b off, a = some ⟨b, off, none⟩ ∧ ∀ i, i < len → w.cell? ⟨b, off + i, none⟩ = some (.int .u8 (xs.getD i 0)))
    (hb : ∀ i, i < len → 0 ≤ xs.getD i 0 ∧ xs.getD i 0 ≤ 255) :
    Calls Try.prog 7 #[.slice a len cap] w fun e w' => e = .returned (.int .i32 (U xs)) ∧ w' = w := by
  have C : Hid (Calls Try.prog 11 #[.slice a len cap] w fun e w' => e = .returned (.int .i32 (U xs)) ∧ w' = w) := unit_any a len cap xs w hl hcap hc hb
  clear hl hcap hc hb
  go_enter Try.func7, Try.ntmps7
  go_wp2_with fail
  refine (C.out).mono ?_
  rintro e w' ⟨rfl, rfl⟩
  go_wp2
  go_ret
  exact ⟨rfl, rfl⟩
end Go.Proofs.Qxb6601260a
