/-
  THE CONTRACTS of hexValue (12) and unitModel (8): 'Plain.hexv', 'Plain.U'.
-/
import Derived.Test.Qxb6601260aUnit
import Derived.Test.Qxb6601260aHexPlain
namespace Go.Proofs.Qxb6601260a
open Go.RowKit Plain

namespace Plain
theorem hexv_at (k : Nat) (h : k < 16) : hexv (hexCh k) = k := (hexCh_low k h).1
theorem hexv_at2 (k : Nat) (h0 : 16 ≤ k) (h : k < 22) : hexv (hexCh k) = (k : Int) - 6 := by
  have := (hexCh_upp (k - 6) (by omega) (by omega)).1
  rw [show k - 6 + 6 = k by omega] at this
  omega
theorem hexCh_dig (n : Nat) (h : n < 10) : hexCh n = 48 + n := by
  have key : ∀ e : Fin 10, hexCh e.val = 48 + e.val := by decide
  exact key ⟨n, h⟩
theorem hexCh_let (n : Nat) (h : n < 6) : hexCh (10 + n) = 97 + n := by
  have key : ∀ e : Fin 6, hexCh (10 + e.val) = 97 + e.val := by decide
  exact key ⟨n, h⟩
theorem hexCh_cap (n : Nat) (h : n < 6) : hexCh (16 + n) = 65 + n := by
  have key : ∀ e : Fin 6, hexCh (16 + e.val) = 65 + e.val := by decide
  exact key ⟨n, h⟩
theorem hexv_none (c : Int) (h : ∀ j, j < 22 → hexCh j ≠ c) : (-1 : Int) = hexv c := by
  refine (hexv_bad ⟨fun ⟨a, b⟩ => ?_, fun ⟨a, b⟩ => ?_, fun ⟨a, b⟩ => ?_⟩).symm
  · exact h (c - 48).toNat (by omega) (by rw [hexCh_dig _ (by omega)]; omega)
  · exact h (10 + (c - 97).toNat) (by omega) (by rw [hexCh_let _ (by omega)]; omega)
  · exact h (16 + (c - 65).toNat) (by omega) (by rw [hexCh_cap _ (by omega)]; omega)
/-- No digit among the first k of hexDigits is c. -/
def NoneTo (c : Int) (k : Nat) : Prop := ∀ j, j < k → hexCh j ≠ c
theorem none_step {c : Int} {k : Nat} (h : NoneTo c k) (hk : hexCh k ≠ c) : NoneTo c (k + 1) := fun j hj => by
  by_cases e : j = k
  · rw [e]; exact hk
  · exact h j (by omega)
theorem hexEq {c : Int} (k : Nat) (h : k < ({ data := #[48, 49, 50, 51, 52, 53, 54, 55, 56, 57, 97, 98, 99, 100, 101, 102, 65, 66, 67, 68, 69, 70] } : ByteArray).size) (t : (((({ data := #[48, 49, 50, 51, 52, 53, 54, 55, 56, 57, 97, 98, 99, 100, 101, 102, 65, 66, 67, 68, 69, 70] } : ByteArray)[k]'h).toNat : Int) == c) = true) : hexCh k = c := by
  rw [← hexAt k h]; simpa using t
theorem hexNe {c : Int} (k : Nat) (h : k < ({ data := #[48, 49, 50, 51, 52, 53, 54, 55, 56, 57, 97, 98, 99, 100, 101, 102, 65, 66, 67, 68, 69, 70] } : ByteArray).size) (t : (((({ data := #[48, 49, 50, 51, 52, 53, 54, 55, 56, 57, 97, 98, 99, 100, 101, 102, 65, 66, 67, 68, 69, 70] } : ByteArray)[k]'h).toNat : Int) == c) = false) : hexCh k ≠ c := by
  rw [← hexAt k h]; simpa using t
end Plain

set_option maxHeartbeats 1000000 in
theorem hex_any (c : Int) (w : World) (_h0 : 0 ≤ c) (_h1 : c ≤ 255) :
    Calls Try.prog 12 #[.int .u8 c] w fun e w' => e = .returned (.int .i32 (hexv c)) ∧ w' = w := by
  go_enter Try.func12, Try.ntmps12
  go_wp2
  go_loop [3] (fun i => ∃ k : Nat, k ≤ 22 ∧ i = .int .i64 k ∧ NoneTo c k) (fun i => 22 - (intOf i).toNat)
  case atStart => exact ⟨0, by omega, rfl, fun j hj => by omega⟩
  case round =>
    obtain ⟨k, hk, rfl, hn⟩ := hrel
    by_cases hk2 : k < 22
    · by_cases h16 : k < 16
      · go_wp2
        · have e := hexEq k hk2 (by assumption)
          go_ret
          exact ⟨ret_int (by rw [← e, hexv_at k h16]), rfl⟩
        · have e := hexNe k hk2 (by assumption)
          go_round
          case rel => exact ⟨k + 1, by omega, by go_num, none_step hn e⟩
          case measure => simp [intOf]; omega
      · go_wp2
        · have e := hexEq k hk2 (by assumption)
          go_ret
          exact ⟨ret_int (by rw [← e, hexv_at2 k (by omega) hk2]), rfl⟩
        · have e := hexNe k hk2 (by assumption)
          go_round
          case rel => exact ⟨k + 1, by omega, by go_num, none_step hn e⟩
          case measure => simp [intOf]; omega
    · have HB : Hid ((-1 : Int) = hexv c) := hexv_none c (fun j hj => hn j (by omega))
      go_wp2
      go_ret
      exact ⟨ret_int HB.out, rfl⟩

set_option maxHeartbeats 400000 in
theorem model_short (a : Option Addr) (len cap : Nat) (h : len < 6) (w : World) :
    Calls Try.prog 8 #[.slice a len cap] w fun e w' => e = .returned (.int .i32 (-1)) ∧ w' = w := by
  have h' : (len : Int) < 6 := by omega
  go_enter Try.func8, Try.ntmps8
  go_wp2
  go_ret
  exact ⟨rfl, rfl⟩

set_option maxHeartbeats 400000 in
theorem model_no (b off len cap : Nat) (cs : Nat → Int) (hlen : 6 ≤ len) (w : World)
    (hc : ∀ i, i < 6 → w.cell? ⟨b, off + i, none⟩ = some (.int .u8 (cs i))) (e : ¬ (cs 0 = 92 ∧ cs 1 = 117)) :
    Calls Try.prog 8 #[.slice (some ⟨b, off, none⟩) len cap] w fun e w' => e = .returned (.int .i32 (-1)) ∧ w' = w := by
  have h' : ¬ (len : Int) < 6 := by omega
  have c0 : w.cell? ⟨b, off, none⟩ = some (.int .u8 (cs 0)) := by simpa using hc 0 (by omega)
  have c1 := hc 1 (by omega)
  by_cases e0 : cs 0 = 92
  · have f0 : (cs 0 != 92) = false := by simp [e0]
    have f1 : (cs 1 != 117) = true := by simp; omega
    clear e e0
    go_enter Try.func8, Try.ntmps8
    go_wp2
    go_ret
    exact ⟨rfl, rfl⟩
  · have f0 : (cs 0 != 92) = true := by simp; omega
    clear e e0
    go_enter Try.func8, Try.ntmps8
    go_wp2
    go_ret
    exact ⟨rfl, rfl⟩

set_option maxHeartbeats 1000000 in
theorem model_yes (b off len cap : Nat) (cs : Nat → Int) (hlen : 6 ≤ len) (w : World)
    (hb : ∀ i, i < 6 → 0 ≤ cs i ∧ cs i ≤ 255) (hc : ∀ i, i < 6 → w.cell? ⟨b, off + i, none⟩ = some (.int .u8 (cs i)))
    (E0 : Hid (cs 0 = 92)) (E1 : Hid (cs 1 = 117)) :
    Calls Try.prog 8 #[.slice (some ⟨b, off, none⟩) len cap] w fun e w' => e = .returned (.int .i32 (six cs)) ∧ w' = w := by
  have h' : ¬ (len : Int) < 6 := by omega
  have c0 : w.cell? ⟨b, off, none⟩ = some (.int .u8 (cs 0)) := by simpa using hc 0 (by omega)
  have c1 := hc 1 (by omega)
  have c2 := hc 2 (by omega)
  have c3 := hc 3 (by omega)
  have c4 := hc 4 (by omega)
  have c5 := hc 5 (by omega)
  have f0 : (cs 0 != 92) = false := by simp [E0.out]
  have f1 : (cs 1 != 117) = false := by simp [E1.out]
  have b2 := hb 2 (by omega)
  have b3 := hb 3 (by omega)
  have b4 := hb 4 (by omega)
  have b5 := hb 5 (by omega)
  obtain ⟨x0, hx0⟩ : ∃ x, x = hexv (cs 2) := ⟨_, rfl⟩
  obtain ⟨x1, hx1⟩ : ∃ x, x = hexv (cs 3) := ⟨_, rfl⟩
  obtain ⟨x2, hx2⟩ : ∃ x, x = hexv (cs 4) := ⟨_, rfl⟩
  obtain ⟨x3, hx3⟩ : ∃ x, x = hexv (cs 5) := ⟨_, rfl⟩
  have C2 : Hid (Calls Try.prog 12 #[.int .u8 (cs 2)] w fun e w' => e = .returned (.int .i32 x0) ∧ w' = w) := by rw [hx0]; exact hex_any _ _ b2.1 b2.2
  have C3 : Hid (Calls Try.prog 12 #[.int .u8 (cs 3)] w fun e w' => e = .returned (.int .i32 x1) ∧ w' = w) := by rw [hx1]; exact hex_any _ _ b3.1 b3.2
  have C4 : Hid (Calls Try.prog 12 #[.int .u8 (cs 4)] w fun e w' => e = .returned (.int .i32 x2) ∧ w' = w) := by rw [hx2]; exact hex_any _ _ b4.1 b4.2
  have C5 : Hid (Calls Try.prog 12 #[.int .u8 (cs 5)] w fun e w' => e = .returned (.int .i32 x3) ∧ w' = w) := by rw [hx3]; exact hex_any _ _ b5.1 b5.2
  have l0 : -1 ≤ x0 ∧ x0 ≤ 15 := by rw [hx0]; exact hexv_le _
  have l1 : -1 ≤ x1 ∧ x1 ≤ 15 := by rw [hx1]; exact hexv_le _
  have l2 : -1 ≤ x2 ∧ x2 ≤ 15 := by rw [hx2]; exact hexv_le _
  have l3 : -1 ≤ x3 ∧ x3 ≤ 15 := by rw [hx3]; exact hexv_le _
  obtain ⟨l0, m0⟩ := l0
  obtain ⟨l1, m1⟩ := l1
  obtain ⟨l2, m2⟩ := l2
  obtain ⟨l3, m3⟩ := l3
  have HS : Hid (six cs = comb x0 x1 x2 x3) := by show _ = _; unfold six; rw [if_pos ⟨E0.out, E1.out⟩, hx0, hx1, hx2, hx3]
  clear hx0 hx1 hx2 hx3 hb hc b2 b3 b4 b5
  go_enter Try.func8, Try.ntmps8
  go_wp2_with fail
  refine (C2.out).mono ?_
  rintro e w' ⟨rfl, rfl⟩
  go_wp2_with fail
  refine (C3.out).mono ?_
  rintro e w' ⟨rfl, rfl⟩
  go_wp2_with fail
  refine (C4.out).mono ?_
  rintro e w' ⟨rfl, rfl⟩
  go_wp2_with fail
  refine (C5.out).mono ?_
  rintro e w' ⟨rfl, rfl⟩
  clear C2 C3 C4 C5 c0 c1 c2 c3 c4 c5
  by_cases n : x0 < 0 ∨ x1 < 0 ∨ x2 < 0 ∨ x3 < 0
  · have HN : Hid ((-1 : Int) = six cs) := by show _ = _; rw [HS.out, comb_neg n]
    by_cases n0 : x0 < 0
    · go_wp2
      go_ret
      exact ⟨ret_int HN.out, rfl⟩
    · by_cases n1 : x1 < 0
      · go_wp2
        go_ret
        exact ⟨ret_int HN.out, rfl⟩
      · by_cases n2 : x2 < 0
        · go_wp2
          go_ret
          exact ⟨ret_int HN.out, rfl⟩
        · have n3 : x3 < 0 := by omega
          go_wp2
          go_ret
          exact ⟨ret_int HN.out, rfl⟩
  · have HN : Hid (x0 * 4096 + x1 * 256 + x2 * 16 + x3 = six cs) := by show _ = _; rw [HS.out, comb_pos n]
    have n0 : 0 ≤ x0 := by omega
    have n1 : 0 ≤ x1 := by omega
    have n2 : 0 ≤ x2 := by omega
    have n3 : 0 ≤ x3 := by omega
    clear n
    go_wp2
    go_ret
    exact ⟨ret_int HN.out, rfl⟩

/-- THE CONTRACT OF unitModel, at whatever slice of bytes. -/
theorem model_any (a : Option Addr) (len cap : Nat) (xs : List Int) (w : World) (hl : xs.length = len)
    (hc : 0 < len → ∃ b off, a = some ⟨b, off, none⟩ ∧ ∀ i, i < len → w.cell? ⟨b, off + i, none⟩ = some (.int .u8 (xs.getD i 0)))
    (hb : ∀ i, i < len → 0 ≤ xs.getD i 0 ∧ xs.getD i 0 ≤ 255) :
    Calls Try.prog 8 #[.slice a len cap] w fun e w' => e = .returned (.int .i32 (U xs)) ∧ w' = w := by
  subst hl
  by_cases h6 : xs.length < 6
  · have e : U xs = -1 := by unfold U; rw [if_pos h6]
    rw [e]
    exact model_short a _ cap h6 w
  · have e : U xs = six (fun i => xs.getD i 0) := by unfold U; rw [if_neg h6]
    rw [e]
    obtain ⟨b, off, rfl, hcell⟩ := hc (by omega)
    by_cases he : xs.getD 0 0 = 92 ∧ xs.getD 1 0 = 117
    · exact model_yes b off _ cap (fun i => xs.getD i 0) (by omega) w (fun i hi => hb i (by omega)) (fun i hi => hcell i (by omega)) he.1 he.2
    · rw [← not_six (cs := fun i => xs.getD i 0) he]
      exact model_no b off _ cap (fun i => xs.getD i 0) (by omega) w (fun i hi => hcell i (by omega)) he
end Go.Proofs.Qxb6601260a
