/-
  THE CONTRACT of parseFieldLineB1 (21) at a line 'name: value' CR LF whose name holds no colon.
-/
import Derived.Test.Qxb6001118aParts
import Derived.Laws.IdiomStrings
import Derived.Deep.QuietTactic
import Derived.BigQuiet
namespace Go.Proofs.Qxb6001118a
open Go.RowKit

theorem u8_eq (c : UInt8) (n : Nat) (hn : n < 256) : ((c.toNat : Int) == (n : Int)) = (c == UInt8.ofNat n) := by
  rw [Bool.eq_iff_iff]
  simp only [beq_iff_eq]
  constructor
  · intro h; exact UInt8.toNat_inj.1 (by simp; omega)
  · intro h; rw [h]; simp; omega

set_option maxHeartbeats 1000000 in
theorem parse_core (b off k m cap : Nat) (f : Nat → Int) (nm vl : ByteArray) (w : World) (hk : k ≤ 1048576) (hm : m ≤ 1048576) (hcap : k + m + 4 ≤ cap)
    (hN : ∀ j, j < k → (f j == 58) = false) (hF : ∀ j, j < k → w.cell? ⟨b, off + j, none⟩ = some (.int .u8 (f j)))
    (c58 : w.cell? ⟨b, off + k, none⟩ = some (.int .u8 58)) (c32 : w.cell? ⟨b, off + (k + 1), none⟩ = some (.int .u8 32)) (c13 : w.cell? ⟨b, off + (k + m + 2), none⟩ = some (.int .u8 13)) (c10 : w.cell? ⟨b, off + (k + m + 3), none⟩ = some (.int .u8 10))
    (hv1 : ∀ j, (convert 26 9 (.slice (some ⟨b, off, none⟩) k cap)).run Try.prog (w.drewN j) = .ok (.string nm) (w.drewN j))
    (hv2 : ∀ j, (convert 26 9 (.slice (some ⟨b, off + (k + 2), none⟩) m (cap - (k + 2)))).run Try.prog (w.drewN j) = .ok (.string vl) (w.drewN j)) :
    Calls Try.prog 21 #[.slice (some ⟨b, off, none⟩) (k + m + 4) cap] w fun e w' => e = .returned (.tuple #[.string nm, .string vl, .bool true]) ∧ ∃ n, w' = w.drewN n := by
  have HN : Hid (∀ j, j < k → (f j == 58) = false) := hN
  have HF : Hid (∀ j, j < k → w.cell? ⟨b, off + j, none⟩ = some (.int .u8 (f j))) := hF
  clear hN hF
  go_enter Try.func21, Try.ntmps21
  go_wp2
  go_loop [5, 6] (fun q i => ∃ j : Nat, j ≤ k ∧ i = .int .i64 j ∧ q = .int .i64 (-1)) (fun _ i => k + 1 - (intOf i).toNat)
  case atStart => exact ⟨0, by omega, rfl, rfl⟩
  case round =>
    obtain ⟨j, hj, rfl, rfl⟩ := hrel
    by_cases hlt : j < k
    · have q1 := HF.out j hlt
      have q2 := HN.out j hlt
      go_wp2
      go_round
      case rel => exact ⟨j + 1, by omega, by go_num, rfl⟩
      case measure => simp [intOf]; omega
    · obtain rfl : j = k := by omega
      go_wp2
      clear c58 c32 c13 c10 HN HF
      go_quiet (fail)
      go_wp2
      go_ret3
      exact ⟨rfl, _, rfl⟩

theorem at13 (A B : List UInt8) : (A ++ [58, 32] ++ B ++ [13, 10])[A.length + B.length + 2]? = some 13 := by
  have h : (A ++ [58, 32] ++ B).length = A.length + B.length + 2 := by simp; omega
  rw [List.getElem?_append_right (by omega), h, Nat.sub_self]; rfl
theorem at10 (A B : List UInt8) : (A ++ [58, 32] ++ B ++ [13, 10])[A.length + B.length + 3]? = some 10 := by
  have h : (A ++ [58, 32] ++ B).length = A.length + B.length + 2 := by simp; omega
  rw [List.getElem?_append_right (by omega), h, show A.length + B.length + 3 - (A.length + B.length + 2) = 1 by omega]; rfl

/-- THE CONTRACT of parseFieldLineB1 at a line that appendField wrote: it gives name and value back. -/
theorem parse_line (b off n cap : Nat) (nm vl : ByteArray) (w : World) (h1 : nm.size ≤ 1048576) (h2 : vl.size ≤ 1048576) (hn : n = nm.size + vl.size + 4) (hcap : n ≤ cap) (hN : (58 : UInt8) ∉ nm.data.toList)
    (hc : ∀ i v, (bcs (nm.data.toList ++ [58, 32] ++ vl.data.toList ++ [13, 10]))[i]? = some v → w.cell? ⟨b, off + i, none⟩ = some v) :
    Calls Try.prog 21 #[.slice (some ⟨b, off, none⟩) n cap] w fun e w' => e = .returned (.tuple #[.string nm, .string vl, .bool true]) ∧ ∃ n, w' = w.drewN n := by
  subst hn
  have l1 : nm.data.toList.length = nm.size := by simp
  have l2 : vl.data.toList.length = vl.size := by simp
  have at1 : ∀ j (hj : j < nm.size), w.cell? ⟨b, off + j, none⟩ = some (.int .u8 ((nm.data.toList[j]'(by omega)).toNat : Int)) := by
    intro j hj
    refine hc j _ ?_
    unfold bcs
    rw [List.getElem?_map, List.append_assoc, List.append_assoc, List.getElem?_append_left (by omega), List.getElem?_eq_getElem (by omega)]
    rfl
  have at2 : ∀ j (hj : j < vl.size), w.cell? ⟨b, off + (nm.size + 2) + j, none⟩ = some (.int .u8 ((vl.data.toList[j]'(by omega)).toNat : Int)) := by
    intro j hj
    have := hc (nm.size + 2 + j) (.int .u8 ((vl.data.toList[j]'(by omega)).toNat : Int)) ?_
    · rw [← Nat.add_assoc] at this; exact this
    · unfold bcs
      rw [List.getElem?_map, List.getElem?_append_left (by simp <;> omega), List.getElem?_append_right (by simp <;> omega), List.getElem?_eq_getElem (by simp <;> omega)]
      simp
  have at3 : ∀ j (c : UInt8), (nm.data.toList ++ [58, 32] ++ vl.data.toList ++ [13, 10])[j]? = some c → w.cell? ⟨b, off + j, none⟩ = some (.int .u8 (c.toNat : Int)) := by
    intro j c hj
    refine hc j _ ?_
    unfold bcs
    rw [List.getElem?_map, hj]
    rfl
  refine parse_core b off nm.size vl.size cap (fun j => ((nm.data.toList.getD j 0).toNat : Int)) nm vl w h1 h2 hcap ?_ ?_ ?_ ?_ ?_ ?_ ?_ ?_
  · intro j hj
    have e : nm.data.toList.getD j 0 = nm.data.toList[j]'(by omega) := by simp [List.getD, List.getElem?_eq_getElem (show j < nm.data.toList.length by omega)]
    show (((nm.data.toList.getD j 0).toNat : Int) == 58) = false
    rw [e, show (58 : Int) = ((58 : Nat) : Int) from rfl, u8_eq _ 58 (by omega)]
    have hne : nm.data.toList[j]'(by omega) ≠ 58 := fun h => hN (by rw [← h]; exact List.getElem_mem _)
    simpa using hne
  · intro j hj
    have e : nm.data.toList.getD j 0 = nm.data.toList[j]'(by omega) := by simp [List.getD, List.getElem?_eq_getElem (show j < nm.data.toList.length by omega)]
    show _ = some (Value.int .u8 ((nm.data.toList.getD j 0).toNat : Int))
    rw [e]
    exact at1 j hj
  · exact at3 nm.size 58 (by rw [← l1]; simp)
  · exact at3 (nm.size + 1) 32 (by rw [← l1]; simp)
  · exact at3 (nm.size + vl.size + 2) 13 (by have := at13 nm.data.toList vl.data.toList; rwa [l1, l2] at this)
  · exact at3 (nm.size + vl.size + 3) 10 (by have := at10 nm.data.toList vl.data.toList; rwa [l1, l2] at this)
  · intro j
    have := run_convert_bytes_back (P := Try.prog) (w.drewN j) 26 9 5 ⟨b, off, none⟩ cap nm.data.toList Try.underlying26 Try.underlying5 Try.underlying9 (fun i hi => by
      rw [Addr.add_lit]
      exact at1 i (by omega))
    rw [l1] at this
    exact this
  · intro j
    have := run_convert_bytes_back (P := Try.prog) (w.drewN j) 26 9 5 ⟨b, off + (nm.size + 2), none⟩ (cap - (nm.size + 2)) vl.data.toList Try.underlying26 Try.underlying5 Try.underlying9 (fun i hi => by
      rw [Addr.add_lit]
      exact at2 i (by omega))
    rw [l2] at this
    exact this
end Go.Proofs.Qxb6001118a
