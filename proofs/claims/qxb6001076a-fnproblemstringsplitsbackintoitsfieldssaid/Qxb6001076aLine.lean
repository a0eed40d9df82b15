/-
  THE CONTRACT of Problem.String (7): the texts that are not empty, joined by a colon and a blank.
-/
import Derived.Test.Qxb6001076aRows
import Derived.Test.Qxb6001076aShelf
import Derived.WalkKit
import Derived.WalkSpells
import Derived.WalkLawsBesides
import Derived.ProofKit
import Derived.Below
namespace Go.Proofs.Qxb6001076a
open Go.RowKit

theorem Try.info9 : (Try.prog.info? 9).map (fun i => (i.zero, i.size, i.bytes)) = some (some (.string ⟨#[]⟩), 1, 16) := by kernel_rfl

/-- The texts that are not empty. -/
def flt (P : List ByteArray) : List ByteArray := P.filter fun x => !x.toList.isEmpty
theorem flt_le (P : List ByteArray) (k : Nat) : (flt (P.take k)).length ≤ k := by
  unfold flt
  exact Nat.le_trans (List.length_filter_le _ _) (List.length_take_le _ _)
theorem flt_keep {P : List ByteArray} {k : Nat} (hk : k < P.length) (h : ¬ (P.getD k ⟨#[]⟩).toList = []) : flt (P.take k) ++ [P.getD k ⟨#[]⟩] = flt (P.take (k + 1)) := by
  unfold flt
  have e : P.getD k ⟨#[]⟩ = P[k] := by simp [List.getD, List.getElem?_eq_getElem hk]
  rw [e] at h ⊢
  rw [List.take_succ_eq_append_getElem hk, List.filter_append]
  congr 1
  have h' : (P[k].toList).isEmpty = false := by simpa using h
  simp [h']
theorem flt_drop {P : List ByteArray} {k : Nat} (hk : k < P.length) (h : (P.getD k ⟨#[]⟩).toList = []) : flt (P.take k) = flt (P.take (k + 1)) := by
  unfold flt
  have e : P.getD k ⟨#[]⟩ = P[k] := by simp [List.getD, List.getElem?_eq_getElem hk]
  rw [e] at h
  rw [List.take_succ_eq_append_getElem hk, List.filter_append]
  simp [h]

/-- What Problem.String writes. -/
def lineOf (P : List ByteArray) : List UInt8 := Lib.join ((flt P).map (·.data.toList)) [58, 32]

set_option maxHeartbeats 1000000 in
theorem line_any (f g r : ByteArray) (w : World) (hlen : (lineOf [f, g, r]).length ≤ 140737488355328) :
    Calls Try.prog 7 #[.agg #[.string f, .string g, .string r]] w fun e w' =>
      e = .returned (.string ⟨(lineOf [f, g, r]).toArray⟩) ∧ Below w.heap.size w w' := by
  obtain ⟨ti, hti, hz0, hz1, hz2⟩ := info_parts Try.info9
  obtain ⟨P, hP⟩ : ∃ P, P = [f, g, r] := ⟨_, rfl⟩
  have HP : Hid (P = [f, g, r]) := hP
  have HPl : Hid (P.length = 3) := by show _ = _; rw [hP]; rfl
  obtain ⟨y, hy⟩ : ∃ y, y = lineOf [f, g, r] := ⟨_, rfl⟩
  have HY : Hid (y = lineOf P) := by show _ = _; rw [hP]; exact hy
  rw [← hy] at hlen ⊢
  clear hy hP
  go_enter Try.func7, Try.ntmps7
  go_wp2_with (at_make; refine wpList_make_own _ rfl _ _ 27 rfl (w.heap.size + 1) 9 ti (.string ⟨#[]⟩) 1 Try.underlying27 hti hz0 hz1 _ _ _ 3 rfl rfl rfl ?b1 ?b2 ?b3 ?_)
  case b1 => rw [hz2]; omega
  case b2 => unfold maxLen; omega
  case b3 => simp
  intro w1 hown1 hgrow1
  have c0 : w1.cell? ⟨w.heap.size, 0, none⟩ = some (.string f) := hgrow1.cell (by simp) (by simp)
  have c1 : w1.cell? ⟨w.heap.size, 1, none⟩ = some (.string g) := hgrow1.cell (by simp) (by simp)
  have c2 : w1.cell? ⟨w.heap.size, 2, none⟩ = some (.string r) := hgrow1.cell (by simp) (by simp)
  have hH : w.heap.size + 1 < w1.heap.size := (hown1.lt _ rfl).2
  have hb1 : Below w.heap.size w (w1.alloc (.cells #[.string f, .string g, .string r] 9)) :=
    ((((Below.refl _ _).alloc (Nat.le_refl _) _).grown hgrow1 (by simp) (by simp)).alloc (by omega) _)
  have hce : ∀ j, j < 3 → (w1.alloc (.cells #[.string f, .string g, .string r] 9)).cell? ⟨w1.heap.size, j, none⟩ = some (.string (P.getD j ⟨#[]⟩)) := by
    intro j hj
    rw [HP.out]
    match j, hj with
    | 0, _ => simp
    | 1, _ => simp
    | 2, _ => simp
  have hown2 := hown1.alloc (.cells #[.string f, .string g, .string r] 9)
  clear hgrow1 hown1
  go_wp2
  clear c0 c1 c2
  go_loopw [3, 15] (fun v i wr => ∃ k : Nat, k ≤ 3 ∧ i = .int .i64 k ∧ ∃ (Q : List ByteArray) (m : Nat), m ≤ k ∧ v = .slice (some ⟨w.heap.size + 1, 0, none⟩) m 3 ∧ Hid (Q = flt (P.take k)) ∧ Hid (Q.length = m) ∧
      wr.ownsRow (w.heap.size + 1) 9 1 (.slice (some ⟨w.heap.size + 1, 0, none⟩) m 3) m (Q.map Value.string) ∧ Hid (∀ j, j < 3 → wr.cell? ⟨w1.heap.size, j, none⟩ = some (.string (P.getD j ⟨#[]⟩))) ∧ Below w.heap.size w wr ∧ w1.heap.size < wr.heap.size)
    (fun _ i _ => 3 - (intOf i).toNat)
  case atStart => exact ⟨0, by omega, rfl, [], 0, by omega, rfl, rfl, rfl, by simpa using hown2, hce, hb1, by simp⟩
  case round =>
    obtain ⟨k, hk, rfl, Q, m, hmk, rfl, HQ, HQl, hown, HC, hb, hsz⟩ := hrel
    clear hown2 hb1 hce
    by_cases hk3 : k < 3
    · have ck := HC.out k hk3
      obtain ⟨x, hx⟩ : ∃ x, x = P.getD k ⟨#[]⟩ := ⟨_, rfl⟩
      have HX : Hid (x = P.getD k ⟨#[]⟩) := hx
      rw [← hx] at ck
      clear hx
      by_cases hxe : x.toList = []
      · have HD : Hid (Q = flt (P.take (k + 1))) := by
          show _ = _
          rw [HQ.out]
          exact flt_drop (by rw [HPl.out]; exact hk3) (by rw [← HX.out]; exact hxe)
        go_wp2
        go_roundw
        case rel => exact ⟨k + 1, by omega, by go_num, Q, m, by omega, rfl, HD, HQl, hown, HC, hb, hsz⟩
        case measure => simp [intOf]; omega
      · have HD : Hid (Q ++ [x] = flt (P.take (k + 1))) := by
          show _ = _
          rw [HQ.out, HX.out]
          exact flt_keep (by rw [HPl.out]; exact hk3) (by rw [← HX.out]; exact hxe)
        have hxb : x.toList.isEmpty = false := by simpa using hxe
        clear hxe
        go_wp2_with (at_builtin; refine wpList_append_fits _ rfl _ _ 27 rfl (w.heap.size + 1) 9 ti 1 Try.underlying27 hti hz1 (w.heap.size + 1) m 3 (Q.map Value.string) rfl (hown.alloc _) ⟨wr.heap.size, 0, none⟩ 1 1 [.string x] rfl rfl ?c1 ?c2 ?c3 ?_)
        case c1 =>
          intro j y hj
          match j, hj with
          | 0, hj => simp at hj; subst hj; simp [Addr.add]
        case c2 => intro y hy; simp at hy; subst hy; rfl
        case c3 => omega
        · intro w3 hown3 hgrow3
          have hb3 : Below w.heap.size w w3 := ((hb.alloc hb.size _).grown hgrow3 (by have := hb.size; simp; omega) (by simp))
          have HC3 : Hid (∀ j, j < 3 → w3.cell? ⟨w1.heap.size, j, none⟩ = some (.string (P.getD j ⟨#[]⟩))) := by
            intro j hj
            refine hgrow3.cell ?_ (by simp; omega)
            have h := HC.out j hj
            rw [← h]
            exact ((Below.refl (wr.heap.size) wr).alloc (Nat.le_refl _) _).cell (by exact hsz)
          have hsz3 : w1.heap.size < w3.heap.size := by have := hgrow3.size; simp at this; omega
          have hown4 : w3.ownsRow (w.heap.size + 1) 9 1 (.slice (some ⟨w.heap.size + 1, 0, none⟩) (m + 1) 3) (m + 1) ((Q ++ [x]).map Value.string) := by rw [List.map_append]; exact hown3
          have HQ3 : Hid ((Q ++ [x]).length = m + 1) := by show _ = _; rw [List.length_append, HQl.out]; rfl
          clear hgrow3 hown3 hown hb HC hsz ck
          go_wp2
          go_roundw
          case rel => exact ⟨k + 1, by omega, by go_num, Q ++ [x], m + 1, by omega, rfl, HD, HQ3, hown4, HC3, hb3, hsz3⟩
          case measure => simp [intOf]; omega
    · obtain rfl : k = 3 := by omega
      have hQ : Q = flt P := by have h := HQ.out; rwa [List.take_of_length_le (by rw [HPl.out]; omega)] at h
      have HJ : Hid (y = Lib.join (Q.map (·.data.toList)) [58, 32]) := by show _ = _; rw [hQ]; exact HY.out
      have C : Hid (Calls Try.prog 10 #[.slice (some ⟨w.heap.size + 1, 0, none⟩) m 3, .string { data := #[58, 32] }] wr fun e w' => e = .returned (.string ⟨y.toArray⟩) ∧ Below wr.heap.size wr w') := by
        rw [HJ.out, ← HQl.out]
        have hlt : w.heap.size + 1 < wr.heap.size := by omega
        refine Try.strings_Join (w.heap.size + 1) 0 3 Q { data := #[58, 32] } wr (fun j x hj => ?_) hlt (by have := HQl.out; omega) (by have := HQl.out; omega) ?_
        · have h := hown.cells rfl j (.string x) (by simp [hj])
          rw [Addr.add_lit] at h
          exact h
        · have h := hlen
          rw [HJ.out] at h
          exact h
      clear hQ HQ HQl hown HC HJ HY
      go_wp2_with fail
      refine (C.out).mono ?_
      rintro e w3 ⟨rfl, hb3⟩
      go_wp2
      go_ret
      exact ⟨rfl, hb.trans (hb3.mono hb.size)⟩
end Go.Proofs.Qxb6001076a
