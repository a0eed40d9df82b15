/-
  THE WALK of FnProblemStringSplitsBackIntoItsFields (3): one theorem for each of the eight ways in which the three texts may be empty or not.
-/
import Derived.Test.Qxb6001076aSlots
import Derived.Test.Qxb6001076aSplit
import Derived.Deep.QuietTactic
import Derived.BigQuiet
namespace Go.Proofs.Qxb6001076a
open Go.RowKit Plain

theorem below_drewN' {B : Nat} {a w : World} (h : Below B a w) (n : Nat) : Below B a (w.drewN n) := ⟨h.os, h.tape, h.output, h.size, h.block⟩

/-- A row of texts that the call owns, and that is not empty: where it lies, and its cells. -/
theorem own_cells {w : World} {B : Nat} {ao : Option Addr} {m c : Nat} {Q : List ByteArray} (hm : 0 < m) (h : w.ownsRow B 9 1 (.slice ao m c) m (Q.map Value.string)) :
    ∃ g, ao = some ⟨g, 0, none⟩ ∧ m ≤ c ∧ ∀ k, k < Q.length → w.cell? ⟨g, k, none⟩ = some (.string (Q.getD k ⟨#[]⟩)) := by
  have hc := @World.ownsRow.cells _ _ _ _ _ _ _ h
  rcases h.2 with ⟨hv, h0⟩ | ⟨g, cap, cur, hv, _, _, hmc, _⟩
  · omega
  · simp only [Value.slice.injEq] at hv
    obtain ⟨rfl, _, rfl⟩ := hv
    refine ⟨g, rfl, hmc, fun k hk => ?_⟩
    have := hc (g := g) rfl k (.string (Q.getD k ⟨#[]⟩)) (by simp [List.getElem?_eq_getElem hk])
    rw [Addr.add_lit] at this
    simpa using this

set_option maxHeartbeats 2000000 in
theorem back_nnn (f g r : ByteArray) (w : World) (hf : f.size ≤ 262144) (hg : g.size ≤ 262144) (hr : r.size ≤ 262144) (ef : f.toList.isEmpty = true) (eg : g.toList.isEmpty = true) (er : r.toList.isEmpty = true)
    (kf : colon f.data.toList = false) (kg : colon g.data.toList = false) (kr : colon r.data.toList = false) :
    Calls Try.prog 3 #[.string f, .string g, .string r] w fun e w' => e = .returned (.bool true) ∧ Below w.heap.size w w' := by
  obtain ⟨ti, hti, hz0, hz1, hz2⟩ := info_parts Try.info9
  have LL := line_len [f, g, r]
  have HQ : Hid (flt [f, g, r] = []) := by show _ = _; simp [flt, ef, eg, er]
  obtain ⟨y, hy⟩ : ∃ y : ByteArray, y = ⟨(lineOf [f, g, r]).toArray⟩ := ⟨_, rfl⟩
  have hlen : (lineOf [f, g, r]).length ≤ 1048576 := by simp at LL; omega
  have CL : Hid (∀ w, Calls Try.prog 7 #[.agg #[.string f, .string g, .string r]] w fun e w' => e = .returned (.string y) ∧ Below w.heap.size w w') := fun w => by
    rw [hy]; exact line_any f g r w (by omega)
  have CS : Hid (∀ w, Calls Try.prog 8 #[.string y] w fun e w' => ∃ (ao : Option Addr) (c : Nat), e = .returned (.slice ao 0 c) ∧ w'.ownsRow w.heap.size 9 1 (.slice ao 0 c) 0 (([] : List ByteArray).map Value.string) ∧ Below w.heap.size w w') := fun w => by
    have h := split_line [f, g, r] w (by intro x hx; simp at hx; rcases hx with rfl | rfl | rfl <;> assumption) hlen
    rw [HQ.out, ← hy] at h
    exact h
  have Kf : Hid (∀ w, Calls Try.prog 6 #[.string f] w fun e w' => e = .returned (.bool false) ∧ w' = w) := fun w => by have h := colon_any f w (by omega); rwa [kf] at h
  have Kg : Hid (∀ w, Calls Try.prog 6 #[.string g] w fun e w' => e = .returned (.bool false) ∧ w' = w) := fun w => by have h := colon_any g w (by omega); rwa [kg] at h
  have Kr : Hid (∀ w, Calls Try.prog 6 #[.string r] w fun e w' => e = .returned (.bool false) ∧ w' = w) := fun w => by have h := colon_any r w (by omega); rwa [kr] at h
  have hf' : (f.size : Int) ≤ 262144 := by omega
  have hg' : (g.size : Int) ≤ 262144 := by omega
  have hr' : (r.size : Int) ≤ 262144 := by omega
  clear hy LL hlen kf kg kr HQ
  go_enter Try.func3, Try.ntmps3
  go_wp2_with (first | (go_at_call 5; go_in) | fail)
  refine (Kf.out _).mono ?_
  rintro e w ⟨rfl, rfl⟩
  go_wp2_with fail
  refine (Kg.out _).mono ?_
  rintro e w ⟨rfl, rfl⟩
  go_wp2_with fail
  refine (Kr.out _).mono ?_
  rintro e w ⟨rfl, rfl⟩
  go_wp2_with fail
  refine (CL.out _).mono ?_
  rintro e w1 ⟨rfl, hb1⟩
  go_wp2_with (at_make; refine wpList_make_own _ rfl _ _ 27 rfl w1.heap.size 9 ti (.string ⟨#[]⟩) 1 Try.underlying27 hti hz0 hz1 _ _ _ 3 rfl rfl rfl ?b1 ?b2 ?b3 ?_)
  case b1 => rw [hz2]; omega
  case b2 => unfold maxLen; omega
  case b3 => exact Nat.le_refl _
  intro w2 own2 hgrow
  have be2 : Below w1.heap.size w1 w2 := (Below.refl _ _).grown hgrow (Nat.le_refl _) (by simp)
  clear hgrow
  go_wp2_with fail
  refine (CS.out _).mono ?_
  rintro e w9 ⟨ao, c, rfl, hown9, hb9⟩
  have hbf : Below w.heap.size w w9 := (hb1.trans (be2.mono hb1.size)).trans (hb9.mono (Nat.le_trans hb1.size be2.size))
  clear hb1 be2 hb9 hown9 own2 CL CS Kf Kg Kr
  go_wp2
  refine wp_loop_rounds 1 ?_
  rw [rounds_succ]
  go_wp2
  go_ret
  exact ⟨rfl, hbf⟩

set_option maxHeartbeats 2000000 in
theorem back_nny (f g r : ByteArray) (w : World) (hf : f.size ≤ 262144) (hg : g.size ≤ 262144) (hr : r.size ≤ 262144) (ef : f.toList.isEmpty = true) (eg : g.toList.isEmpty = true) (er : r.toList.isEmpty = false)
    (kf : colon f.data.toList = false) (kg : colon g.data.toList = false) (kr : colon r.data.toList = false) :
    Calls Try.prog 3 #[.string f, .string g, .string r] w fun e w' => e = .returned (.bool true) ∧ Below w.heap.size w w' := by
  obtain ⟨ti, hti, hz0, hz1, hz2⟩ := info_parts Try.info9
  have LL := line_len [f, g, r]
  have HQ : Hid (flt [f, g, r] = [r]) := by show _ = _; simp [flt, ef, eg, er]
  obtain ⟨y, hy⟩ : ∃ y : ByteArray, y = ⟨(lineOf [f, g, r]).toArray⟩ := ⟨_, rfl⟩
  have hlen : (lineOf [f, g, r]).length ≤ 1048576 := by simp at LL; omega
  have CL : Hid (∀ w, Calls Try.prog 7 #[.agg #[.string f, .string g, .string r]] w fun e w' => e = .returned (.string y) ∧ Below w.heap.size w w') := fun w => by
    rw [hy]; exact line_any f g r w (by omega)
  have CS : Hid (∀ w, Calls Try.prog 8 #[.string y] w fun e w' => ∃ (ao : Option Addr) (c : Nat), e = .returned (.slice ao 1 c) ∧ w'.ownsRow w.heap.size 9 1 (.slice ao 1 c) 1 (([r] : List ByteArray).map Value.string) ∧ Below w.heap.size w w') := fun w => by
    have h := split_line [f, g, r] w (by intro x hx; simp at hx; rcases hx with rfl | rfl | rfl <;> assumption) hlen
    rw [HQ.out, ← hy] at h
    exact h
  have Kf : Hid (∀ w, Calls Try.prog 6 #[.string f] w fun e w' => e = .returned (.bool false) ∧ w' = w) := fun w => by have h := colon_any f w (by omega); rwa [kf] at h
  have Kg : Hid (∀ w, Calls Try.prog 6 #[.string g] w fun e w' => e = .returned (.bool false) ∧ w' = w) := fun w => by have h := colon_any g w (by omega); rwa [kg] at h
  have Kr : Hid (∀ w, Calls Try.prog 6 #[.string r] w fun e w' => e = .returned (.bool false) ∧ w' = w) := fun w => by have h := colon_any r w (by omega); rwa [kr] at h
  have hf' : (f.size : Int) ≤ 262144 := by omega
  have hg' : (g.size : Int) ≤ 262144 := by omega
  have hr' : (r.size : Int) ≤ 262144 := by omega
  clear hy LL hlen kf kg kr HQ
  go_enter Try.func3, Try.ntmps3
  go_wp2_with (first | (go_at_call 5; go_in) | fail)
  refine (Kf.out _).mono ?_
  rintro e w ⟨rfl, rfl⟩
  go_wp2_with fail
  refine (Kg.out _).mono ?_
  rintro e w ⟨rfl, rfl⟩
  go_wp2_with fail
  refine (Kr.out _).mono ?_
  rintro e w ⟨rfl, rfl⟩
  go_wp2_with fail
  refine (CL.out _).mono ?_
  rintro e w1 ⟨rfl, hb1⟩
  go_wp2_with (at_make; refine wpList_make_own _ rfl _ _ 27 rfl w1.heap.size 9 ti (.string ⟨#[]⟩) 1 Try.underlying27 hti hz0 hz1 _ _ _ 3 rfl rfl rfl ?b1 ?b2 ?b3 ?_)
  case b1 => rw [hz2]; omega
  case b2 => unfold maxLen; omega
  case b3 => exact Nat.le_refl _
  intro w2 own2 hgrow
  have be2 : Below w1.heap.size w1 w2 := (Below.refl _ _).grown hgrow (Nat.le_refl _) (by simp)
  clear hgrow
  go_wp2_with (at_builtin; refine wpList_append_fits _ rfl _ _ 27 rfl w1.heap.size 9 ti 1 Try.underlying27 hti hz1 w1.heap.size 0 3 [] rfl (own2.alloc _) ⟨w2.heap.size, 0, none⟩ 1 1 [.string r] rfl rfl ?c1r ?c2r (by omega) ?_)
  case c1r =>
    intro j x hj
    match j, hj with
    | 0, hj => simp at hj; subst hj; simp [Addr.add]
  case c2r => first | rfl | (intro x hx; simp at hx; subst hx; rfl)
  intro w3 own3 hgrow
  have be3 : Below w1.heap.size w1 w3 := ((be2.alloc be2.size _).grown hgrow (by have := be2.size; simp; omega) (by simp))
  clear hgrow be2 own2
  go_wp2_with fail
  refine (CS.out _).mono ?_
  rintro e w9 ⟨ao, c, rfl, hown9, hb9⟩
  obtain ⟨Q, hQ⟩ : ∃ Q : List ByteArray, Q = [r] := ⟨_, rfl⟩
  have HQl : Hid (Q.length = 1) := by show _ = _; rw [hQ]; rfl
  rw [← hQ] at hown9
  have hown' : w3.ownsRow w1.heap.size 9 1 (.slice (some ⟨w1.heap.size, 0, none⟩) 1 3) 1 (Q.map Value.string) := by rw [hQ]; simpa using own3
  clear own3
  obtain ⟨g1, e1, _, hc1⟩ := own_cells (by omega) hown'
  simp only [Option.some.injEq, Addr.mk.injEq] at e1
  obtain ⟨rfl, _⟩ := e1
  obtain ⟨g2, rfl, _, hc2⟩ := own_cells (by omega) hown9
  have hlt1 : w1.heap.size < w3.heap.size := (hown'.lt _ rfl).2
  have HC1 : Hid (∀ k, k < 1 → w9.cell? ⟨w1.heap.size, k, none⟩ = some (.string (Q.getD k ⟨#[]⟩))) := fun k hk => (hb9.cell (by exact hlt1)).trans (hc1 k (by rw [HQl.out]; exact hk))
  have HC2 : Hid (∀ k, k < 1 → w9.cell? ⟨g2, k, none⟩ = some (.string (Q.getD k ⟨#[]⟩))) := fun k hk => hc2 k (by rw [HQl.out]; exact hk)
  have hbf : Below w.heap.size w w9 := (hb1.trans (be3.mono hb1.size)).trans (hb9.mono (Nat.le_trans hb1.size be3.size))
  clear hb1 be3 hb9 hc1 hc2 hown9 hown' hQ HQl CL CS Kf Kg Kr hlt1
  go_wp2
  go_loopw [10] (fun i wr => ∃ k : Nat, k ≤ 1 ∧ i = .int .i64 k ∧ ∃ j, wr = w9.drewN j) (fun i _ => 1 - (intOf i).toNat)
  case atStart => exact ⟨0, by omega, rfl, 0, rfl⟩
  case round =>
    obtain ⟨k, hk, rfl, j, rfl⟩ := hrel
    by_cases hlt : k < 1
    · have q1 := HC1.out k hlt
      have q2 := HC2.out k hlt
      obtain ⟨x, hx⟩ : ∃ x, x = Q.getD k ⟨#[]⟩ := ⟨_, rfl⟩
      rw [← hx] at q1 q2
      clear hx
      have p0 : (0 : Int) ≤ (k : Int) := by omega
      have p1 : (k : Int) < 1 := by omega
      go_wp2
      go_quiet (fail)
      go_wp2
      go_roundw
      case rel => exact ⟨k + 1, by omega, by go_num, _, rfl⟩
      case measure => simp [intOf]; omega
    · go_wp2
      go_ret
      exact ⟨rfl, below_drewN' hbf _⟩

set_option maxHeartbeats 2000000 in
theorem back_nyn (f g r : ByteArray) (w : World) (hf : f.size ≤ 262144) (hg : g.size ≤ 262144) (hr : r.size ≤ 262144) (ef : f.toList.isEmpty = true) (eg : g.toList.isEmpty = false) (er : r.toList.isEmpty = true)
    (kf : colon f.data.toList = false) (kg : colon g.data.toList = false) (kr : colon r.data.toList = false) :
    Calls Try.prog 3 #[.string f, .string g, .string r] w fun e w' => e = .returned (.bool true) ∧ Below w.heap.size w w' := by
  obtain ⟨ti, hti, hz0, hz1, hz2⟩ := info_parts Try.info9
  have LL := line_len [f, g, r]
  have HQ : Hid (flt [f, g, r] = [g]) := by show _ = _; simp [flt, ef, eg, er]
  obtain ⟨y, hy⟩ : ∃ y : ByteArray, y = ⟨(lineOf [f, g, r]).toArray⟩ := ⟨_, rfl⟩
  have hlen : (lineOf [f, g, r]).length ≤ 1048576 := by simp at LL; omega
  have CL : Hid (∀ w, Calls Try.prog 7 #[.agg #[.string f, .string g, .string r]] w fun e w' => e = .returned (.string y) ∧ Below w.heap.size w w') := fun w => by
    rw [hy]; exact line_any f g r w (by omega)
  have CS : Hid (∀ w, Calls Try.prog 8 #[.string y] w fun e w' => ∃ (ao : Option Addr) (c : Nat), e = .returned (.slice ao 1 c) ∧ w'.ownsRow w.heap.size 9 1 (.slice ao 1 c) 1 (([g] : List ByteArray).map Value.string) ∧ Below w.heap.size w w') := fun w => by
    have h := split_line [f, g, r] w (by intro x hx; simp at hx; rcases hx with rfl | rfl | rfl <;> assumption) hlen
    rw [HQ.out, ← hy] at h
    exact h
  have Kf : Hid (∀ w, Calls Try.prog 6 #[.string f] w fun e w' => e = .returned (.bool false) ∧ w' = w) := fun w => by have h := colon_any f w (by omega); rwa [kf] at h
  have Kg : Hid (∀ w, Calls Try.prog 6 #[.string g] w fun e w' => e = .returned (.bool false) ∧ w' = w) := fun w => by have h := colon_any g w (by omega); rwa [kg] at h
  have Kr : Hid (∀ w, Calls Try.prog 6 #[.string r] w fun e w' => e = .returned (.bool false) ∧ w' = w) := fun w => by have h := colon_any r w (by omega); rwa [kr] at h
  have hf' : (f.size : Int) ≤ 262144 := by omega
  have hg' : (g.size : Int) ≤ 262144 := by omega
  have hr' : (r.size : Int) ≤ 262144 := by omega
  clear hy LL hlen kf kg kr HQ
  go_enter Try.func3, Try.ntmps3
  go_wp2_with (first | (go_at_call 5; go_in) | fail)
  refine (Kf.out _).mono ?_
  rintro e w ⟨rfl, rfl⟩
  go_wp2_with fail
  refine (Kg.out _).mono ?_
  rintro e w ⟨rfl, rfl⟩
  go_wp2_with fail
  refine (Kr.out _).mono ?_
  rintro e w ⟨rfl, rfl⟩
  go_wp2_with fail
  refine (CL.out _).mono ?_
  rintro e w1 ⟨rfl, hb1⟩
  go_wp2_with (at_make; refine wpList_make_own _ rfl _ _ 27 rfl w1.heap.size 9 ti (.string ⟨#[]⟩) 1 Try.underlying27 hti hz0 hz1 _ _ _ 3 rfl rfl rfl ?b1 ?b2 ?b3 ?_)
  case b1 => rw [hz2]; omega
  case b2 => unfold maxLen; omega
  case b3 => exact Nat.le_refl _
  intro w2 own2 hgrow
  have be2 : Below w1.heap.size w1 w2 := (Below.refl _ _).grown hgrow (Nat.le_refl _) (by simp)
  clear hgrow
  go_wp2_with (at_builtin; refine wpList_append_fits _ rfl _ _ 27 rfl w1.heap.size 9 ti 1 Try.underlying27 hti hz1 w1.heap.size 0 3 [] rfl (own2.alloc _) ⟨w2.heap.size, 0, none⟩ 1 1 [.string g] rfl rfl ?c1g ?c2g (by omega) ?_)
  case c1g =>
    intro j x hj
    match j, hj with
    | 0, hj => simp at hj; subst hj; simp [Addr.add]
  case c2g => first | rfl | (intro x hx; simp at hx; subst hx; rfl)
  intro w3 own3 hgrow
  have be3 : Below w1.heap.size w1 w3 := ((be2.alloc be2.size _).grown hgrow (by have := be2.size; simp; omega) (by simp))
  clear hgrow be2 own2
  go_wp2_with fail
  refine (CS.out _).mono ?_
  rintro e w9 ⟨ao, c, rfl, hown9, hb9⟩
  obtain ⟨Q, hQ⟩ : ∃ Q : List ByteArray, Q = [g] := ⟨_, rfl⟩
  have HQl : Hid (Q.length = 1) := by show _ = _; rw [hQ]; rfl
  rw [← hQ] at hown9
  have hown' : w3.ownsRow w1.heap.size 9 1 (.slice (some ⟨w1.heap.size, 0, none⟩) 1 3) 1 (Q.map Value.string) := by rw [hQ]; simpa using own3
  clear own3
  obtain ⟨g1, e1, _, hc1⟩ := own_cells (by omega) hown'
  simp only [Option.some.injEq, Addr.mk.injEq] at e1
  obtain ⟨rfl, _⟩ := e1
  obtain ⟨g2, rfl, _, hc2⟩ := own_cells (by omega) hown9
  have hlt1 : w1.heap.size < w3.heap.size := (hown'.lt _ rfl).2
  have HC1 : Hid (∀ k, k < 1 → w9.cell? ⟨w1.heap.size, k, none⟩ = some (.string (Q.getD k ⟨#[]⟩))) := fun k hk => (hb9.cell (by exact hlt1)).trans (hc1 k (by rw [HQl.out]; exact hk))
  have HC2 : Hid (∀ k, k < 1 → w9.cell? ⟨g2, k, none⟩ = some (.string (Q.getD k ⟨#[]⟩))) := fun k hk => hc2 k (by rw [HQl.out]; exact hk)
  have hbf : Below w.heap.size w w9 := (hb1.trans (be3.mono hb1.size)).trans (hb9.mono (Nat.le_trans hb1.size be3.size))
  clear hb1 be3 hb9 hc1 hc2 hown9 hown' hQ HQl CL CS Kf Kg Kr hlt1
  go_wp2
  go_loopw [10] (fun i wr => ∃ k : Nat, k ≤ 1 ∧ i = .int .i64 k ∧ ∃ j, wr = w9.drewN j) (fun i _ => 1 - (intOf i).toNat)
  case atStart => exact ⟨0, by omega, rfl, 0, rfl⟩
  case round =>
    obtain ⟨k, hk, rfl, j, rfl⟩ := hrel
    by_cases hlt : k < 1
    · have q1 := HC1.out k hlt
      have q2 := HC2.out k hlt
      obtain ⟨x, hx⟩ : ∃ x, x = Q.getD k ⟨#[]⟩ := ⟨_, rfl⟩
      rw [← hx] at q1 q2
      clear hx
      have p0 : (0 : Int) ≤ (k : Int) := by omega
      have p1 : (k : Int) < 1 := by omega
      go_wp2
      go_quiet (fail)
      go_wp2
      go_roundw
      case rel => exact ⟨k + 1, by omega, by go_num, _, rfl⟩
      case measure => simp [intOf]; omega
    · go_wp2
      go_ret
      exact ⟨rfl, below_drewN' hbf _⟩

set_option maxHeartbeats 2000000 in
theorem back_nyy (f g r : ByteArray) (w : World) (hf : f.size ≤ 262144) (hg : g.size ≤ 262144) (hr : r.size ≤ 262144) (ef : f.toList.isEmpty = true) (eg : g.toList.isEmpty = false) (er : r.toList.isEmpty = false)
    (kf : colon f.data.toList = false) (kg : colon g.data.toList = false) (kr : colon r.data.toList = false) :
    Calls Try.prog 3 #[.string f, .string g, .string r] w fun e w' => e = .returned (.bool true) ∧ Below w.heap.size w w' := by
  obtain ⟨ti, hti, hz0, hz1, hz2⟩ := info_parts Try.info9
  have LL := line_len [f, g, r]
  have HQ : Hid (flt [f, g, r] = [g, r]) := by show _ = _; simp [flt, ef, eg, er]
  obtain ⟨y, hy⟩ : ∃ y : ByteArray, y = ⟨(lineOf [f, g, r]).toArray⟩ := ⟨_, rfl⟩
  have hlen : (lineOf [f, g, r]).length ≤ 1048576 := by simp at LL; omega
  have CL : Hid (∀ w, Calls Try.prog 7 #[.agg #[.string f, .string g, .string r]] w fun e w' => e = .returned (.string y) ∧ Below w.heap.size w w') := fun w => by
    rw [hy]; exact line_any f g r w (by omega)
  have CS : Hid (∀ w, Calls Try.prog 8 #[.string y] w fun e w' => ∃ (ao : Option Addr) (c : Nat), e = .returned (.slice ao 2 c) ∧ w'.ownsRow w.heap.size 9 1 (.slice ao 2 c) 2 (([g, r] : List ByteArray).map Value.string) ∧ Below w.heap.size w w') := fun w => by
    have h := split_line [f, g, r] w (by intro x hx; simp at hx; rcases hx with rfl | rfl | rfl <;> assumption) hlen
    rw [HQ.out, ← hy] at h
    exact h
  have Kf : Hid (∀ w, Calls Try.prog 6 #[.string f] w fun e w' => e = .returned (.bool false) ∧ w' = w) := fun w => by have h := colon_any f w (by omega); rwa [kf] at h
  have Kg : Hid (∀ w, Calls Try.prog 6 #[.string g] w fun e w' => e = .returned (.bool false) ∧ w' = w) := fun w => by have h := colon_any g w (by omega); rwa [kg] at h
  have Kr : Hid (∀ w, Calls Try.prog 6 #[.string r] w fun e w' => e = .returned (.bool false) ∧ w' = w) := fun w => by have h := colon_any r w (by omega); rwa [kr] at h
  have hf' : (f.size : Int) ≤ 262144 := by omega
  have hg' : (g.size : Int) ≤ 262144 := by omega
  have hr' : (r.size : Int) ≤ 262144 := by omega
  clear hy LL hlen kf kg kr HQ
  go_enter Try.func3, Try.ntmps3
  go_wp2_with (first | (go_at_call 5; go_in) | fail)
  refine (Kf.out _).mono ?_
  rintro e w ⟨rfl, rfl⟩
  go_wp2_with fail
  refine (Kg.out _).mono ?_
  rintro e w ⟨rfl, rfl⟩
  go_wp2_with fail
  refine (Kr.out _).mono ?_
  rintro e w ⟨rfl, rfl⟩
  go_wp2_with fail
  refine (CL.out _).mono ?_
  rintro e w1 ⟨rfl, hb1⟩
  go_wp2_with (at_make; refine wpList_make_own _ rfl _ _ 27 rfl w1.heap.size 9 ti (.string ⟨#[]⟩) 1 Try.underlying27 hti hz0 hz1 _ _ _ 3 rfl rfl rfl ?b1 ?b2 ?b3 ?_)
  case b1 => rw [hz2]; omega
  case b2 => unfold maxLen; omega
  case b3 => exact Nat.le_refl _
  intro w2 own2 hgrow
  have be2 : Below w1.heap.size w1 w2 := (Below.refl _ _).grown hgrow (Nat.le_refl _) (by simp)
  clear hgrow
  go_wp2_with (at_builtin; refine wpList_append_fits _ rfl _ _ 27 rfl w1.heap.size 9 ti 1 Try.underlying27 hti hz1 w1.heap.size 0 3 [] rfl (own2.alloc _) ⟨w2.heap.size, 0, none⟩ 1 1 [.string g] rfl rfl ?c1g ?c2g (by omega) ?_)
  case c1g =>
    intro j x hj
    match j, hj with
    | 0, hj => simp at hj; subst hj; simp [Addr.add]
  case c2g => first | rfl | (intro x hx; simp at hx; subst hx; rfl)
  intro w3 own3 hgrow
  have be3 : Below w1.heap.size w1 w3 := ((be2.alloc be2.size _).grown hgrow (by have := be2.size; simp; omega) (by simp))
  clear hgrow be2 own2
  go_wp2_with (at_builtin; refine wpList_append_fits _ rfl _ _ 27 rfl w1.heap.size 9 ti 1 Try.underlying27 hti hz1 w1.heap.size 1 3 [.string g] rfl (own3.alloc _) ⟨w3.heap.size, 0, none⟩ 1 1 [.string r] rfl rfl ?c1r ?c2r (by omega) ?_)
  case c1r =>
    intro j x hj
    match j, hj with
    | 0, hj => simp at hj; subst hj; simp [Addr.add]
  case c2r => first | rfl | (intro x hx; simp at hx; subst hx; rfl)
  intro w4 own4 hgrow
  have be4 : Below w1.heap.size w1 w4 := ((be3.alloc be3.size _).grown hgrow (by have := be3.size; simp; omega) (by simp))
  clear hgrow be3 own3
  go_wp2_with fail
  refine (CS.out _).mono ?_
  rintro e w9 ⟨ao, c, rfl, hown9, hb9⟩
  obtain ⟨Q, hQ⟩ : ∃ Q : List ByteArray, Q = [g, r] := ⟨_, rfl⟩
  have HQl : Hid (Q.length = 2) := by show _ = _; rw [hQ]; rfl
  rw [← hQ] at hown9
  have hown' : w4.ownsRow w1.heap.size 9 1 (.slice (some ⟨w1.heap.size, 0, none⟩) 2 3) 2 (Q.map Value.string) := by rw [hQ]; simpa using own4
  clear own4
  obtain ⟨g1, e1, _, hc1⟩ := own_cells (by omega) hown'
  simp only [Option.some.injEq, Addr.mk.injEq] at e1
  obtain ⟨rfl, _⟩ := e1
  obtain ⟨g2, rfl, _, hc2⟩ := own_cells (by omega) hown9
  have hlt1 : w1.heap.size < w4.heap.size := (hown'.lt _ rfl).2
  have HC1 : Hid (∀ k, k < 2 → w9.cell? ⟨w1.heap.size, k, none⟩ = some (.string (Q.getD k ⟨#[]⟩))) := fun k hk => (hb9.cell (by exact hlt1)).trans (hc1 k (by rw [HQl.out]; exact hk))
  have HC2 : Hid (∀ k, k < 2 → w9.cell? ⟨g2, k, none⟩ = some (.string (Q.getD k ⟨#[]⟩))) := fun k hk => hc2 k (by rw [HQl.out]; exact hk)
  have hbf : Below w.heap.size w w9 := (hb1.trans (be4.mono hb1.size)).trans (hb9.mono (Nat.le_trans hb1.size be4.size))
  clear hb1 be4 hb9 hc1 hc2 hown9 hown' hQ HQl CL CS Kf Kg Kr hlt1
  go_wp2
  go_loopw [10] (fun i wr => ∃ k : Nat, k ≤ 2 ∧ i = .int .i64 k ∧ ∃ j, wr = w9.drewN j) (fun i _ => 2 - (intOf i).toNat)
  case atStart => exact ⟨0, by omega, rfl, 0, rfl⟩
  case round =>
    obtain ⟨k, hk, rfl, j, rfl⟩ := hrel
    by_cases hlt : k < 2
    · have q1 := HC1.out k hlt
      have q2 := HC2.out k hlt
      obtain ⟨x, hx⟩ : ∃ x, x = Q.getD k ⟨#[]⟩ := ⟨_, rfl⟩
      rw [← hx] at q1 q2
      clear hx
      have p0 : (0 : Int) ≤ (k : Int) := by omega
      have p1 : (k : Int) < 2 := by omega
      go_wp2
      go_quiet (fail)
      go_wp2
      go_roundw
      case rel => exact ⟨k + 1, by omega, by go_num, _, rfl⟩
      case measure => simp [intOf]; omega
    · go_wp2
      go_ret
      exact ⟨rfl, below_drewN' hbf _⟩

set_option maxHeartbeats 2000000 in
theorem back_ynn (f g r : ByteArray) (w : World) (hf : f.size ≤ 262144) (hg : g.size ≤ 262144) (hr : r.size ≤ 262144) (ef : f.toList.isEmpty = false) (eg : g.toList.isEmpty = true) (er : r.toList.isEmpty = true)
    (kf : colon f.data.toList = false) (kg : colon g.data.toList = false) (kr : colon r.data.toList = false) :
    Calls Try.prog 3 #[.string f, .string g, .string r] w fun e w' => e = .returned (.bool true) ∧ Below w.heap.size w w' := by
  obtain ⟨ti, hti, hz0, hz1, hz2⟩ := info_parts Try.info9
  have LL := line_len [f, g, r]
  have HQ : Hid (flt [f, g, r] = [f]) := by show _ = _; simp [flt, ef, eg, er]
  obtain ⟨y, hy⟩ : ∃ y : ByteArray, y = ⟨(lineOf [f, g, r]).toArray⟩ := ⟨_, rfl⟩
  have hlen : (lineOf [f, g, r]).length ≤ 1048576 := by simp at LL; omega
  have CL : Hid (∀ w, Calls Try.prog 7 #[.agg #[.string f, .string g, .string r]] w fun e w' => e = .returned (.string y) ∧ Below w.heap.size w w') := fun w => by
    rw [hy]; exact line_any f g r w (by omega)
  have CS : Hid (∀ w, Calls Try.prog 8 #[.string y] w fun e w' => ∃ (ao : Option Addr) (c : Nat), e = .returned (.slice ao 1 c) ∧ w'.ownsRow w.heap.size 9 1 (.slice ao 1 c) 1 (([f] : List ByteArray).map Value.string) ∧ Below w.heap.size w w') := fun w => by
    have h := split_line [f, g, r] w (by intro x hx; simp at hx; rcases hx with rfl | rfl | rfl <;> assumption) hlen
    rw [HQ.out, ← hy] at h
    exact h
  have Kf : Hid (∀ w, Calls Try.prog 6 #[.string f] w fun e w' => e = .returned (.bool false) ∧ w' = w) := fun w => by have h := colon_any f w (by omega); rwa [kf] at h
  have Kg : Hid (∀ w, Calls Try.prog 6 #[.string g] w fun e w' => e = .returned (.bool false) ∧ w' = w) := fun w => by have h := colon_any g w (by omega); rwa [kg] at h
  have Kr : Hid (∀ w, Calls Try.prog 6 #[.string r] w fun e w' => e = .returned (.bool false) ∧ w' = w) := fun w => by have h := colon_any r w (by omega); rwa [kr] at h
  have hf' : (f.size : Int) ≤ 262144 := by omega
  have hg' : (g.size : Int) ≤ 262144 := by omega
  have hr' : (r.size : Int) ≤ 262144 := by omega
  clear hy LL hlen kf kg kr HQ
  go_enter Try.func3, Try.ntmps3
  go_wp2_with (first | (go_at_call 5; go_in) | fail)
  refine (Kf.out _).mono ?_
  rintro e w ⟨rfl, rfl⟩
  go_wp2_with fail
  refine (Kg.out _).mono ?_
  rintro e w ⟨rfl, rfl⟩
  go_wp2_with fail
  refine (Kr.out _).mono ?_
  rintro e w ⟨rfl, rfl⟩
  go_wp2_with fail
  refine (CL.out _).mono ?_
  rintro e w1 ⟨rfl, hb1⟩
  go_wp2_with (at_make; refine wpList_make_own _ rfl _ _ 27 rfl w1.heap.size 9 ti (.string ⟨#[]⟩) 1 Try.underlying27 hti hz0 hz1 _ _ _ 3 rfl rfl rfl ?b1 ?b2 ?b3 ?_)
  case b1 => rw [hz2]; omega
  case b2 => unfold maxLen; omega
  case b3 => exact Nat.le_refl _
  intro w2 own2 hgrow
  have be2 : Below w1.heap.size w1 w2 := (Below.refl _ _).grown hgrow (Nat.le_refl _) (by simp)
  clear hgrow
  go_wp2_with (at_builtin; refine wpList_append_fits _ rfl _ _ 27 rfl w1.heap.size 9 ti 1 Try.underlying27 hti hz1 w1.heap.size 0 3 [] rfl (own2.alloc _) ⟨w2.heap.size, 0, none⟩ 1 1 [.string f] rfl rfl ?c1f ?c2f (by omega) ?_)
  case c1f =>
    intro j x hj
    match j, hj with
    | 0, hj => simp at hj; subst hj; simp [Addr.add]
  case c2f => first | rfl | (intro x hx; simp at hx; subst hx; rfl)
  intro w3 own3 hgrow
  have be3 : Below w1.heap.size w1 w3 := ((be2.alloc be2.size _).grown hgrow (by have := be2.size; simp; omega) (by simp))
  clear hgrow be2 own2
  go_wp2_with fail
  refine (CS.out _).mono ?_
  rintro e w9 ⟨ao, c, rfl, hown9, hb9⟩
  obtain ⟨Q, hQ⟩ : ∃ Q : List ByteArray, Q = [f] := ⟨_, rfl⟩
  have HQl : Hid (Q.length = 1) := by show _ = _; rw [hQ]; rfl
  rw [← hQ] at hown9
  have hown' : w3.ownsRow w1.heap.size 9 1 (.slice (some ⟨w1.heap.size, 0, none⟩) 1 3) 1 (Q.map Value.string) := by rw [hQ]; simpa using own3
  clear own3
  obtain ⟨g1, e1, _, hc1⟩ := own_cells (by omega) hown'
  simp only [Option.some.injEq, Addr.mk.injEq] at e1
  obtain ⟨rfl, _⟩ := e1
  obtain ⟨g2, rfl, _, hc2⟩ := own_cells (by omega) hown9
  have hlt1 : w1.heap.size < w3.heap.size := (hown'.lt _ rfl).2
  have HC1 : Hid (∀ k, k < 1 → w9.cell? ⟨w1.heap.size, k, none⟩ = some (.string (Q.getD k ⟨#[]⟩))) := fun k hk => (hb9.cell (by exact hlt1)).trans (hc1 k (by rw [HQl.out]; exact hk))
  have HC2 : Hid (∀ k, k < 1 → w9.cell? ⟨g2, k, none⟩ = some (.string (Q.getD k ⟨#[]⟩))) := fun k hk => hc2 k (by rw [HQl.out]; exact hk)
  have hbf : Below w.heap.size w w9 := (hb1.trans (be3.mono hb1.size)).trans (hb9.mono (Nat.le_trans hb1.size be3.size))
  clear hb1 be3 hb9 hc1 hc2 hown9 hown' hQ HQl CL CS Kf Kg Kr hlt1
  go_wp2
  go_loopw [10] (fun i wr => ∃ k : Nat, k ≤ 1 ∧ i = .int .i64 k ∧ ∃ j, wr = w9.drewN j) (fun i _ => 1 - (intOf i).toNat)
  case atStart => exact ⟨0, by omega, rfl, 0, rfl⟩
  case round =>
    obtain ⟨k, hk, rfl, j, rfl⟩ := hrel
    by_cases hlt : k < 1
    · have q1 := HC1.out k hlt
      have q2 := HC2.out k hlt
      obtain ⟨x, hx⟩ : ∃ x, x = Q.getD k ⟨#[]⟩ := ⟨_, rfl⟩
      rw [← hx] at q1 q2
      clear hx
      have p0 : (0 : Int) ≤ (k : Int) := by omega
      have p1 : (k : Int) < 1 := by omega
      go_wp2
      go_quiet (fail)
      go_wp2
      go_roundw
      case rel => exact ⟨k + 1, by omega, by go_num, _, rfl⟩
      case measure => simp [intOf]; omega
    · go_wp2
      go_ret
      exact ⟨rfl, below_drewN' hbf _⟩

set_option maxHeartbeats 2000000 in
theorem back_yny (f g r : ByteArray) (w : World) (hf : f.size ≤ 262144) (hg : g.size ≤ 262144) (hr : r.size ≤ 262144) (ef : f.toList.isEmpty = false) (eg : g.toList.isEmpty = true) (er : r.toList.isEmpty = false)
    (kf : colon f.data.toList = false) (kg : colon g.data.toList = false) (kr : colon r.data.toList = false) :
    Calls Try.prog 3 #[.string f, .string g, .string r] w fun e w' => e = .returned (.bool true) ∧ Below w.heap.size w w' := by
  obtain ⟨ti, hti, hz0, hz1, hz2⟩ := info_parts Try.info9
  have LL := line_len [f, g, r]
  have HQ : Hid (flt [f, g, r] = [f, r]) := by show _ = _; simp [flt, ef, eg, er]
  obtain ⟨y, hy⟩ : ∃ y : ByteArray, y = ⟨(lineOf [f, g, r]).toArray⟩ := ⟨_, rfl⟩
  have hlen : (lineOf [f, g, r]).length ≤ 1048576 := by simp at LL; omega
  have CL : Hid (∀ w, Calls Try.prog 7 #[.agg #[.string f, .string g, .string r]] w fun e w' => e = .returned (.string y) ∧ Below w.heap.size w w') := fun w => by
    rw [hy]; exact line_any f g r w (by omega)
  have CS : Hid (∀ w, Calls Try.prog 8 #[.string y] w fun e w' => ∃ (ao : Option Addr) (c : Nat), e = .returned (.slice ao 2 c) ∧ w'.ownsRow w.heap.size 9 1 (.slice ao 2 c) 2 (([f, r] : List ByteArray).map Value.string) ∧ Below w.heap.size w w') := fun w => by
    have h := split_line [f, g, r] w (by intro x hx; simp at hx; rcases hx with rfl | rfl | rfl <;> assumption) hlen
    rw [HQ.out, ← hy] at h
    exact h
  have Kf : Hid (∀ w, Calls Try.prog 6 #[.string f] w fun e w' => e = .returned (.bool false) ∧ w' = w) := fun w => by have h := colon_any f w (by omega); rwa [kf] at h
  have Kg : Hid (∀ w, Calls Try.prog 6 #[.string g] w fun e w' => e = .returned (.bool false) ∧ w' = w) := fun w => by have h := colon_any g w (by omega); rwa [kg] at h
  have Kr : Hid (∀ w, Calls Try.prog 6 #[.string r] w fun e w' => e = .returned (.bool false) ∧ w' = w) := fun w => by have h := colon_any r w (by omega); rwa [kr] at h
  have hf' : (f.size : Int) ≤ 262144 := by omega
  have hg' : (g.size : Int) ≤ 262144 := by omega
  have hr' : (r.size : Int) ≤ 262144 := by omega
  clear hy LL hlen kf kg kr HQ
  go_enter Try.func3, Try.ntmps3
  go_wp2_with (first | (go_at_call 5; go_in) | fail)
  refine (Kf.out _).mono ?_
  rintro e w ⟨rfl, rfl⟩
  go_wp2_with fail
  refine (Kg.out _).mono ?_
  rintro e w ⟨rfl, rfl⟩
  go_wp2_with fail
  refine (Kr.out _).mono ?_
  rintro e w ⟨rfl, rfl⟩
  go_wp2_with fail
  refine (CL.out _).mono ?_
  rintro e w1 ⟨rfl, hb1⟩
  go_wp2_with (at_make; refine wpList_make_own _ rfl _ _ 27 rfl w1.heap.size 9 ti (.string ⟨#[]⟩) 1 Try.underlying27 hti hz0 hz1 _ _ _ 3 rfl rfl rfl ?b1 ?b2 ?b3 ?_)
  case b1 => rw [hz2]; omega
  case b2 => unfold maxLen; omega
  case b3 => exact Nat.le_refl _
  intro w2 own2 hgrow
  have be2 : Below w1.heap.size w1 w2 := (Below.refl _ _).grown hgrow (Nat.le_refl _) (by simp)
  clear hgrow
  go_wp2_with (at_builtin; refine wpList_append_fits _ rfl _ _ 27 rfl w1.heap.size 9 ti 1 Try.underlying27 hti hz1 w1.heap.size 0 3 [] rfl (own2.alloc _) ⟨w2.heap.size, 0, none⟩ 1 1 [.string f] rfl rfl ?c1f ?c2f (by omega) ?_)
  case c1f =>
    intro j x hj
    match j, hj with
    | 0, hj => simp at hj; subst hj; simp [Addr.add]
  case c2f => first | rfl | (intro x hx; simp at hx; subst hx; rfl)
  intro w3 own3 hgrow
  have be3 : Below w1.heap.size w1 w3 := ((be2.alloc be2.size _).grown hgrow (by have := be2.size; simp; omega) (by simp))
  clear hgrow be2 own2
  go_wp2_with (at_builtin; refine wpList_append_fits _ rfl _ _ 27 rfl w1.heap.size 9 ti 1 Try.underlying27 hti hz1 w1.heap.size 1 3 [.string f] rfl (own3.alloc _) ⟨w3.heap.size, 0, none⟩ 1 1 [.string r] rfl rfl ?c1r ?c2r (by omega) ?_)
  case c1r =>
    intro j x hj
    match j, hj with
    | 0, hj => simp at hj; subst hj; simp [Addr.add]
  case c2r => first | rfl | (intro x hx; simp at hx; subst hx; rfl)
  intro w4 own4 hgrow
  have be4 : Below w1.heap.size w1 w4 := ((be3.alloc be3.size _).grown hgrow (by have := be3.size; simp; omega) (by simp))
  clear hgrow be3 own3
  go_wp2_with fail
  refine (CS.out _).mono ?_
  rintro e w9 ⟨ao, c, rfl, hown9, hb9⟩
  obtain ⟨Q, hQ⟩ : ∃ Q : List ByteArray, Q = [f, r] := ⟨_, rfl⟩
  have HQl : Hid (Q.length = 2) := by show _ = _; rw [hQ]; rfl
  rw [← hQ] at hown9
  have hown' : w4.ownsRow w1.heap.size 9 1 (.slice (some ⟨w1.heap.size, 0, none⟩) 2 3) 2 (Q.map Value.string) := by rw [hQ]; simpa using own4
  clear own4
  obtain ⟨g1, e1, _, hc1⟩ := own_cells (by omega) hown'
  simp only [Option.some.injEq, Addr.mk.injEq] at e1
  obtain ⟨rfl, _⟩ := e1
  obtain ⟨g2, rfl, _, hc2⟩ := own_cells (by omega) hown9
  have hlt1 : w1.heap.size < w4.heap.size := (hown'.lt _ rfl).2
  have HC1 : Hid (∀ k, k < 2 → w9.cell? ⟨w1.heap.size, k, none⟩ = some (.string (Q.getD k ⟨#[]⟩))) := fun k hk => (hb9.cell (by exact hlt1)).trans (hc1 k (by rw [HQl.out]; exact hk))
  have HC2 : Hid (∀ k, k < 2 → w9.cell? ⟨g2, k, none⟩ = some (.string (Q.getD k ⟨#[]⟩))) := fun k hk => hc2 k (by rw [HQl.out]; exact hk)
  have hbf : Below w.heap.size w w9 := (hb1.trans (be4.mono hb1.size)).trans (hb9.mono (Nat.le_trans hb1.size be4.size))
  clear hb1 be4 hb9 hc1 hc2 hown9 hown' hQ HQl CL CS Kf Kg Kr hlt1
  go_wp2
  go_loopw [10] (fun i wr => ∃ k : Nat, k ≤ 2 ∧ i = .int .i64 k ∧ ∃ j, wr = w9.drewN j) (fun i _ => 2 - (intOf i).toNat)
  case atStart => exact ⟨0, by omega, rfl, 0, rfl⟩
  case round =>
    obtain ⟨k, hk, rfl, j, rfl⟩ := hrel
    by_cases hlt : k < 2
    · have q1 := HC1.out k hlt
      have q2 := HC2.out k hlt
      obtain ⟨x, hx⟩ : ∃ x, x = Q.getD k ⟨#[]⟩ := ⟨_, rfl⟩
      rw [← hx] at q1 q2
      clear hx
      have p0 : (0 : Int) ≤ (k : Int) := by omega
      have p1 : (k : Int) < 2 := by omega
      go_wp2
      go_quiet (fail)
      go_wp2
      go_roundw
      case rel => exact ⟨k + 1, by omega, by go_num, _, rfl⟩
      case measure => simp [intOf]; omega
    · go_wp2
      go_ret
      exact ⟨rfl, below_drewN' hbf _⟩

set_option maxHeartbeats 2000000 in
theorem back_yyn (f g r : ByteArray) (w : World) (hf : f.size ≤ 262144) (hg : g.size ≤ 262144) (hr : r.size ≤ 262144) (ef : f.toList.isEmpty = false) (eg : g.toList.isEmpty = false) (er : r.toList.isEmpty = true)
    (kf : colon f.data.toList = false) (kg : colon g.data.toList = false) (kr : colon r.data.toList = false) :
    Calls Try.prog 3 #[.string f, .string g, .string r] w fun e w' => e = .returned (.bool true) ∧ Below w.heap.size w w' := by
  obtain ⟨ti, hti, hz0, hz1, hz2⟩ := info_parts Try.info9
  have LL := line_len [f, g, r]
  have HQ : Hid (flt [f, g, r] = [f, g]) := by show _ = _; simp [flt, ef, eg, er]
  obtain ⟨y, hy⟩ : ∃ y : ByteArray, y = ⟨(lineOf [f, g, r]).toArray⟩ := ⟨_, rfl⟩
  have hlen : (lineOf [f, g, r]).length ≤ 1048576 := by simp at LL; omega
  have CL : Hid (∀ w, Calls Try.prog 7 #[.agg #[.string f, .string g, .string r]] w fun e w' => e = .returned (.string y) ∧ Below w.heap.size w w') := fun w => by
    rw [hy]; exact line_any f g r w (by omega)
  have CS : Hid (∀ w, Calls Try.prog 8 #[.string y] w fun e w' => ∃ (ao : Option Addr) (c : Nat), e = .returned (.slice ao 2 c) ∧ w'.ownsRow w.heap.size 9 1 (.slice ao 2 c) 2 (([f, g] : List ByteArray).map Value.string) ∧ Below w.heap.size w w') := fun w => by
    have h := split_line [f, g, r] w (by intro x hx; simp at hx; rcases hx with rfl | rfl | rfl <;> assumption) hlen
    rw [HQ.out, ← hy] at h
    exact h
  have Kf : Hid (∀ w, Calls Try.prog 6 #[.string f] w fun e w' => e = .returned (.bool false) ∧ w' = w) := fun w => by have h := colon_any f w (by omega); rwa [kf] at h
  have Kg : Hid (∀ w, Calls Try.prog 6 #[.string g] w fun e w' => e = .returned (.bool false) ∧ w' = w) := fun w => by have h := colon_any g w (by omega); rwa [kg] at h
  have Kr : Hid (∀ w, Calls Try.prog 6 #[.string r] w fun e w' => e = .returned (.bool false) ∧ w' = w) := fun w => by have h := colon_any r w (by omega); rwa [kr] at h
  have hf' : (f.size : Int) ≤ 262144 := by omega
  have hg' : (g.size : Int) ≤ 262144 := by omega
  have hr' : (r.size : Int) ≤ 262144 := by omega
  clear hy LL hlen kf kg kr HQ
  go_enter Try.func3, Try.ntmps3
  go_wp2_with (first | (go_at_call 5; go_in) | fail)
  refine (Kf.out _).mono ?_
  rintro e w ⟨rfl, rfl⟩
  go_wp2_with fail
  refine (Kg.out _).mono ?_
  rintro e w ⟨rfl, rfl⟩
  go_wp2_with fail
  refine (Kr.out _).mono ?_
  rintro e w ⟨rfl, rfl⟩
  go_wp2_with fail
  refine (CL.out _).mono ?_
  rintro e w1 ⟨rfl, hb1⟩
  go_wp2_with (at_make; refine wpList_make_own _ rfl _ _ 27 rfl w1.heap.size 9 ti (.string ⟨#[]⟩) 1 Try.underlying27 hti hz0 hz1 _ _ _ 3 rfl rfl rfl ?b1 ?b2 ?b3 ?_)
  case b1 => rw [hz2]; omega
  case b2 => unfold maxLen; omega
  case b3 => exact Nat.le_refl _
  intro w2 own2 hgrow
  have be2 : Below w1.heap.size w1 w2 := (Below.refl _ _).grown hgrow (Nat.le_refl _) (by simp)
  clear hgrow
  go_wp2_with (at_builtin; refine wpList_append_fits _ rfl _ _ 27 rfl w1.heap.size 9 ti 1 Try.underlying27 hti hz1 w1.heap.size 0 3 [] rfl (own2.alloc _) ⟨w2.heap.size, 0, none⟩ 1 1 [.string f] rfl rfl ?c1f ?c2f (by omega) ?_)
  case c1f =>
    intro j x hj
    match j, hj with
    | 0, hj => simp at hj; subst hj; simp [Addr.add]
  case c2f => first | rfl | (intro x hx; simp at hx; subst hx; rfl)
  intro w3 own3 hgrow
  have be3 : Below w1.heap.size w1 w3 := ((be2.alloc be2.size _).grown hgrow (by have := be2.size; simp; omega) (by simp))
  clear hgrow be2 own2
  go_wp2_with (at_builtin; refine wpList_append_fits _ rfl _ _ 27 rfl w1.heap.size 9 ti 1 Try.underlying27 hti hz1 w1.heap.size 1 3 [.string f] rfl (own3.alloc _) ⟨w3.heap.size, 0, none⟩ 1 1 [.string g] rfl rfl ?c1g ?c2g (by omega) ?_)
  case c1g =>
    intro j x hj
    match j, hj with
    | 0, hj => simp at hj; subst hj; simp [Addr.add]
  case c2g => first | rfl | (intro x hx; simp at hx; subst hx; rfl)
  intro w4 own4 hgrow
  have be4 : Below w1.heap.size w1 w4 := ((be3.alloc be3.size _).grown hgrow (by have := be3.size; simp; omega) (by simp))
  clear hgrow be3 own3
  go_wp2_with fail
  refine (CS.out _).mono ?_
  rintro e w9 ⟨ao, c, rfl, hown9, hb9⟩
  obtain ⟨Q, hQ⟩ : ∃ Q : List ByteArray, Q = [f, g] := ⟨_, rfl⟩
  have HQl : Hid (Q.length = 2) := by show _ = _; rw [hQ]; rfl
  rw [← hQ] at hown9
  have hown' : w4.ownsRow w1.heap.size 9 1 (.slice (some ⟨w1.heap.size, 0, none⟩) 2 3) 2 (Q.map Value.string) := by rw [hQ]; simpa using own4
  clear own4
  obtain ⟨g1, e1, _, hc1⟩ := own_cells (by omega) hown'
  simp only [Option.some.injEq, Addr.mk.injEq] at e1
  obtain ⟨rfl, _⟩ := e1
  obtain ⟨g2, rfl, _, hc2⟩ := own_cells (by omega) hown9
  have hlt1 : w1.heap.size < w4.heap.size := (hown'.lt _ rfl).2
  have HC1 : Hid (∀ k, k < 2 → w9.cell? ⟨w1.heap.size, k, none⟩ = some (.string (Q.getD k ⟨#[]⟩))) := fun k hk => (hb9.cell (by exact hlt1)).trans (hc1 k (by rw [HQl.out]; exact hk))
  have HC2 : Hid (∀ k, k < 2 → w9.cell? ⟨g2, k, none⟩ = some (.string (Q.getD k ⟨#[]⟩))) := fun k hk => hc2 k (by rw [HQl.out]; exact hk)
  have hbf : Below w.heap.size w w9 := (hb1.trans (be4.mono hb1.size)).trans (hb9.mono (Nat.le_trans hb1.size be4.size))
  clear hb1 be4 hb9 hc1 hc2 hown9 hown' hQ HQl CL CS Kf Kg Kr hlt1
  go_wp2
  go_loopw [10] (fun i wr => ∃ k : Nat, k ≤ 2 ∧ i = .int .i64 k ∧ ∃ j, wr = w9.drewN j) (fun i _ => 2 - (intOf i).toNat)
  case atStart => exact ⟨0, by omega, rfl, 0, rfl⟩
  case round =>
    obtain ⟨k, hk, rfl, j, rfl⟩ := hrel
    by_cases hlt : k < 2
    · have q1 := HC1.out k hlt
      have q2 := HC2.out k hlt
      obtain ⟨x, hx⟩ : ∃ x, x = Q.getD k ⟨#[]⟩ := ⟨_, rfl⟩
      rw [← hx] at q1 q2
      clear hx
      have p0 : (0 : Int) ≤ (k : Int) := by omega
      have p1 : (k : Int) < 2 := by omega
      go_wp2
      go_quiet (fail)
      go_wp2
      go_roundw
      case rel => exact ⟨k + 1, by omega, by go_num, _, rfl⟩
      case measure => simp [intOf]; omega
    · go_wp2
      go_ret
      exact ⟨rfl, below_drewN' hbf _⟩

set_option maxHeartbeats 2000000 in
theorem back_yyy (f g r : ByteArray) (w : World) (hf : f.size ≤ 262144) (hg : g.size ≤ 262144) (hr : r.size ≤ 262144) (ef : f.toList.isEmpty = false) (eg : g.toList.isEmpty = false) (er : r.toList.isEmpty = false)
    (kf : colon f.data.toList = false) (kg : colon g.data.toList = false) (kr : colon r.data.toList = false) :
    Calls Try.prog 3 #[.string f, .string g, .string r] w fun e w' => e = .returned (.bool true) ∧ Below w.heap.size w w' := by
  obtain ⟨ti, hti, hz0, hz1, hz2⟩ := info_parts Try.info9
  have LL := line_len [f, g, r]
  have HQ : Hid (flt [f, g, r] = [f, g, r]) := by show _ = _; simp [flt, ef, eg, er]
  obtain ⟨y, hy⟩ : ∃ y : ByteArray, y = ⟨(lineOf [f, g, r]).toArray⟩ := ⟨_, rfl⟩
  have hlen : (lineOf [f, g, r]).length ≤ 1048576 := by simp at LL; omega
  have CL : Hid (∀ w, Calls Try.prog 7 #[.agg #[.string f, .string g, .string r]] w fun e w' => e = .returned (.string y) ∧ Below w.heap.size w w') := fun w => by
    rw [hy]; exact line_any f g r w (by omega)
  have CS : Hid (∀ w, Calls Try.prog 8 #[.string y] w fun e w' => ∃ (ao : Option Addr) (c : Nat), e = .returned (.slice ao 3 c) ∧ w'.ownsRow w.heap.size 9 1 (.slice ao 3 c) 3 (([f, g, r] : List ByteArray).map Value.string) ∧ Below w.heap.size w w') := fun w => by
    have h := split_line [f, g, r] w (by intro x hx; simp at hx; rcases hx with rfl | rfl | rfl <;> assumption) hlen
    rw [HQ.out, ← hy] at h
    exact h
  have Kf : Hid (∀ w, Calls Try.prog 6 #[.string f] w fun e w' => e = .returned (.bool false) ∧ w' = w) := fun w => by have h := colon_any f w (by omega); rwa [kf] at h
  have Kg : Hid (∀ w, Calls Try.prog 6 #[.string g] w fun e w' => e = .returned (.bool false) ∧ w' = w) := fun w => by have h := colon_any g w (by omega); rwa [kg] at h
  have Kr : Hid (∀ w, Calls Try.prog 6 #[.string r] w fun e w' => e = .returned (.bool false) ∧ w' = w) := fun w => by have h := colon_any r w (by omega); rwa [kr] at h
  have hf' : (f.size : Int) ≤ 262144 := by omega
  have hg' : (g.size : Int) ≤ 262144 := by omega
  have hr' : (r.size : Int) ≤ 262144 := by omega
  clear hy LL hlen kf kg kr HQ
  go_enter Try.func3, Try.ntmps3
  go_wp2_with (first | (go_at_call 5; go_in) | fail)
  refine (Kf.out _).mono ?_
  rintro e w ⟨rfl, rfl⟩
  go_wp2_with fail
  refine (Kg.out _).mono ?_
  rintro e w ⟨rfl, rfl⟩
  go_wp2_with fail
  refine (Kr.out _).mono ?_
  rintro e w ⟨rfl, rfl⟩
  go_wp2_with fail
  refine (CL.out _).mono ?_
  rintro e w1 ⟨rfl, hb1⟩
  go_wp2_with (at_make; refine wpList_make_own _ rfl _ _ 27 rfl w1.heap.size 9 ti (.string ⟨#[]⟩) 1 Try.underlying27 hti hz0 hz1 _ _ _ 3 rfl rfl rfl ?b1 ?b2 ?b3 ?_)
  case b1 => rw [hz2]; omega
  case b2 => unfold maxLen; omega
  case b3 => exact Nat.le_refl _
  intro w2 own2 hgrow
  have be2 : Below w1.heap.size w1 w2 := (Below.refl _ _).grown hgrow (Nat.le_refl _) (by simp)
  clear hgrow
  go_wp2_with (at_builtin; refine wpList_append_fits _ rfl _ _ 27 rfl w1.heap.size 9 ti 1 Try.underlying27 hti hz1 w1.heap.size 0 3 [] rfl (own2.alloc _) ⟨w2.heap.size, 0, none⟩ 1 1 [.string f] rfl rfl ?c1f ?c2f (by omega) ?_)
  case c1f =>
    intro j x hj
    match j, hj with
    | 0, hj => simp at hj; subst hj; simp [Addr.add]
  case c2f => first | rfl | (intro x hx; simp at hx; subst hx; rfl)
  intro w3 own3 hgrow
  have be3 : Below w1.heap.size w1 w3 := ((be2.alloc be2.size _).grown hgrow (by have := be2.size; simp; omega) (by simp))
  clear hgrow be2 own2
  go_wp2_with (at_builtin; refine wpList_append_fits _ rfl _ _ 27 rfl w1.heap.size 9 ti 1 Try.underlying27 hti hz1 w1.heap.size 1 3 [.string f] rfl (own3.alloc _) ⟨w3.heap.size, 0, none⟩ 1 1 [.string g] rfl rfl ?c1g ?c2g (by omega) ?_)
  case c1g =>
    intro j x hj
    match j, hj with
    | 0, hj => simp at hj; subst hj; simp [Addr.add]
  case c2g => first | rfl | (intro x hx; simp at hx; subst hx; rfl)
  intro w4 own4 hgrow
  have be4 : Below w1.heap.size w1 w4 := ((be3.alloc be3.size _).grown hgrow (by have := be3.size; simp; omega) (by simp))
  clear hgrow be3 own3
  go_wp2_with (at_builtin; refine wpList_append_fits _ rfl _ _ 27 rfl w1.heap.size 9 ti 1 Try.underlying27 hti hz1 w1.heap.size 2 3 [.string f, .string g] rfl (own4.alloc _) ⟨w4.heap.size, 0, none⟩ 1 1 [.string r] rfl rfl ?c1r ?c2r (by omega) ?_)
  case c1r =>
    intro j x hj
    match j, hj with
    | 0, hj => simp at hj; subst hj; simp [Addr.add]
  case c2r => first | rfl | (intro x hx; simp at hx; subst hx; rfl)
  intro w5 own5 hgrow
  have be5 : Below w1.heap.size w1 w5 := ((be4.alloc be4.size _).grown hgrow (by have := be4.size; simp; omega) (by simp))
  clear hgrow be4 own4
  go_wp2_with fail
  refine (CS.out _).mono ?_
  rintro e w9 ⟨ao, c, rfl, hown9, hb9⟩
  obtain ⟨Q, hQ⟩ : ∃ Q : List ByteArray, Q = [f, g, r] := ⟨_, rfl⟩
  have HQl : Hid (Q.length = 3) := by show _ = _; rw [hQ]; rfl
  rw [← hQ] at hown9
  have hown' : w5.ownsRow w1.heap.size 9 1 (.slice (some ⟨w1.heap.size, 0, none⟩) 3 3) 3 (Q.map Value.string) := by rw [hQ]; simpa using own5
  clear own5
  obtain ⟨g1, e1, _, hc1⟩ := own_cells (by omega) hown'
  simp only [Option.some.injEq, Addr.mk.injEq] at e1
  obtain ⟨rfl, _⟩ := e1
  obtain ⟨g2, rfl, _, hc2⟩ := own_cells (by omega) hown9
  have hlt1 : w1.heap.size < w5.heap.size := (hown'.lt _ rfl).2
  have HC1 : Hid (∀ k, k < 3 → w9.cell? ⟨w1.heap.size, k, none⟩ = some (.string (Q.getD k ⟨#[]⟩))) := fun k hk => (hb9.cell (by exact hlt1)).trans (hc1 k (by rw [HQl.out]; exact hk))
  have HC2 : Hid (∀ k, k < 3 → w9.cell? ⟨g2, k, none⟩ = some (.string (Q.getD k ⟨#[]⟩))) := fun k hk => hc2 k (by rw [HQl.out]; exact hk)
  have hbf : Below w.heap.size w w9 := (hb1.trans (be5.mono hb1.size)).trans (hb9.mono (Nat.le_trans hb1.size be5.size))
  clear hb1 be5 hb9 hc1 hc2 hown9 hown' hQ HQl CL CS Kf Kg Kr hlt1
  go_wp2
  go_loopw [10] (fun i wr => ∃ k : Nat, k ≤ 3 ∧ i = .int .i64 k ∧ ∃ j, wr = w9.drewN j) (fun i _ => 3 - (intOf i).toNat)
  case atStart => exact ⟨0, by omega, rfl, 0, rfl⟩
  case round =>
    obtain ⟨k, hk, rfl, j, rfl⟩ := hrel
    by_cases hlt : k < 3
    · have q1 := HC1.out k hlt
      have q2 := HC2.out k hlt
      obtain ⟨x, hx⟩ : ∃ x, x = Q.getD k ⟨#[]⟩ := ⟨_, rfl⟩
      rw [← hx] at q1 q2
      clear hx
      have p0 : (0 : Int) ≤ (k : Int) := by omega
      have p1 : (k : Int) < 3 := by omega
      go_wp2
      go_quiet (fail)
      go_wp2
      go_roundw
      case rel => exact ⟨k + 1, by omega, by go_num, _, rfl⟩
      case measure => simp [intOf]; omega
    · go_wp2
      go_ret
      exact ⟨rfl, below_drewN' hbf _⟩

set_option maxHeartbeats 1000000 in
theorem back_colon (f g r : ByteArray) (w : World) (hf : f.size ≤ 262144) (hg : g.size ≤ 262144) (hr : r.size ≤ 262144) (h : colon f.data.toList = true ∨ colon g.data.toList = true ∨ colon r.data.toList = true) :
    Calls Try.prog 3 #[.string f, .string g, .string r] w fun e w' => e = .returned (.bool true) ∧ Below w.heap.size w w' := by
  have kf := fun w => colon_any f w (by omega)
  have kg := fun w => colon_any g w (by omega)
  have kr := fun w => colon_any r w (by omega)
  have hf' : (f.size : Int) ≤ 262144 := by omega
  have hg' : (g.size : Int) ≤ 262144 := by omega
  have hr' : (r.size : Int) ≤ 262144 := by omega
  cases cf : colon f.data.toList
  · cases cg : colon g.data.toList
    · have cr : colon r.data.toList = true := by rcases h with h | h | h <;> simp_all
      rw [cf] at kf
      rw [cg] at kg
      rw [cr] at kr
      have Kf : Hid (∀ w, Calls Try.prog 6 #[.string f] w fun e w' => e = .returned (.bool false) ∧ w' = w) := kf
      have Kg : Hid (∀ w, Calls Try.prog 6 #[.string g] w fun e w' => e = .returned (.bool false) ∧ w' = w) := kg
      have Kr : Hid (∀ w, Calls Try.prog 6 #[.string r] w fun e w' => e = .returned (.bool true) ∧ w' = w) := kr
      clear kf kg kr cf cg cr h
      go_enter Try.func3, Try.ntmps3
      go_wp2_with (first | (go_at_call 5; go_in) | fail)
      refine (Kf.out _).mono ?_
      rintro e w ⟨rfl, rfl⟩
      go_wp2_with fail
      refine (Kg.out _).mono ?_
      rintro e w ⟨rfl, rfl⟩
      go_wp2_with fail
      refine (Kr.out _).mono ?_
      rintro e w ⟨rfl, rfl⟩
      go_wp2
      go_ret
      exact ⟨rfl, Below.refl _ _⟩
    · rw [cf] at kf
      rw [cg] at kg
      have Kf : Hid (∀ w, Calls Try.prog 6 #[.string f] w fun e w' => e = .returned (.bool false) ∧ w' = w) := kf
      have Kg : Hid (∀ w, Calls Try.prog 6 #[.string g] w fun e w' => e = .returned (.bool true) ∧ w' = w) := kg
      clear kf kg kr cf cg h
      go_enter Try.func3, Try.ntmps3
      go_wp2_with (first | (go_at_call 5; go_in) | fail)
      refine (Kf.out _).mono ?_
      rintro e w ⟨rfl, rfl⟩
      go_wp2_with fail
      refine (Kg.out _).mono ?_
      rintro e w ⟨rfl, rfl⟩
      go_wp2
      go_ret
      exact ⟨rfl, Below.refl _ _⟩
  · rw [cf] at kf
    have Kf : Hid (∀ w, Calls Try.prog 6 #[.string f] w fun e w' => e = .returned (.bool true) ∧ w' = w) := kf
    clear kf kg kr cf h
    go_enter Try.func3, Try.ntmps3
    go_wp2_with (first | (go_at_call 5; go_in) | fail)
    refine (Kf.out _).mono ?_
    rintro e w ⟨rfl, rfl⟩
    go_wp2
    go_ret
    exact ⟨rfl, Below.refl _ _⟩

theorem back_core (f g r : ByteArray) (w : World) (hf : f.size ≤ 262144) (hg : g.size ≤ 262144) (hr : r.size ≤ 262144) :
    Calls Try.prog 3 #[.string f, .string g, .string r] w fun e w' => e = .returned (.bool true) ∧ Below w.heap.size w w' := by
  by_cases h : colon f.data.toList = true ∨ colon g.data.toList = true ∨ colon r.data.toList = true
  · exact back_colon f g r w hf hg hr h
  · have kf : colon f.data.toList = false := by cases e : colon f.data.toList <;> simp_all
    have kg : colon g.data.toList = false := by cases e : colon g.data.toList <;> simp_all
    have kr : colon r.data.toList = false := by cases e : colon r.data.toList <;> simp_all
    cases ef : f.toList.isEmpty
    · cases eg : g.toList.isEmpty
      · cases er : r.toList.isEmpty
        · exact back_yyy f g r w hf hg hr ef eg er kf kg kr
        · exact back_yyn f g r w hf hg hr ef eg er kf kg kr
      · cases er : r.toList.isEmpty
        · exact back_yny f g r w hf hg hr ef eg er kf kg kr
        · exact back_ynn f g r w hf hg hr ef eg er kf kg kr
    · cases eg : g.toList.isEmpty
      · cases er : r.toList.isEmpty
        · exact back_nyy f g r w hf hg hr ef eg er kf kg kr
        · exact back_nyn f g r w hf hg hr ef eg er kf kg kr
      · cases er : r.toList.isEmpty
        · exact back_nny f g r w hf hg hr ef eg er kf kg kr
        · exact back_nnn f g r w hf hg hr ef eg er kf kg kr
end Go.Proofs.Qxb6001076a
