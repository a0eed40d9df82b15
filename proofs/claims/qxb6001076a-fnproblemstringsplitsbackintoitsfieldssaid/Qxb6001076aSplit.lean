/-
  THE CONTRACTS of hasColon (6) and splitColonSpace (8).
-/
import Derived.Test.Qxb6001076aLine
import Derived.Test.Qxb6001076aCut
namespace Go.Proofs.Qxb6001076a
open Go.RowKit Plain

theorem ret_bool {a b : Bool} (h : a = b) : Ending.returned (.bool a) = .returned (.bool b) := by rw [h]

theorem u8_eq (c : UInt8) (n : Nat) (hn : n < 256) : ((c.toNat : Int) == (n : Int)) = (c == UInt8.ofNat n) := by
  rw [Bool.eq_iff_iff]
  simp only [beq_iff_eq]
  constructor
  · intro h; exact UInt8.toNat_inj.1 (by simp; omega)
  · intro h; rw [h]; simp; omega

/-- Does the text hold a colon? -/
def colon (T : List UInt8) : Bool := T.contains 58
theorem colon_at {t : ByteArray} {k : Nat} (hk : k < t.size) (h : (((t[k]'hk).toNat : Int) == 58) = true) : true = colon t.data.toList := by
  rw [show (58 : Int) = ((58 : Nat) : Int) from rfl, u8_eq _ 58 (by omega)] at h
  simp only [beq_iff_eq] at h
  unfold colon
  refine (List.contains_iff_mem.2 ?_).symm
  have e : t.data.toList[k]'(by simpa using hk) = 58 := h
  rw [← e]
  exact List.getElem_mem _
def NoTo (T : List UInt8) (k : Nat) : Prop := ∀ j, j < k → T[j]? ≠ some 58
theorem no_step {t : ByteArray} {k : Nat} (hk : k < t.size) (hn : NoTo t.data.toList k) (h : (((t[k]'hk).toNat : Int) == 58) = false) : NoTo t.data.toList (k + 1) := by
  intro j hj
  by_cases e : j = k
  · subst e
    rw [show (58 : Int) = ((58 : Nat) : Int) from rfl, u8_eq _ 58 (by omega)] at h
    rw [List.getElem?_eq_getElem (by simpa using hk)]
    intro h2
    simp only [Option.some.injEq] at h2
    have e : t[j]'hk = 58 := h2
    rw [e] at h
    simp at h
  · exact hn j (by omega)
theorem no_end {T : List UInt8} {k : Nat} (hn : NoTo T k) (hk : T.length ≤ k) : false = colon T := by
  unfold colon
  cases h : T.contains 58
  · rfl
  · obtain ⟨i, hi, e⟩ := List.getElem_of_mem (List.contains_iff_mem.1 h)
    exact absurd (by rw [List.getElem?_eq_getElem hi, e]) (hn i (by omega))

set_option maxHeartbeats 1000000 in
theorem colon_any (t : ByteArray) (w : World) (hsz : t.size ≤ 1048576) :
    Calls Try.prog 6 #[.string t] w fun e w' => e = .returned (.bool (colon t.data.toList)) ∧ w' = w := by
  have HL : Hid (t.data.toList.length = t.size) := by show _ = _; simp
  go_enter Try.func6, Try.ntmps6
  go_wp2
  go_loop [3] (fun i => ∃ k : Nat, k ≤ t.size ∧ i = .int .i64 k ∧ Hid (NoTo t.data.toList k)) (fun i => t.size - (intOf i).toNat)
  case atStart => exact ⟨0, by omega, rfl, fun j hj => by omega⟩
  case round =>
    obtain ⟨k, hk, rfl, hn⟩ := hrel
    by_cases hlt : k < t.size
    · cases h58 : (((t[k]'hlt).toNat : Int) == 58)
      · have S : Hid (NoTo t.data.toList (k + 1)) := no_step hlt hn h58
        go_wp2
        go_round
        case rel => exact ⟨k + 1, by omega, by go_num, S⟩
        case measure => simp [intOf]; omega
      · have S : Hid (true = colon t.data.toList) := colon_at hlt h58
        go_wp2
        go_ret
        exact ⟨ret_bool S.out, rfl⟩
    · have S : Hid (false = colon t.data.toList) := no_end hn (by rw [HL.out]; omega)
      go_wp2
      go_ret
      exact ⟨ret_bool S.out, rfl⟩

/-- A piece of the text, as a string of its own. -/
theorem piece (t : ByteArray) (i p : Nat) : (t.extract i p).data.toList = (t.data.toList.drop i).take (p - i) := Lib.extract_data t i p

theorem own_form {w : World} {B e s : Nat} {v : Value} {n : Nat} {xs : List Value} (h : w.ownsRow B e s v n xs) : ∃ ao cap, v = .slice ao n cap := by
  rcases h.2 with ⟨rfl, rfl⟩ | ⟨g, cap, cur, rfl, _⟩
  · exact ⟨_, _, rfl⟩
  · exact ⟨_, _, rfl⟩

set_option maxHeartbeats 2000000 in
theorem split_full (t : ByteArray) (w : World) (hsz : t.size ≤ 1048576) (h0 : t.toList.isEmpty = false) :
    Calls Try.prog 8 #[.string t] w fun e w' => ∃ (ao : Option Addr) (n c : Nat) (X : List ByteArray), e = .returned (.slice ao n c) ∧ X.length = n ∧ X.map (·.data.toList) = splitc t.data.toList ∧
      w'.ownsRow w.heap.size 9 1 (.slice ao n c) n (X.map Value.string) ∧ Below w.heap.size w w' := by
  obtain ⟨ti, hti, hz0, hz1, hz2⟩ := info_parts Try.info9
  have HL : Hid (t.data.toList.length = t.size) := by show _ = _; simp
  obtain ⟨T, hT⟩ : ∃ T, T = t.data.toList := ⟨_, rfl⟩
  have HT : Hid (T = t.data.toList) := hT
  rw [← hT]
  rw [← hT] at HL
  clear hT
  go_enter Try.func8, Try.ntmps8
  go_wp2
  go_loopw [3, 4, 5] (fun v s i wr => ∃ (st k : Nat) (X : List ByteArray) (n : Nat) (ao : Option Addr) (c : Nat), k ≤ t.size ∧ st ≤ k ∧ s = .int .i64 st ∧ i = .int .i64 k ∧ v = .slice ao n c ∧ n ≤ k ∧ Hid (X.length = n) ∧ Hid (Inv T (X.map (·.data.toList)) st k) ∧
      wr.ownsRow w.heap.size 9 1 (.slice ao n c) n (X.map Value.string) ∧ Below w.heap.size w wr)
    (fun _ _ i _ => t.size - (intOf i).toNat)
  case atStart => exact ⟨0, 0, [], 0, none, 0, by omega, by omega, rfl, rfl, rfl, by omega, rfl, inv0 T, World.ownsRow_nil _ _ _ _, Below.refl _ _⟩
  case round =>
    obtain ⟨st, k, X, n, ao, c, hk, hst, rfl, rfl, rfl, hnk, HX, HI, hown, hb⟩ := hrel
    by_cases hlt : k < t.size
    · have e0 : Hid (T[k]? = some t[k]) := by show _ = _; rw [HT.out, List.getElem?_eq_getElem (by simpa using hlt)]; rfl
      cases h58 : (((t[k]'hlt).toNat : Int) == 58)
      · have S : Hid (Inv T (X.map (·.data.toList)) st (k + 1)) := by
          refine inv_go HI.out (by rw [HL.out]; exact hlt) (fun h => ?_)
          rw [e0.out] at h
          simp only [Option.some.injEq] at h
          rw [h] at h58
          simp at h58
        go_wp2
        go_roundw
        case rel => exact ⟨st, k + 1, X, n, ao, c, by omega, by omega, rfl, by go_num, rfl, by omega, HX, S, hown, hb⟩
        case measure => simp [intOf]; omega
      · by_cases hlt1 : k + 1 < t.size
        · have e1 : Hid (T[k + 1]? = some t[k + 1]) := by show _ = _; rw [HT.out, List.getElem?_eq_getElem (by simpa using hlt1)]; rfl
          cases h32 : (((t[k + 1]'hlt1).toNat : Int) == 32)
          · have S : Hid (Inv T (X.map (·.data.toList)) st (k + 1)) := by
              refine inv_go HI.out (by rw [HL.out]; exact hlt) (fun _ h => ?_)
              rw [e1.out] at h
              simp only [Option.some.injEq] at h
              rw [h] at h32
              simp at h32
            go_wp2
            go_roundw
            case rel => exact ⟨st, k + 1, X, n, ao, c, by omega, by omega, rfl, by go_num, rfl, by omega, HX, S, hown, hb⟩
            case measure => simp [intOf]; omega
          · have S : Hid (Inv T ((X ++ [t.extract st k]).map (·.data.toList)) (k + 2) (k + 2)) := by
              have q58 : t[k] = 58 := by
                rw [show (58 : Int) = ((58 : Nat) : Int) from rfl, u8_eq _ 58 (by omega)] at h58
                simpa using h58
              have q32 : t[k + 1] = 32 := by
                rw [show (32 : Int) = ((32 : Nat) : Int) from rfl, u8_eq _ 32 (by omega)] at h32
                simpa using h32
              have := inv_cut HI.out (by rw [HL.out]; exact hlt1) (by rw [e0.out, q58]) (by rw [e1.out, q32])
              show Inv _ _ _ _
              rw [List.map_append]
              simp only [List.map_cons, List.map_nil, piece]
              rw [← HT.out]
              exact this
            go_wp2_with (at_builtin; refine wpList_append_own _ rfl _ _ 27 rfl w.heap.size 9 ti (.string ⟨#[]⟩) 1 16 Try.underlying27 hti hz0 hz1 hz2 rfl (by decide) (.slice ao n c) n (X.map Value.string) rfl (hown.alloc _) ⟨wr.heap.size, 0, none⟩ 1 1 [.string (t.extract st k)] rfl rfl ?c1 ?c2 ?c3 ?c4 ?c5 ?_)
            case c1 =>
              intro j x hj
              match j, hj with
              | 0, hj => simp at hj; subst hj; simp [Addr.add]
            case c2 => intro x hx; simp at hx; subst hx; rfl
            case c3 => unfold maxLen; omega
            case c4 => omega
            case c5 => have := hb.size; simp; omega
            intro v1 w1 hown1 hgrow1 _
            have hb1 : Below w.heap.size w w1 := (hb.alloc hb.size _).grown hgrow1 (by have := hb.size; simp; omega) (fun g hg => (hown.lt g hg).1)
            obtain ⟨ao1, c1, hv1⟩ := own_form hown1
            subst hv1
            have hown2 : w1.ownsRow w.heap.size 9 1 (.slice ao1 (n + 1) c1) (n + 1) ((X ++ [t.extract st k]).map Value.string) := by rw [List.map_append]; exact hown1
            have HX1 : Hid ((X ++ [t.extract st k]).length = n + 1) := by show _ = _; rw [List.length_append, HX.out]; rfl
            clear hown1 hgrow1 hown hb HI
            go_wp2
            go_roundw
            case rel => exact ⟨k + 2, k + 2, X ++ [t.extract st k], n + 1, ao1, c1, by omega, by omega, by go_num, by go_num, rfl, by omega, HX1, S, hown2, hb1⟩
            case measure => simp [intOf]; omega
        · have S : Hid (Inv T (X.map (·.data.toList)) st (k + 1)) := by
            refine inv_go HI.out (by rw [HL.out]; exact hlt) (fun _ h => ?_)
            rw [List.getElem?_eq_none (by rw [HL.out]; omega)] at h
            cases h
          go_wp2
          go_roundw
          case rel => exact ⟨st, k + 1, X, n, ao, c, by omega, by omega, rfl, by go_num, rfl, by omega, HX, S, hown, hb⟩
          case measure => simp [intOf]; omega
    · obtain rfl : k = t.size := by omega
      have S : Hid ((X ++ [t.extract st t.size]).map (·.data.toList) = splitc T) := by
        have := inv_end HI.out HL.out.symm
        show _ = _
        rw [List.map_append, this]
        simp only [List.map_cons, List.map_nil, piece]
        rw [← HT.out]
      have HX1 : Hid ((X ++ [t.extract st t.size]).length = n + 1) := by show _ = _; rw [List.length_append, HX.out]; rfl
      go_wp2_with (at_builtin; refine wpList_append_own _ rfl _ _ 27 rfl w.heap.size 9 ti (.string ⟨#[]⟩) 1 16 Try.underlying27 hti hz0 hz1 hz2 rfl (by decide) (.slice ao n c) n (X.map Value.string) rfl (hown.alloc _) ⟨wr.heap.size, 0, none⟩ 1 1 [.string (t.extract st t.size)] rfl rfl ?d1 ?d2 ?d3 ?d4 ?d5 ?_)
      case d1 =>
        intro j x hj
        match j, hj with
        | 0, hj => simp at hj; subst hj; simp [Addr.add]
      case d2 => intro x hx; simp at hx; subst hx; rfl
      case d3 => unfold maxLen; omega
      case d4 => omega
      case d5 => have := hb.size; simp; omega
      intro v1 w1 hown1 hgrow1 _
      have hb1 : Below w.heap.size w w1 := (hb.alloc hb.size _).grown hgrow1 (by have := hb.size; simp; omega) (fun g hg => (hown.lt g hg).1)
      obtain ⟨ao1, c1, hv1⟩ := own_form hown1
      subst hv1
      have hown2 : w1.ownsRow w.heap.size 9 1 (.slice ao1 (n + 1) c1) (n + 1) ((X ++ [t.extract st t.size]).map Value.string) := by rw [List.map_append]; exact hown1
      clear hown1 hgrow1 hown hb HI
      go_wp2
      go_ret
      exact ⟨ao1, n + 1, c1, X ++ [t.extract st t.size], rfl, HX1.out, S.out, hown2, hb1⟩

set_option maxHeartbeats 400000 in
theorem split_none (t : ByteArray) (w : World) (h0 : t.toList.isEmpty = true) :
    Calls Try.prog 8 #[.string t] w fun e w' => e = .returned (.slice none 0 0) ∧ w' = w := by
  go_enter Try.func8, Try.ntmps8
  go_wp2
  go_ret
  exact ⟨rfl, rfl⟩

theorem array_inj : ∀ {X Q : List ByteArray}, X.map (·.data.toList) = Q.map (·.data.toList) → X = Q
  | [], [], _ => rfl
  | [], _ :: _, h => by simp at h
  | _ :: _, [], h => by simp at h
  | x :: X, q :: Q, h => by
    simp only [List.map_cons, List.cons.injEq] at h
    have e : x = q := by
      have := Array.toList_inj.1 h.1
      cases x; cases q; simp only at this; rw [this]
    rw [e, array_inj h.2]

/-- THE CONTRACT of splitColonSpace at a line that Problem.String wrote of texts without a colon: the texts that are not empty. -/
theorem split_line (P : List ByteArray) (w : World) (hc : ∀ x ∈ P, colon x.data.toList = false) (hlen : (lineOf P).length ≤ 1048576) :
    Calls Try.prog 8 #[.string ⟨(lineOf P).toArray⟩] w fun e w' => ∃ (ao : Option Addr) (c : Nat), e = .returned (.slice ao (flt P).length c) ∧
      w'.ownsRow w.heap.size 9 1 (.slice ao (flt P).length c) (flt P).length ((flt P).map Value.string) ∧ Below w.heap.size w w' := by
  have key : cutc (lineOf P) = (flt P).map (·.data.toList) := by
    refine cut_join _ (fun x hx => ?_) (fun x hx => ?_)
    · obtain ⟨y, hy, rfl⟩ := List.mem_map.1 hx
      have := (List.mem_filter.1 hy).2
      intro h
      rw [Lib.toList_data, h] at this
      simp at this
    · obtain ⟨y, hy, rfl⟩ := List.mem_map.1 hx
      have h := hc y (List.mem_filter.1 hy).1
      intro hm
      rw [colon, List.contains_iff_mem.2 hm] at h
      cases h
  have hd : (⟨(lineOf P).toArray⟩ : ByteArray).data.toList = lineOf P := by simp
  by_cases h0 : lineOf P = []
  · have hn : flt P = [] := by
      unfold cutc at key
      rw [if_pos h0] at key
      exact List.map_eq_nil_iff.1 key.symm
    rw [hn]
    refine (split_none _ w (by rw [Lib.toList_data, hd, h0]; rfl)).mono ?_
    rintro e w' ⟨rfl, rfl⟩
    exact ⟨none, 0, rfl, World.ownsRow_nil _ _ _ _, Below.refl _ _⟩
  · refine (split_full _ w (by show (lineOf P).toArray.size ≤ _; simpa using hlen) (by rw [Lib.toList_data, hd]; simpa using h0)).mono ?_
    rintro e w' ⟨ao, n, c, X, rfl, hl, hX, hown, hb⟩
    rw [hd] at hX
    unfold cutc at key
    rw [if_neg h0] at key
    obtain rfl : X = flt P := array_inj (by rw [hX, key])
    subst hl
    exact ⟨ao, c, rfl, hown, hb⟩
end Go.Proofs.Qxb6001076a
