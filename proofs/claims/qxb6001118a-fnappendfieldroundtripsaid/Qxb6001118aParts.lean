/-
  THE CONTRACTS of cloneBytesB1 (19), appendField (25), ZZappendField (20).
-/
import Derived.Test.Qxb6001118aRows
import Derived.WalkKit
import Derived.WalkSpells
import Derived.WalkLawsBesides
import Derived.ProofKit
import Derived.Below
import Derived.Laws.CopyOwn
import Derived.Lib.AppendStr
namespace Go.Proofs.Qxb6001118a
open Go.RowKit

theorem Try.info5 : (Try.prog.info? 5).map (fun i => (i.zero, i.size, i.bytes)) = some (some (.int .u8 0), 1, 1) := by kernel_rfl
theorem Try.size5 : (Try.prog.info? 5).map (·.size) = some 1 := by kernel_rfl

/-- The cells of a list of bytes. -/
def bcs (l : List UInt8) : List Value := l.map fun c => .int .u8 (c.toNat : Int)
theorem bcs_len (l : List UInt8) : (bcs l).length = l.length := by simp [bcs]
theorem bcs_append (l k : List UInt8) : bcs (l ++ k) = bcs l ++ bcs k := by simp [bcs]
theorem bcs_str (s : ByteArray) : Lib.strCells s = bcs s.data.toList := rfl
theorem bcs_at {l : List UInt8} {j : Nat} {v : Value} (h : (bcs l)[j]? = some v) : ∃ hj : j < l.length, v = .int .u8 ((l[j]'hj).toNat : Int) := by
  unfold bcs at h
  rw [List.getElem?_map] at h
  by_cases hj : j < l.length
  · rw [List.getElem?_eq_getElem hj] at h
    simp at h
    exact ⟨hj, h.symm⟩
  · rw [List.getElem?_eq_none (by omega)] at h
    simp at h
theorem bcs_one (l : List UInt8) : ∀ v ∈ bcs l, v.oneCell' = true := by
  intro u hu
  obtain ⟨_, _, rfl⟩ := List.mem_map.1 hu
  rfl

theorem own_form {w : World} {B e s : Nat} {v : Value} {n : Nat} {xs : List Value} (h : w.ownsRow B e s v n xs) : ∃ ao cap, v = .slice ao n cap := by
  rcases h.2 with ⟨rfl, rfl⟩ | ⟨g, cap, cur, rfl, _⟩
  · exact ⟨_, _, rfl⟩
  · exact ⟨_, _, rfl⟩

/-- A row that make has laid, as a block that is known whole. -/
theorem row_of_full {w : World} {B e g n : Nat} {xs : List Value} (h : w.ownsRow B e 1 (.slice (some ⟨g, 0, none⟩) n n) n xs) :
    ∃ cur : List Value, cur.length = n ∧ w.heap[g]? = some (.cells cur.toArray e (0, 0)) := by
  rcases h.2 with ⟨h, _⟩ | ⟨g', cap, cur, hv, _, hg, _, _, hs, _⟩
  · cases h
  · simp only [Value.slice.injEq, Option.some.injEq, Addr.mk.injEq] at hv
    obtain ⟨⟨rfl, _⟩, _, rfl⟩ := hv
    exact ⟨cur.toList, by simpa using hs, by simpa using hg⟩

set_option maxHeartbeats 400000 in
theorem clone_nil (w : World) : Calls Try.prog 19 #[.slice none 0 0] w fun e w' => e = .returned (.slice none 0 0) ∧ w' = w := by
  have hnn := fun w => Lib.run_eql_slice_nil (P := Try.prog) w 26 5 none 0 0 0 0 Try.underlying26
  go_enter Try.func19, Try.ntmps19
  go_wp2
  go_ret
  exact ⟨rfl, rfl⟩

set_option maxHeartbeats 1000000 in
theorem clone_some (x : Addr) (len cap : Nat) (Z : List UInt8) (w : World) (hlen : len ≤ 1048576) (hz : Z.length = len)
    (hx : ∀ i (hi : i < Z.length), w.cell? (x.add i) = some (.int .u8 ((Z[i]'hi).toNat : Int))) :
    Calls Try.prog 19 #[.slice (some x) len cap] w fun e w' => e = .returned (.slice (some ⟨w.heap.size, 0, none⟩) len len) ∧
      w'.ownsRow w.heap.size 5 1 (.slice (some ⟨w.heap.size, 0, none⟩) len len) len (bcs Z) ∧ Below w.heap.size w w' := by
  have hl' : (len : Int) ≤ 1048576 := by omega
  obtain ⟨i0, hi, hz0, hz1, hz2⟩ := info_parts Try.info5
  have hnn := fun w => Lib.run_eql_slice_nil (P := Try.prog) w 26 5 (some x) len cap 0 0 Try.underlying26
  have HZ : Hid (Z.length = len) := hz
  clear hz
  go_enter Try.func19, Try.ntmps19
  go_wp2_with (at_make; refine wpList_make_full _ rfl _ _ 26 rfl w.heap.size 5 i0 (.int .u8 0) 1 Try.underlying26 hi hz0 hz1 _ _ _ _ len rfl rfl rfl rfl ?b1 ?b2 ?b3 ?_)
  case b1 => rw [hz2]; omega
  case b2 => unfold maxLen; omega
  case b3 => exact Nat.le_refl _
  intro w1 hown1 hgrow1
  obtain ⟨cur, hcur, hrow⟩ := row_of_full hown1
  have hb1 : Below w.heap.size w w1 := (Below.refl _ _).grown hgrow1 (Nat.le_refl _) (by simp)
  have hx1 : ∀ j v, (bcs Z)[j]? = some v → w1.cell? (x.add j) = some v := by
    intro j v hj
    obtain ⟨hlt, rfl⟩ := bcs_at hj
    exact (hb1.cell (World.block_lt_of_cell? w _ (hx j hlt))).trans (hx j hlt)
  obtain ⟨X, hX⟩ : ∃ X, X = bcs Z := ⟨_, rfl⟩
  have HX : Hid (X = bcs Z) := hX
  have HXl : Hid (X.length = len) := by show _ = _; rw [hX, bcs_len]; exact HZ.out
  have hX1 : ∀ v ∈ X, v.oneCell' = true := by rw [hX]; exact bcs_one Z
  rw [← hX] at hx1
  have HC : Hid (cur.length = len) := hcur
  clear hX hcur hown1 hgrow1 hnn hx
  go_wp2_with (refine wpList_copy_splice rfl (.tmp 9) (.tmp 10) 26 26 rfl 5 Try.underlying26 Try.size5 (some ⟨w.heap.size, 0, none⟩) (some x) len len len cap rfl rfl w.heap.size 0 cur 5 hrow X ?n1 ?n2 ?n3 hX1 w.heap.size w hb1 (Nat.le_refl _) ?_)
  case n1 => rw [HXl.out]; simp
  case n2 => exact fun _ => hx1
  case n3 => rw [HXl.out, HC.out]; omega
  intro wc HR hbc
  have hown : wc.ownsRow w.heap.size 5 1 (.slice (some ⟨w.heap.size, 0, none⟩) len len) len (bcs Z) := by
    have h := HR.out
    have e : splice cur 0 X = X := by simp [splice, HXl.out, HC.out]
    rw [e] at h
    have hl : X.length = len := HXl.out
    refine ⟨by rw [← HX.out]; omega, .inr ⟨_, len, X.toArray, rfl, Nat.le_refl _, h, Nat.le_refl _, by unfold maxLen; omega, by simp; omega, ?_⟩⟩
    rw [← HX.out]
    simp [List.take_of_length_le, hl]
  clear HR hx1 hX1 HXl HX HC hrow hb1
  go_wp2
  go_ret
  exact ⟨rfl, hown, hbc⟩

/-- THE CONTRACT of cloneBytesB1: a row of the call's own with the same bytes, or nil. -/
theorem clone_any (a : Option Addr) (len cap : Nat) (Z : List UInt8) (w : World) (hlen : len ≤ 1048576) (hz : Z.length = len) (hn : a = none → len = 0 ∧ cap = 0)
    (hx : ∀ x, a = some x → ∀ i (hi : i < Z.length), w.cell? (x.add i) = some (.int .u8 ((Z[i]'hi).toNat : Int))) :
    Calls Try.prog 19 #[.slice a len cap] w fun e w' => ∃ (ao : Option Addr) (c : Nat), e = .returned (.slice ao len c) ∧ w'.ownsRow w.heap.size 5 1 (.slice ao len c) len (bcs Z) ∧ Below w.heap.size w w' := by
  cases a with
  | none =>
    obtain ⟨rfl, rfl⟩ := hn rfl
    obtain rfl : Z = [] := List.eq_nil_of_length_eq_zero hz
    refine (clone_nil w).mono ?_
    rintro e w' ⟨rfl, rfl⟩
    exact ⟨none, 0, rfl, World.ownsRow_nil _ _ _ _, Below.refl _ _⟩
  | some x =>
    refine (clone_some x len cap Z w hlen hz (hx x rfl)).mono ?_
    rintro e w' ⟨rfl, h1, h2⟩
    exact ⟨_, _, rfl, h1, h2⟩

set_option maxHeartbeats 1000000 in
theorem field_any (B : Nat) (ao : Option Addr) (n c : Nat) (Z : List UInt8) (nm vl : ByteArray) (w : World) (hown : w.ownsRow B 5 1 (.slice ao n c) n (bcs Z)) (hB : B ≤ w.heap.size) (hn : n ≤ 1048576) (h1 : nm.size ≤ 1048576) (h2 : vl.size ≤ 1048576) :
    Calls Try.prog 25 #[.slice ao n c, .string nm, .string vl] w fun e w' => ∃ (a1 : Option Addr) (c1 : Nat), e = .returned (.slice a1 (n + nm.size + 2 + vl.size + 2) c1) ∧
      w'.ownsRow B 5 1 (.slice a1 (n + nm.size + 2 + vl.size + 2) c1) (n + nm.size + 2 + vl.size + 2) (bcs (Z ++ nm.data.toList ++ [58, 32] ++ vl.data.toList ++ [13, 10])) ∧ Below B w w' := by
  obtain ⟨i0, hi, hz0, hz1, hz2⟩ := info_parts Try.info5
  go_enter Try.func25, Try.ntmps25
  go_wp2_with (at_builtin; refine Lib.wpList_append_own_string _ rfl (.tmp 7) (.tmp 8) 26 9 rfl B 5 i0 Try.underlying26 Try.underlying9 hi hz0 hz1 hz2 (.slice ao (n) c) (n) (bcs (Z)) rfl hown nm rfl ?a1 ?b1 ?d1 ?_)
  case a1 => first | (unfold maxLen; omega) | (show _ + 2 ≤ _; unfold maxLen; omega)
  case b1 => first | omega | (show _ + 2 ≤ _; omega)
  case d1 => exact hB
  intro v1 w1 own1' gr1 _
  have be1 : Below B w w1 := (Below.refl _ _).grown gr1 hB (fun g hg => (hown.lt g hg).1)
  obtain ⟨ao1, c1, hv1⟩ := own_form own1'
  subst hv1
  have own1 : w1.ownsRow B 5 1 (.slice ao1 (n + nm.size) c1) (n + nm.size) (bcs (Z ++ nm.data.toList)) := by rw [bcs_append]; first | exact own1' | (have h := own1'; rw [bcs_str] at h; simp only [List.append_assoc, List.cons_append, List.nil_append] at h ⊢; exact h)
  clear own1' gr1 hown
  go_wp2_with (at_builtin; refine Lib.wpList_append_own_string _ rfl (.tmp 10) (.const (.string { data := #[58, 32] })) 26 9 rfl B 5 i0 Try.underlying26 Try.underlying9 hi hz0 hz1 hz2 (.slice ao1 (n + nm.size) c1) (n + nm.size) (bcs (Z ++ nm.data.toList)) rfl own1 { data := #[58, 32] } rfl ?a2 ?b2 ?d2 ?_)
  case a2 => first | (unfold maxLen; omega) | (show _ + 2 ≤ _; unfold maxLen; omega)
  case b2 => first | omega | (show _ + 2 ≤ _; omega)
  case d2 => have := be1.size; omega
  intro v2 w2 own2' gr2 _
  have be2 : Below B w w2 := be1.grown gr2 (by have := be1.size; omega) (fun g hg => (own1.lt g hg).1)
  obtain ⟨ao2, c2, hv2⟩ := own_form own2'
  subst hv2
  have own2 : w2.ownsRow B 5 1 (.slice ao2 (n + nm.size + 2) c2) (n + nm.size + 2) (bcs (Z ++ nm.data.toList ++ [58, 32])) := by rw [bcs_append]; first | exact own2' | (have h := own2'; rw [bcs_str] at h; simp only [List.append_assoc, List.cons_append, List.nil_append] at h ⊢; exact h)
  clear own2' gr2 own1 be1
  go_wp2_with (at_builtin; refine Lib.wpList_append_own_string _ rfl (.tmp 12) (.tmp 13) 26 9 rfl B 5 i0 Try.underlying26 Try.underlying9 hi hz0 hz1 hz2 (.slice ao2 (n + nm.size + 2) c2) (n + nm.size + 2) (bcs (Z ++ nm.data.toList ++ [58, 32])) rfl own2 vl rfl ?a3 ?b3 ?d3 ?_)
  case a3 => first | (unfold maxLen; omega) | (show _ + 2 ≤ _; unfold maxLen; omega)
  case b3 => first | omega | (show _ + 2 ≤ _; omega)
  case d3 => have := be2.size; omega
  intro v3 w3 own3' gr3 _
  have be3 : Below B w w3 := be2.grown gr3 (by have := be2.size; omega) (fun g hg => (own2.lt g hg).1)
  obtain ⟨ao3, c3, hv3⟩ := own_form own3'
  subst hv3
  have own3 : w3.ownsRow B 5 1 (.slice ao3 (n + nm.size + 2 + vl.size) c3) (n + nm.size + 2 + vl.size) (bcs (Z ++ nm.data.toList ++ [58, 32] ++ vl.data.toList)) := by rw [bcs_append]; first | exact own3' | (have h := own3'; rw [bcs_str] at h; simp only [List.append_assoc] at h ⊢; exact h)
  clear own3' gr3 own2 be2
  go_wp2_with (at_builtin; refine Lib.wpList_append_own_string _ rfl (.tmp 15) (.const (.string { data := #[13, 10] })) 26 9 rfl B 5 i0 Try.underlying26 Try.underlying9 hi hz0 hz1 hz2 (.slice ao3 (n + nm.size + 2 + vl.size) c3) (n + nm.size + 2 + vl.size) (bcs (Z ++ nm.data.toList ++ [58, 32] ++ vl.data.toList)) rfl own3 { data := #[13, 10] } rfl ?a4 ?b4 ?d4 ?_)
  case a4 => first | (unfold maxLen; omega) | (show _ + 2 ≤ _; unfold maxLen; omega)
  case b4 => first | omega | (show _ + 2 ≤ _; omega)
  case d4 => have := be3.size; omega
  intro v4 w4 own4' gr4 _
  have be4 : Below B w w4 := be3.grown gr4 (by have := be3.size; omega) (fun g hg => (own3.lt g hg).1)
  obtain ⟨ao4, c4, hv4⟩ := own_form own4'
  subst hv4
  have own4 : w4.ownsRow B 5 1 (.slice ao4 (n + nm.size + 2 + vl.size + 2) c4) (n + nm.size + 2 + vl.size + 2) (bcs (Z ++ nm.data.toList ++ [58, 32] ++ vl.data.toList ++ [13, 10])) := by rw [bcs_append]; first | exact own4' | (have h := own4'; rw [bcs_str] at h; simp only [List.append_assoc, List.cons_append, List.nil_append] at h ⊢; exact h)
  clear own4' gr4 own3 be3
  go_wp2
  go_ret
  exact ⟨ao4, c4, rfl, own4, be4⟩

set_option maxHeartbeats 400000 in
theorem zzfield_any (B : Nat) (ao : Option Addr) (n c : Nat) (Z : List UInt8) (nm vl : ByteArray) (w : World) (hown : w.ownsRow B 5 1 (.slice ao n c) n (bcs Z)) (hB : B ≤ w.heap.size) (hn : n ≤ 1048576) (h1 : nm.size ≤ 1048576) (h2 : vl.size ≤ 1048576) :
    Calls Try.prog 20 #[.slice ao n c, .string nm, .string vl] w fun e w' => ∃ (a1 : Option Addr) (c1 : Nat), e = .returned (.slice a1 (n + nm.size + 2 + vl.size + 2) c1) ∧
      w'.ownsRow B 5 1 (.slice a1 (n + nm.size + 2 + vl.size + 2) c1) (n + nm.size + 2 + vl.size + 2) (bcs (Z ++ nm.data.toList ++ [58, 32] ++ vl.data.toList ++ [13, 10])) ∧ Below B w w' := by
  obtain ⟨m, hm⟩ : ∃ m, m = n + nm.size + 2 + vl.size + 2 := ⟨_, rfl⟩
  obtain ⟨X, hX⟩ : ∃ X, X = bcs (Z ++ nm.data.toList ++ [58, 32] ++ vl.data.toList ++ [13, 10]) := ⟨_, rfl⟩
  have C : Hid (Calls Try.prog 25 #[.slice ao n c, .string nm, .string vl] w fun e w' => ∃ (a1 : Option Addr) (c1 : Nat), e = .returned (.slice a1 m c1) ∧ w'.ownsRow B 5 1 (.slice a1 m c1) m X ∧ Below B w w') := by
    rw [hm, hX]; exact field_any B ao n c Z nm vl w hown hB hn h1 h2
  rw [← hm, ← hX]
  clear hm hX hown
  go_enter Try.func20, Try.ntmps20
  go_wp2_with fail
  refine (C.out).mono ?_
  rintro e w' ⟨a1, c1, rfl, ho, hb⟩
  go_wp2
  go_ret
  exact ⟨a1, c1, rfl, ho, hb⟩
end Go.Proofs.Qxb6001118a
