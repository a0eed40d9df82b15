/-
  THE WALK of FnUtf16UnitMatchesHexModel (3).
-/
import Derived.Test.Qxb6601260aCopied
import Derived.Test.Qxb6601260aModel
namespace Go.Proofs.Qxb6601260a
open Go.RowKit Plain

theorem unit7_nil (w : World) : Calls Try.prog 7 #[.slice none 0 0] w fun e w' => e = .returned (.int .i32 (-1)) ∧ w' = w :=
  zzunit_any none 0 0 [] w rfl (Nat.le_refl _) (by omega) (by omega)

set_option maxHeartbeats 2000000 in
theorem match_some (x : Addr) (len cap : Nat) (zs : List Int) (w : World) (hlen : len ≤ 1048576)
    (hz : zs.length = len) (hbz : ∀ n ∈ zs, 0 ≤ n ∧ n ≤ 255)
    (hx : ∀ i, i < len → w.cell? (x.add i) = some (.int .u8 (zs.getD i 0))) :
    Calls Try.prog 3 #[.slice (some x) len cap] w fun e w' => e = .returned (.bool true) ∧ Below w.heap.size w w' := by
  have hl' : (len : Int) ≤ 1048576 := by omega
  obtain ⟨i0, hi, hz0, hz1, hz2⟩ := info_parts Try.info5b
  have hnn := fun w => run_neq_slice_nil_any (P := Try.prog) w 22 5 (some x) len cap 0 0 Try.underlying22
  have HZ : Hid (zs.length = len) := hz
  clear hz
  go_enter Try.func3, Try.ntmps3
  go_wp2_with (first
    | (at_make; refine wpList_make_full _ rfl _ _ 22 rfl w.heap.size 5 i0 (.int .u8 0) 1 Try.underlying22 hi hz0 hz1 _ _ _ _ len rfl rfl rfl rfl ?b1 ?b2 ?b3 ?_)
    | go_in)
  case b1 => rw [hz2]; omega
  case b2 => unfold maxLen; omega
  case b3 => exact Nat.le_refl _
  intro w1 hown1 hgrow1
  obtain ⟨cur, hcur, hrow⟩ := row_of_full hown1
  have hb1 : Below w.heap.size w w1 := (Below.refl _ _).grown hgrow1 (Nat.le_refl _) (by simp)
  have hx1 : ∀ j v, (zs.map (Value.int .u8))[j]? = some v → w1.cell? (x.add j) = some v := by
    intro j v hj
    obtain ⟨hlt, rfl⟩ := map_at hj
    have hc0 := hx j (by have := HZ.out; omega)
    exact (hb1.cell (World.block_lt_of_cell? w _ hc0)).trans hc0
  obtain ⟨X, hX⟩ : ∃ X, X = zs.map (Value.int .u8) := ⟨_, rfl⟩
  have HX : Hid (X = zs.map (Value.int .u8)) := hX
  have HXl : Hid (X.length = len) := by show _ = _; rw [hX]; simpa using HZ.out
  have hX1 : ∀ v ∈ X, v.oneCell' = true := by rw [hX]; exact ones_of_map zs
  rw [← hX] at hx1
  have HC : Hid (cur.length = len) := hcur
  clear hX hcur hown1 hgrow1 hnn hx
  go_wp2_with (refine wpList_copy_splice rfl (.tmp 15) (.tmp 16) 22 22 rfl 5 Try.underlying22 Try.size5 (some ⟨w.heap.size, 0, none⟩) (some x) len len len cap rfl rfl w.heap.size 0 cur 5 hrow X ?n1 ?n2 ?n3 hX1 w.heap.size w hb1 (Nat.le_refl _) ?_)
  case n1 => rw [HXl.out]; simp
  case n2 => exact fun _ => hx1
  case n3 => rw [HXl.out, HC.out]; omega
  intro wc HR hbc
  have hce : ∀ i, i < len → wc.cell? ⟨w.heap.size, 0 + i, none⟩ = some (.int .u8 (zs.getD i 0)) := by
    have h := HR.out
    rw [splice_full (by rw [HXl.out, HC.out]), HX.out] at h
    intro i hi
    exact cells_of_block h i (by have := HZ.out; omega)
  have hbz' : ∀ i, i < len → 0 ≤ zs.getD i 0 ∧ zs.getD i 0 ≤ 255 := by
    intro i hi
    refine hbz _ ?_
    rw [List.getD_eq_getElem?_getD, List.getElem?_eq_getElem (by have := HZ.out; omega)]; exact List.getElem_mem _
  clear HR hx1 hX1 HXl HX HC hrow hb1
  have C1 : Hid (Calls Try.prog 7 #[.slice (some ⟨w.heap.size, 0, none⟩) len len] wc fun e w' => e = .returned (.int .i32 (U zs)) ∧ w' = wc) :=
    zzunit_any (some ⟨w.heap.size, 0, none⟩) len len zs wc HZ.out (Nat.le_refl _) (fun _ => ⟨_, _, rfl, hce⟩) hbz'
  have C2 : Hid (Calls Try.prog 8 #[.slice (some ⟨w.heap.size, 0, none⟩) len len] wc fun e w' => e = .returned (.int .i32 (U zs)) ∧ w' = wc) :=
    model_any (some ⟨w.heap.size, 0, none⟩) len len zs wc HZ.out (fun _ => ⟨_, _, rfl, hce⟩) hbz'
  go_wp2_with fail
  refine (C1.out).mono ?_
  rintro e wc ⟨rfl, rfl⟩
  go_wp2_with fail
  refine (C2.out).mono ?_
  rintro e wc ⟨rfl, rfl⟩
  go_wp2
  go_ret
  exact ⟨by simp, hbc⟩

set_option maxHeartbeats 400000 in
theorem match_nil (w : World) :
    Calls Try.prog 3 #[.slice none 0 0] w fun e w' => e = .returned (.bool true) ∧ Below w.heap.size w w' := by
  have hnn := fun w => run_neq_slice_nil_any (P := Try.prog) w 22 5 none 0 0 0 0 Try.underlying22
  go_enter Try.func3, Try.ntmps3
  go_wp2_with (first
    | (go_at_call 7; refine (unit7_nil _).mono ?_; rintro e w' ⟨rfl, rfl⟩)
    | (go_at_call 8; refine (model_short none 0 0 (by omega) _).mono ?_; rintro e w' ⟨rfl, rfl⟩)
    | go_in)
  go_ret
  exact ⟨rfl, Below.refl _ _⟩

set_option maxHeartbeats 400000 in
theorem match_big (a0 : Option Addr) (len0 cap0 : Nat) (w : World) (h : 1048576 < len0) :
    Calls Try.prog 3 #[.slice a0 len0 cap0] w fun e w' => e = .returned (.bool true) ∧ Below w.heap.size w w' := by
  go_enter Try.func3, Try.ntmps3
  go_wp2
  go_ret
  exact ⟨rfl, Below.refl _ _⟩
end Go.Proofs.Qxb6601260a
