/-
  THE WALK of FnUtf16UnitReadsSixBytesOnly (5): a slice of fewer than six bytes ('six_short'), of six or more ('six_core').
-/
import Derived.Test.Qxb6601260aCopied
namespace Go.Proofs.Qxb6601260a
open Go.RowKit Plain

namespace Plain
theorem U_short {xs : List Int} (h : xs.length < 6) : U xs = -1 := by unfold U; rw [if_pos h]
theorem U_append {xs : List Int} (ys : List Int) (h : 6 ≤ xs.length) : U (xs ++ ys) = U xs := by
  have g : ∀ i, i < 6 → (xs ++ ys).getD i 0 = xs.getD i 0 := fun i hi => by simp [List.getD, List.getElem?_append_left (show i < xs.length by omega)]
  unfold U six
  rw [if_neg (show ¬ (xs ++ ys).length < 6 by simp; omega), if_neg (show ¬ xs.length < 6 by omega)]
  simp only [g 0 (by omega), g 1 (by omega), g 2 (by omega), g 3 (by omega), g 4 (by omega), g 5 (by omega)]
theorem U_take {xs : List Int} (h : 6 ≤ xs.length) : U (xs.take 6) = U xs := by
  have := U_append (xs := xs.take 6) (xs.drop 6) (by simp; omega)
  rw [List.take_append_drop] at this
  exact this.symm
end Plain

set_option maxHeartbeats 2000000 in
theorem six_core (x : Addr) (len cap : Nat) (zs : List Int) (a1 : Option Addr) (b1 off1 len1 cap1 : Nat) (ys : List Int) (w : World) (h6 : 6 ≤ len) (hlen : len ≤ 524288) (hlen1 : len1 ≤ 524288)
    (hz : zs.length = len) (hbz : ∀ n ∈ zs, 0 ≤ n ∧ n ≤ 255)
    (hx : ∀ i, i < len → w.cell? (x.add i) = some (.int .u8 (zs.getD i 0)))
    (hy : len1 ≤ ys.length) (hby : ∀ n ∈ ys, 0 ≤ n ∧ n ≤ 255) (ha : 0 < len1 → a1 = some ⟨b1, off1, none⟩) (hc : ∀ i, i < len1 → w.cell? ⟨b1, off1 + i, none⟩ = some (.int .u8 (ys.getD i 0))) :
    Calls Try.prog 5 #[.slice (some x) len cap, .slice a1 len1 cap1] w fun e w' => e = .returned (.bool true) ∧ Below w.heap.size w w' := by
  have hl' : (len : Int) ≤ 524288 := by omega
  have hl1' : (len1 : Int) ≤ 524288 := by omega
  obtain ⟨i0, hi, hz0, hz1, hz2⟩ := info_parts Try.info5b
  have hnn := fun w => run_neq_slice_nil_any (P := Try.prog) w 22 5 (some x) len cap 0 0 Try.underlying22
  obtain ⟨g, hg⟩ : ∃ g, g = U zs := ⟨_, rfl⟩
  have HG : Hid (g = U zs) := hg
  have hr : g = -1 ∨ 0 ≤ g ∧ g ≤ 65535 := by rw [hg]; exact U_range zs
  clear hg
  have HZ : Hid (zs.length = len) := hz
  clear hz
  go_enter Try.func5, Try.ntmps5
  go_wp2_with (first
    | (at_make; refine wpList_make_full _ rfl _ _ 22 rfl w.heap.size 5 i0 (.int .u8 0) 1 Try.underlying22 hi hz0 hz1 _ _ _ _ len rfl rfl rfl rfl ?b1 ?b2 ?b3 ?_)
    | go_in)
  case b1 => rw [hz2]; omega
  case b2 => unfold maxLen; omega
  case b3 => exact Nat.le_refl _
  intro w1 hown1 hgrow1
  obtain ⟨cur, hcur, hrow⟩ := row_of_full hown1
  have hb1 : Below w.heap.size w w1 := (Below.refl _ _).grown hgrow1 (Nat.le_refl _) (by simp)
  have hx1 : ∀ j v, (zs.map (Value.int .u8))[j]? = some v → w1.cell? (x.add j) = some v := by
    intro j v hj
    obtain ⟨hlt, rfl⟩ := map_at hj
    have hc0 := hx j (by have := HZ.out; omega)
    exact (hb1.cell (World.block_lt_of_cell? w _ hc0)).trans hc0
  obtain ⟨X, hX⟩ : ∃ X, X = zs.map (Value.int .u8) := ⟨_, rfl⟩
  have HX : Hid (X = zs.map (Value.int .u8)) := hX
  have HXl : Hid (X.length = len) := by show _ = _; rw [hX]; simpa using HZ.out
  have hX1 : ∀ v ∈ X, v.oneCell' = true := by rw [hX]; exact ones_of_map zs
  rw [← hX] at hx1
  have HC : Hid (cur.length = len) := hcur
  clear hX hcur hown1 hgrow1 hnn hx
  go_wp2_with (refine wpList_copy_splice rfl (.tmp 25) (.tmp 26) 22 22 rfl 5 Try.underlying22 Try.size5 (some ⟨w.heap.size, 0, none⟩) (some x) len len len cap rfl rfl w.heap.size 0 cur 5 hrow X ?n1 ?n2 ?n3 hX1 w.heap.size w hb1 (Nat.le_refl _) ?_)
  case n1 => rw [HXl.out]; simp
  case n2 => exact fun _ => hx1
  case n3 => rw [HXl.out, HC.out]; omega
  intro wc HR hbc
  have hce : ∀ i, i < len → wc.cell? ⟨w.heap.size, 0 + i, none⟩ = some (.int .u8 (zs.getD i 0)) := by
    have h := HR.out
    rw [splice_full (by rw [HXl.out, HC.out]), HX.out] at h
    intro i hi
    exact cells_of_block h i (by have := HZ.out; omega)
  have hbz' : ∀ i, i < len → 0 ≤ zs.getD i 0 ∧ zs.getD i 0 ≤ 255 := by
    intro i hi
    refine hbz _ ?_
    rw [List.getD_eq_getElem?_getD, List.getElem?_eq_getElem (by have := HZ.out; omega)]; exact List.getElem_mem _
  have hwc : w.heap.size < wc.heap.size := by
    have h := HR.out
    exact (Array.getElem?_eq_some_iff.1 h).1
  clear HR hx1 hX1 HXl HX HC hrow hb1
  have C1 : Hid (Calls Try.prog 7 #[.slice (some ⟨w.heap.size, 0, none⟩) len len] wc fun e w' => e = .returned (.int .i32 g) ∧ w' = wc) := by
    rw [HG.out]
    exact zzunit_any (some ⟨w.heap.size, 0, none⟩) len len zs wc HZ.out (Nat.le_refl _) (fun _ => ⟨_, _, rfl, hce⟩) hbz'
  go_wp2_with fail
  refine (C1.out).mono ?_
  rintro e wc ⟨rfl, rfl⟩
  rcases hr with rfl | ⟨r0, r1⟩
  · skip
    go_wp2_with (at_make; refine wpList_make_own _ rfl _ _ 22 rfl wc.heap.size 5 i0 (.int .u8 0) 1 Try.underlying22 hi hz0 hz1 _ _ _ (len + len1) rfl rfl (by omega) ?d1 ?d2 ?d3 ?_)
    case d1 => rw [hz2]; omega
    case d2 => unfold maxLen; omega
    case d3 => exact Nat.le_refl _
    intro w3 hown3 hgrow3
    have hb3 : Below wc.heap.size wc w3 := (Below.refl _ _).grown hgrow3 (Nat.le_refl _) (by simp)
    clear hgrow3
    go_wp2
    go_loopw [7, 8] (fun v i wr => ∃ k : Nat, k ≤ len ∧ i = .int .i64 k ∧ v = .slice (some ⟨wc.heap.size, 0, none⟩) k (len + len1) ∧ (∃ M : List Int, Hid (M = zs.take k) ∧ wr.ownsRow wc.heap.size 5 1 (.slice (some ⟨wc.heap.size, 0, none⟩) k (len + len1)) k (M.map (Value.int .u8))) ∧ Below wc.heap.size wc wr)
      (fun _ i _ => len - (intOf i).toNat)
    case atStart => exact ⟨0, by omega, rfl, rfl, ⟨[], show _ = _ by simp, by simpa using hown3⟩, hb3⟩
    case round =>
      obtain ⟨k, hk, rfl, rfl, ⟨M, HM, hown⟩, hb⟩ := hrel
      clear hown3 hb3
      by_cases hlt : k < len
      · have cx : wr.cell? ⟨w.heap.size, k, none⟩ = some (.int .u8 (zs.getD k 0)) := by
          have h := hce k hlt
          rw [Nat.zero_add] at h
          exact (hb.cell (by exact hwc)).trans h
        have HT : Hid (M ++ [zs.getD k 0] = zs.take (k + 1)) := by
          show _ = _
          have hz := HZ.out
          rw [HM.out, List.take_succ_eq_append_getElem (by omega)]; simp [List.getD, List.getElem?_eq_getElem (show k < zs.length by omega)]
        go_wp2_with (at_builtin; refine wpList_append_fits _ rfl _ _ 22 rfl wc.heap.size 5 i0 1 Try.underlying22 hi hz1 wc.heap.size k (len + len1) (M.map (Value.int .u8)) rfl (hown.alloc _) ⟨wr.heap.size, 0, none⟩ 1 1 [.int .u8 (zs.getD k 0)] rfl rfl ?c1 ?c2 (by omega) ?_)
        case c1 =>
          intro j y hj
          match j, hj with
          | 0, hj => simp at hj; subst hj; simp [Addr.add]
        case c2 => first | rfl | (intro y hy; simp at hy; subst hy; rfl)
        intro w4 hown4 hgrow4
        have hb4 : Below wc.heap.size wc w4 := ((hb.alloc hb.size _).grown hgrow4 (by simp; have := hb.size; omega) (by simp))
        clear hgrow4 hb hown cx
        go_wp2
        go_roundw
        case rel => first | exact ⟨k + 1, by omega, by go_num, rfl, ⟨_, HT, by simpa [Nat.add_assoc] using hown4⟩, hb4⟩ | ((repeat apply Exists.intro); exact ⟨⟨k + 1, by omega, by go_num, rfl, ⟨_, HT, by simpa [Nat.add_assoc] using hown4⟩, hb4⟩, rfl⟩)
        case measure => simp [intOf]; omega
      · obtain rfl : k = len := by omega
        obtain rfl : M = zs := by have h := HM.out; rwa [List.take_of_length_le (by have := HZ.out; omega)] at h
        clear HM hk hlt
        go_wp2
        go_loopw [7, 9] (fun v i wr => ∃ j : Nat, j ≤ len1 ∧ i = .int .i64 j ∧ v = .slice (some ⟨wc.heap.size, 0, none⟩) (k + j) (k + len1) ∧ (∃ N : List Int, Hid (N = M ++ ys.take j) ∧ wr.ownsRow wc.heap.size 5 1 (.slice (some ⟨wc.heap.size, 0, none⟩) (k + j) (k + len1)) (k + j) (N.map (Value.int .u8))) ∧ Below wc.heap.size wc wr)
          (fun _ i _ => len1 - (intOf i).toNat)
        case atStart => exact ⟨0, by omega, rfl, rfl, ⟨M, show _ = _ by simp, by simpa using hown⟩, hb⟩
        case round =>
          clear hown hb
          obtain ⟨j, hj, rfl, rfl, ⟨N, HN, hown⟩, hb⟩ := hrel
          by_cases hlt : j < len1
          · have h0 := ha (by omega)
            subst h0
            have ck := hc j hlt
            have hbk : b1 < w.heap.size := World.block_lt_of_cell? w _ ck
            have cx : wr.cell? ⟨b1, off1 + j, none⟩ = some (.int .u8 (ys.getD j 0)) := (hb.cell (by show b1 < wc.heap.size; omega)).trans ((hbc.cell (by exact hbk)).trans ck)
            have HT : Hid (N ++ [ys.getD j 0] = M ++ ys.take (j + 1)) := by
              show _ = _
              rw [HN.out, List.take_succ_eq_append_getElem (by omega)]; simp [List.getD, List.getElem?_eq_getElem (show j < ys.length by omega)]
            clear hc ck ha
            go_wp2_with (at_builtin; refine wpList_append_fits _ rfl _ _ 22 rfl wc.heap.size 5 i0 1 Try.underlying22 hi hz1 wc.heap.size (k + j) (k + len1) (N.map (Value.int .u8)) rfl (hown.alloc _) ⟨wr.heap.size, 0, none⟩ 1 1 [.int .u8 (ys.getD j 0)] rfl rfl ?c1 ?c2 (by omega) ?_)
            case c1 =>
              intro j y hj
              match j, hj with
              | 0, hj => simp at hj; subst hj; simp [Addr.add]
            case c2 => first | rfl | (intro y hy; simp at hy; subst hy; rfl)
            intro w4 hown4 hgrow4
            have hb4 : Below wc.heap.size wc w4 := ((hb.alloc hb.size _).grown hgrow4 (by simp; have := hb.size; omega) (by simp))
            clear hgrow4 hb hown cx
            go_wp2
            go_roundw
            case rel => first | exact ⟨j + 1, by omega, by go_num, rfl, ⟨_, HT, by simpa [Nat.add_assoc] using hown4⟩, hb4⟩ | ((repeat apply Exists.intro); exact ⟨⟨j + 1, by omega, by go_num, rfl, ⟨_, HT, by simpa [Nat.add_assoc] using hown4⟩, hb4⟩, rfl⟩)
            case measure => simp [intOf]; omega
          · obtain rfl : j = len1 := by omega
            obtain rfl : N = M ++ ys.take j := HN.out
            have hz := HZ.out
            have C2 : Hid (Calls Try.prog 7 #[.slice (some ⟨wc.heap.size, 0, none⟩) (k + j) (k + j)] wr fun e w' => e = .returned (.int .i32 (-1)) ∧ w' = wr) := by
              have hll : (M ++ ys.take j).length = k + j := by simp; omega
              have := zzunit_any (some ⟨wc.heap.size, 0, none⟩) (k + j) (k + j) (M ++ ys.take j) wr hll (Nat.le_refl _) (fun _ => ⟨_, _, rfl, fun i hi => ?_⟩) (fun i hi => ?_)
              · rw [U_append _ (by omega), ← HG.out] at this; exact this
              · have h := hown.cells rfl i (.int .u8 ((M ++ ys.take j).getD i 0)) (by rw [List.getElem?_map, List.getElem?_eq_getElem (by omega)]; simp [List.getD, List.getElem?_eq_getElem (show i < (M ++ ys.take j).length by omega)])
                rw [Addr.add_lit] at h; simpa using h
              · have hmem : (M ++ ys.take j).getD i 0 ∈ M ++ ys.take j := by rw [List.getD_eq_getElem?_getD, List.getElem?_eq_getElem (by omega)]; exact List.getElem_mem _
                rcases List.mem_append.1 hmem with h | h
                · exact hbz _ h
                · exact hby _ (List.mem_of_mem_take h)
            have C3 : Hid (Calls Try.prog 7 #[.slice (some ⟨w.heap.size, 0, none⟩) 6 k] wr fun e w' => e = .returned (.int .i32 (-1)) ∧ w' = wr) := by
              have := zzunit_any (some ⟨w.heap.size, 0, none⟩) 6 k (M.take 6) wr (by simp; omega) (by omega) (fun _ => ⟨_, _, rfl, fun i hi => ?_⟩) (fun i hi => ?_)
              · rw [U_take (by omega), ← HG.out] at this; exact this
              · have e : (M.take 6).getD i 0 = M.getD i 0 := by simp [hi]
                rw [e]
                exact (hb.cell (by exact hwc)).trans (hce i (by omega))
              · have e : (M.take 6).getD i 0 = M.getD i 0 := by simp [hi]
                rw [e]; exact hbz' i (by omega)
            have hbf : Below w.heap.size w wr := hbc.trans (hb.mono (by omega))
            clear hc ha hown hb hbc hz hce hbz hbz' hby hy
            go_wp2_with fail
            refine (C2.out).mono ?_
            rintro e w' ⟨rfl, rfl⟩
            go_wp2_with fail
            refine (C3.out).mono ?_
            rintro e w' ⟨rfl, rfl⟩
            go_wp2
            go_ret
            exact ⟨by simp, hbf⟩
  · have hne : (g != -1) = true := by simp; omega
    go_wp2_with (at_make; refine wpList_make_own _ rfl _ _ 22 rfl wc.heap.size 5 i0 (.int .u8 0) 1 Try.underlying22 hi hz0 hz1 _ _ _ (len + len1) rfl rfl (by omega) ?d1 ?d2 ?d3 ?_)
    case d1 => rw [hz2]; omega
    case d2 => unfold maxLen; omega
    case d3 => exact Nat.le_refl _
    intro w3 hown3 hgrow3
    have hb3 : Below wc.heap.size wc w3 := (Below.refl _ _).grown hgrow3 (Nat.le_refl _) (by simp)
    clear hgrow3
    go_wp2
    go_loopw [7, 8] (fun v i wr => ∃ k : Nat, k ≤ len ∧ i = .int .i64 k ∧ v = .slice (some ⟨wc.heap.size, 0, none⟩) k (len + len1) ∧ (∃ M : List Int, Hid (M = zs.take k) ∧ wr.ownsRow wc.heap.size 5 1 (.slice (some ⟨wc.heap.size, 0, none⟩) k (len + len1)) k (M.map (Value.int .u8))) ∧ Below wc.heap.size wc wr)
      (fun _ i _ => len - (intOf i).toNat)
    case atStart => exact ⟨0, by omega, rfl, rfl, ⟨[], show _ = _ by simp, by simpa using hown3⟩, hb3⟩
    case round =>
      obtain ⟨k, hk, rfl, rfl, ⟨M, HM, hown⟩, hb⟩ := hrel
      clear hown3 hb3
      by_cases hlt : k < len
      · have cx : wr.cell? ⟨w.heap.size, k, none⟩ = some (.int .u8 (zs.getD k 0)) := by
          have h := hce k hlt
          rw [Nat.zero_add] at h
          exact (hb.cell (by exact hwc)).trans h
        have HT : Hid (M ++ [zs.getD k 0] = zs.take (k + 1)) := by
          show _ = _
          have hz := HZ.out
          rw [HM.out, List.take_succ_eq_append_getElem (by omega)]; simp [List.getD, List.getElem?_eq_getElem (show k < zs.length by omega)]
        go_wp2_with (at_builtin; refine wpList_append_fits _ rfl _ _ 22 rfl wc.heap.size 5 i0 1 Try.underlying22 hi hz1 wc.heap.size k (len + len1) (M.map (Value.int .u8)) rfl (hown.alloc _) ⟨wr.heap.size, 0, none⟩ 1 1 [.int .u8 (zs.getD k 0)] rfl rfl ?c1 ?c2 (by omega) ?_)
        case c1 =>
          intro j y hj
          match j, hj with
          | 0, hj => simp at hj; subst hj; simp [Addr.add]
        case c2 => first | rfl | (intro y hy; simp at hy; subst hy; rfl)
        intro w4 hown4 hgrow4
        have hb4 : Below wc.heap.size wc w4 := ((hb.alloc hb.size _).grown hgrow4 (by simp; have := hb.size; omega) (by simp))
        clear hgrow4 hb hown cx
        go_wp2
        go_roundw
        case rel => first | exact ⟨k + 1, by omega, by go_num, rfl, ⟨_, HT, by simpa [Nat.add_assoc] using hown4⟩, hb4⟩ | ((repeat apply Exists.intro); exact ⟨⟨k + 1, by omega, by go_num, rfl, ⟨_, HT, by simpa [Nat.add_assoc] using hown4⟩, hb4⟩, rfl⟩)
        case measure => simp [intOf]; omega
      · obtain rfl : k = len := by omega
        obtain rfl : M = zs := by have h := HM.out; rwa [List.take_of_length_le (by have := HZ.out; omega)] at h
        clear HM hk hlt
        go_wp2
        go_loopw [7, 9] (fun v i wr => ∃ j : Nat, j ≤ len1 ∧ i = .int .i64 j ∧ v = .slice (some ⟨wc.heap.size, 0, none⟩) (k + j) (k + len1) ∧ (∃ N : List Int, Hid (N = M ++ ys.take j) ∧ wr.ownsRow wc.heap.size 5 1 (.slice (some ⟨wc.heap.size, 0, none⟩) (k + j) (k + len1)) (k + j) (N.map (Value.int .u8))) ∧ Below wc.heap.size wc wr)
          (fun _ i _ => len1 - (intOf i).toNat)
        case atStart => exact ⟨0, by omega, rfl, rfl, ⟨M, show _ = _ by simp, by simpa using hown⟩, hb⟩
        case round =>
          clear hown hb
          obtain ⟨j, hj, rfl, rfl, ⟨N, HN, hown⟩, hb⟩ := hrel
          by_cases hlt : j < len1
          · have h0 := ha (by omega)
            subst h0
            have ck := hc j hlt
            have hbk : b1 < w.heap.size := World.block_lt_of_cell? w _ ck
            have cx : wr.cell? ⟨b1, off1 + j, none⟩ = some (.int .u8 (ys.getD j 0)) := (hb.cell (by show b1 < wc.heap.size; omega)).trans ((hbc.cell (by exact hbk)).trans ck)
            have HT : Hid (N ++ [ys.getD j 0] = M ++ ys.take (j + 1)) := by
              show _ = _
              rw [HN.out, List.take_succ_eq_append_getElem (by omega)]; simp [List.getD, List.getElem?_eq_getElem (show j < ys.length by omega)]
            clear hc ck ha
            go_wp2_with (at_builtin; refine wpList_append_fits _ rfl _ _ 22 rfl wc.heap.size 5 i0 1 Try.underlying22 hi hz1 wc.heap.size (k + j) (k + len1) (N.map (Value.int .u8)) rfl (hown.alloc _) ⟨wr.heap.size, 0, none⟩ 1 1 [.int .u8 (ys.getD j 0)] rfl rfl ?c1 ?c2 (by omega) ?_)
            case c1 =>
              intro j y hj
              match j, hj with
              | 0, hj => simp at hj; subst hj; simp [Addr.add]
            case c2 => first | rfl | (intro y hy; simp at hy; subst hy; rfl)
            intro w4 hown4 hgrow4
            have hb4 : Below wc.heap.size wc w4 := ((hb.alloc hb.size _).grown hgrow4 (by simp; have := hb.size; omega) (by simp))
            clear hgrow4 hb hown cx
            go_wp2
            go_roundw
            case rel => first | exact ⟨j + 1, by omega, by go_num, rfl, ⟨_, HT, by simpa [Nat.add_assoc] using hown4⟩, hb4⟩ | ((repeat apply Exists.intro); exact ⟨⟨j + 1, by omega, by go_num, rfl, ⟨_, HT, by simpa [Nat.add_assoc] using hown4⟩, hb4⟩, rfl⟩)
            case measure => simp [intOf]; omega
          · obtain rfl : j = len1 := by omega
            obtain rfl : N = M ++ ys.take j := HN.out
            have hz := HZ.out
            have C2 : Hid (Calls Try.prog 7 #[.slice (some ⟨wc.heap.size, 0, none⟩) (k + j) (k + j)] wr fun e w' => e = .returned (.int .i32 (g)) ∧ w' = wr) := by
              have hll : (M ++ ys.take j).length = k + j := by simp; omega
              have := zzunit_any (some ⟨wc.heap.size, 0, none⟩) (k + j) (k + j) (M ++ ys.take j) wr hll (Nat.le_refl _) (fun _ => ⟨_, _, rfl, fun i hi => ?_⟩) (fun i hi => ?_)
              · rw [U_append _ (by omega), ← HG.out] at this; exact this
              · have h := hown.cells rfl i (.int .u8 ((M ++ ys.take j).getD i 0)) (by rw [List.getElem?_map, List.getElem?_eq_getElem (by omega)]; simp [List.getD, List.getElem?_eq_getElem (show i < (M ++ ys.take j).length by omega)])
                rw [Addr.add_lit] at h; simpa using h
              · have hmem : (M ++ ys.take j).getD i 0 ∈ M ++ ys.take j := by rw [List.getD_eq_getElem?_getD, List.getElem?_eq_getElem (by omega)]; exact List.getElem_mem _
                rcases List.mem_append.1 hmem with h | h
                · exact hbz _ h
                · exact hby _ (List.mem_of_mem_take h)
            have C3 : Hid (Calls Try.prog 7 #[.slice (some ⟨w.heap.size, 0, none⟩) 6 k] wr fun e w' => e = .returned (.int .i32 (g)) ∧ w' = wr) := by
              have := zzunit_any (some ⟨w.heap.size, 0, none⟩) 6 k (M.take 6) wr (by simp; omega) (by omega) (fun _ => ⟨_, _, rfl, fun i hi => ?_⟩) (fun i hi => ?_)
              · rw [U_take (by omega), ← HG.out] at this; exact this
              · have e : (M.take 6).getD i 0 = M.getD i 0 := by simp [hi]
                rw [e]
                exact (hb.cell (by exact hwc)).trans (hce i (by omega))
              · have e : (M.take 6).getD i 0 = M.getD i 0 := by simp [hi]
                rw [e]; exact hbz' i (by omega)
            have hbf : Below w.heap.size w wr := hbc.trans (hb.mono (by omega))
            clear hc ha hown hb hbc hz hce hbz hbz' hby hy
            go_wp2_with fail
            refine (C2.out).mono ?_
            rintro e w' ⟨rfl, rfl⟩
            go_wp2_with fail
            refine (C3.out).mono ?_
            rintro e w' ⟨rfl, rfl⟩
            go_wp2
            go_ret
            exact ⟨by simp, hbf⟩

set_option maxHeartbeats 2000000 in
theorem six_short (x : Addr) (len cap : Nat) (zs : List Int) (a1 : Option Addr) (len1 cap1 : Nat) (w : World) (h6 : len < 6) (_hlen : len ≤ 524288) (hlen1 : len1 ≤ 524288)
    (hz : zs.length = len) (hbz : ∀ n ∈ zs, 0 ≤ n ∧ n ≤ 255)
    (hx : ∀ i, i < len → w.cell? (x.add i) = some (.int .u8 (zs.getD i 0))) :
    Calls Try.prog 5 #[.slice (some x) len cap, .slice a1 len1 cap1] w fun e w' => e = .returned (.bool true) ∧ Below w.heap.size w w' := by
  have hl' : (len : Int) ≤ 524288 := by omega
  have hl1' : (len1 : Int) ≤ 524288 := by omega
  obtain ⟨i0, hi, hz0, hz1, hz2⟩ := info_parts Try.info5b
  have hnn := fun w => run_neq_slice_nil_any (P := Try.prog) w 22 5 (some x) len cap 0 0 Try.underlying22
  have HZ : Hid (zs.length = len) := hz
  clear hz
  go_enter Try.func5, Try.ntmps5
  go_wp2_with (first
    | (at_make; refine wpList_make_full _ rfl _ _ 22 rfl w.heap.size 5 i0 (.int .u8 0) 1 Try.underlying22 hi hz0 hz1 _ _ _ _ len rfl rfl rfl rfl ?b1 ?b2 ?b3 ?_)
    | go_in)
  case b1 => rw [hz2]; omega
  case b2 => unfold maxLen; omega
  case b3 => exact Nat.le_refl _
  intro w1 hown1 hgrow1
  obtain ⟨cur, hcur, hrow⟩ := row_of_full hown1
  have hb1 : Below w.heap.size w w1 := (Below.refl _ _).grown hgrow1 (Nat.le_refl _) (by simp)
  have hx1 : ∀ j v, (zs.map (Value.int .u8))[j]? = some v → w1.cell? (x.add j) = some v := by
    intro j v hj
    obtain ⟨hlt, rfl⟩ := map_at hj
    have hc0 := hx j (by have := HZ.out; omega)
    exact (hb1.cell (World.block_lt_of_cell? w _ hc0)).trans hc0
  obtain ⟨X, hX⟩ : ∃ X, X = zs.map (Value.int .u8) := ⟨_, rfl⟩
  have HX : Hid (X = zs.map (Value.int .u8)) := hX
  have HXl : Hid (X.length = len) := by show _ = _; rw [hX]; simpa using HZ.out
  have hX1 : ∀ v ∈ X, v.oneCell' = true := by rw [hX]; exact ones_of_map zs
  rw [← hX] at hx1
  have HC : Hid (cur.length = len) := hcur
  clear hX hcur hown1 hgrow1 hnn hx
  go_wp2_with (refine wpList_copy_splice rfl (.tmp 25) (.tmp 26) 22 22 rfl 5 Try.underlying22 Try.size5 (some ⟨w.heap.size, 0, none⟩) (some x) len len len cap rfl rfl w.heap.size 0 cur 5 hrow X ?n1 ?n2 ?n3 hX1 w.heap.size w hb1 (Nat.le_refl _) ?_)
  case n1 => rw [HXl.out]; simp
  case n2 => exact fun _ => hx1
  case n3 => rw [HXl.out, HC.out]; omega
  intro wc HR hbc
  have hce : ∀ i, i < len → wc.cell? ⟨w.heap.size, 0 + i, none⟩ = some (.int .u8 (zs.getD i 0)) := by
    have h := HR.out
    rw [splice_full (by rw [HXl.out, HC.out]), HX.out] at h
    intro i hi
    exact cells_of_block h i (by have := HZ.out; omega)
  have hbz' : ∀ i, i < len → 0 ≤ zs.getD i 0 ∧ zs.getD i 0 ≤ 255 := by
    intro i hi
    refine hbz _ ?_
    rw [List.getD_eq_getElem?_getD, List.getElem?_eq_getElem (by have := HZ.out; omega)]; exact List.getElem_mem _
  clear HR hx1 hX1 HXl HX HC hrow hb1
  have C1 : Hid (Calls Try.prog 7 #[.slice (some ⟨w.heap.size, 0, none⟩) len len] wc fun e w' => e = .returned (.int .i32 (-1)) ∧ w' = wc) := by
    rw [← U_short (xs := zs) (by have := HZ.out; omega)]
    exact zzunit_any (some ⟨w.heap.size, 0, none⟩) len len zs wc HZ.out (Nat.le_refl _) (fun _ => ⟨_, _, rfl, hce⟩) hbz'
  go_wp2_with fail
  refine (C1.out).mono ?_
  rintro e wc ⟨rfl, rfl⟩
  go_wp2
  go_ret
  exact ⟨rfl, hbc⟩

set_option maxHeartbeats 400000 in
theorem six_nil (a1 : Option Addr) (len1 cap1 : Nat) (w : World) (hlen1 : len1 ≤ 524288) :
    Calls Try.prog 5 #[.slice none 0 0, .slice a1 len1 cap1] w fun e w' => e = .returned (.bool true) ∧ Below w.heap.size w w' := by
  have hl1' : (len1 : Int) ≤ 524288 := by omega
  have hnn := fun w => run_neq_slice_nil_any (P := Try.prog) w 22 5 none 0 0 0 0 Try.underlying22
  go_enter Try.func5, Try.ntmps5
  go_wp2_with (first
    | (go_at_call 7; refine (zzunit_any none 0 0 [] _ rfl (Nat.le_refl _) (by omega) (by omega)).mono ?_; rintro e w' ⟨rfl, rfl⟩)
    | go_in)
  go_ret
  exact ⟨rfl, Below.refl _ _⟩

set_option maxHeartbeats 400000 in
theorem six_big (a0 : Option Addr) (len0 cap0 : Nat) (a1 : Option Addr) (len1 cap1 : Nat) (w : World) (h : 524288 < len0 ∨ 524288 < len1) :
    Calls Try.prog 5 #[.slice a0 len0 cap0, .slice a1 len1 cap1] w fun e w' => e = .returned (.bool true) ∧ Below w.heap.size w w' := by
  by_cases h1 : 524288 < len0
  · by_cases h2 : 1048576 < len0
    · go_enter Try.func5, Try.ntmps5
      go_wp2
      go_ret
      exact ⟨rfl, Below.refl _ _⟩
    · by_cases h3 : 1048576 < len1
      · go_enter Try.func5, Try.ntmps5
        go_wp2
        go_ret
        exact ⟨rfl, Below.refl _ _⟩
      · by_cases h4 : 1048576 < len0 + len1
        · go_enter Try.func5, Try.ntmps5
          go_wp2
          go_ret
          exact ⟨rfl, Below.refl _ _⟩
        · go_enter Try.func5, Try.ntmps5
          go_wp2
          go_ret
          exact ⟨rfl, Below.refl _ _⟩
  · have h' : 524288 < len1 := by omega
    by_cases h3 : 1048576 < len1
    · go_enter Try.func5, Try.ntmps5
      go_wp2
      go_ret
      exact ⟨rfl, Below.refl _ _⟩
    · by_cases h4 : 1048576 < len0 + len1
      · go_enter Try.func5, Try.ntmps5
        go_wp2
        go_ret
        exact ⟨rfl, Below.refl _ _⟩
      · go_enter Try.func5, Try.ntmps5
        go_wp2
        go_ret
        exact ⟨rfl, Below.refl _ _⟩
end Go.Proofs.Qxb6601260a
