/-
  THE WALK of FnUtf16UnitInvertsHexEscape (4) for a number in range and a tail of at most 2^20 bytes.
-/
import Derived.Test.Qxb6601260aUnit
import Derived.Test.Qxb6601260aHexPlain
namespace Go.Proofs.Qxb6601260a
open Go.RowKit Plain

theorem Try.info5 : (Try.prog.info? 5).map (fun i => (i.zero, i.size, i.bytes)) = some (some (.int .u8 0), 1, 1) := by kernel_rfl

set_option maxHeartbeats 2000000 in
theorem inv_core (u m : Int) (a2 : Option Addr) (b off len cap : Nat) (zs : List Int) (w : World) (hu0 : 0 ≤ u) (hu1 : u ≤ 65535) (_hm0 : 0 ≤ m) (_hm1 : m ≤ 255) (hlen : len ≤ 1048576) (hz : len ≤ zs.length) (hw : ∀ x ∈ zs, 0 ≤ x ∧ x ≤ 255)
    (ha : 0 < len → a2 = some ⟨b, off, none⟩) (hc : ∀ i, i < len → w.cell? ⟨b, off + i, none⟩ = some (.int .u8 (zs.getD i 0))) :
    Calls Try.prog 4 #[.int .i32 u, .int .u8 m, .slice a2 len cap] w fun e w' => e = .returned (.bool true) ∧ Below w.heap.size w w' := by
  have hlen' : (len : Int) ≤ 1048576 := by omega
  obtain ⟨i0, hi, hz0, hz1, hz2⟩ := info_parts Try.info5
  go_enter Try.func4, Try.ntmps4
  go_wp2_with (first
    | (at_make; refine wpList_make_own _ rfl _ _ 22 rfl w.heap.size 5 i0 (.int .u8 0) 1 Try.underlying22 hi hz0 hz1 _ _ _ (6 + len) rfl rfl (by omega) ?b1 ?b2 ?b3 ?_)
    | go_in)
  case b1 => rw [hz2]; omega
  case b2 => unfold maxLen; omega
  case b3 => exact Nat.le_refl _
  intro w1 hown1 hgrow1
  go_wp2_with (first
    | (at_builtin; refine wpList_append_fits _ rfl _ _ 22 rfl w.heap.size 5 i0 1 Try.underlying22 hi hz1 w.heap.size 0 (6 + len) [] rfl (hown1.alloc _) ⟨w1.heap.size, 0, none⟩ 2 2 [.int .u8 92, .int .u8 117] rfl rfl ?c1 ?c2 ?c3 ?_)
    | go_in)
  case c1 =>
    intro j x hj
    match j, hj with
    | 0, hj => simp at hj; subst hj; simp [Addr.add]
    | 1, hj => simp at hj; subst hj; simp [Addr.add]
  case c2 => intro x hx; simp at hx; rcases hx with rfl | rfl <;> rfl
  case c3 => omega
  intro w2 hown2 hgrow2
  have hb2 : Below w.heap.size w w2 := ((((Below.refl _ _).grown hgrow1 (Nat.le_refl _) (by simp)).alloc hgrow1.size _).grown hgrow2 (by simp; have := hgrow1.size; omega) (by simp))
  clear hown1 hgrow1 hgrow2
  go_wp2
  go_loopw [7, 8] (fun v i wr => ∃ k : Nat, k ≤ 4 ∧ i = .int .i64 k ∧ v = .slice (some ⟨w.heap.size, 0, none⟩) (2 + k) (6 + len) ∧ (∃ L : List Int, HexPre u k L ∧ wr.ownsRow w.heap.size 5 1 (.slice (some ⟨w.heap.size, 0, none⟩) (2 + k) (6 + len)) (2 + k) (L.map (Value.int .u8))) ∧ Below w.heap.size w wr)
    (fun _ i _ => 4 - (intOf i).toNat)
  case atStart => exact ⟨0, by omega, rfl, rfl, ⟨[92, 117], good0 u, hown2⟩, hb2⟩
  case round =>
    obtain ⟨k, hk, rfl, rfl, ⟨L, hL, hown⟩, hb⟩ := hrel
    clear hown2 hb2
    by_cases hk4 : k < 4
    · obtain rfl | rfl | rfl | rfl : k = 0 ∨ k = 1 ∨ k = 2 ∨ k = 3 := by omega
      · obtain ⟨d, hd, hd16, hdg⟩ := dig u (u / 4096) 0 (by omega) (by omega) rfl
        have HD : Hid ((d : Int) = dg u 0) := hdg
        clear hdg hk4 hk
        simp only [Nat.add_zero] at hown
        by_cases h10 : d < 10
        · have h10' : ¬ (10 : Int) ≤ (d : Int) := by omega
          have G := good_snoc hL (c := hexCh (d)) (by rw [(hexCh_low d hd16).1]; exact HD.out) (hexCh_low d hd16).2.1 (hexCh_low d hd16).2.2
          clear HD hL
          go_wp2_with (at_builtin; refine wpList_append_fits _ rfl _ _ 22 rfl w.heap.size 5 i0 1 Try.underlying22 hi hz1 w.heap.size 2 (6 + len) (L.map (Value.int .u8)) rfl (hown.alloc _) ⟨wr.heap.size, 0, none⟩ 1 1 [.int .u8 (hexCh (d))] rfl rfl ?c1 ?c2 (by omega) ?_)
          case c1 =>
            intro j x hj
            match j, hj with
            | 0, hj =>
              simp at hj; subst hj
              first | (simp; exact hexAt (d) _) | (simp [Addr.add]; exact hexAt (d) _)
          case c2 => first | rfl | (intro x hx; simp at hx; subst hx; rfl)
          intro w3 hown3 hgrow3
          have hb3 : Below w.heap.size w w3 := ((hb.alloc hb.size _).grown hgrow3 (by simp; have := hb.size; omega) (by simp))
          clear hgrow3 hb hown
          go_wp2
          go_roundw
          case rel => exact ⟨1, by omega, by go_num, rfl, ⟨_, G, by simpa using hown3⟩, hb3⟩
          case measure => simp [intOf]
        · have h10' : (10 : Int) ≤ (d : Int) := by omega
          cases hmb : (bits BinOp.and IntKind.u8 m 1 == 1)
          · skip
            have G := good_snoc hL (c := hexCh (d)) (by rw [(hexCh_low d hd16).1]; exact HD.out) (hexCh_low d hd16).2.1 (hexCh_low d hd16).2.2
            clear HD hL
            go_wp2_with (at_builtin; refine wpList_append_fits _ rfl _ _ 22 rfl w.heap.size 5 i0 1 Try.underlying22 hi hz1 w.heap.size 2 (6 + len) (L.map (Value.int .u8)) rfl (hown.alloc _) ⟨wr.heap.size, 0, none⟩ 1 1 [.int .u8 (hexCh (d))] rfl rfl ?c1 ?c2 (by omega) ?_)
            case c1 =>
              intro j x hj
              match j, hj with
              | 0, hj =>
                simp at hj; subst hj
                first | (simp; exact hexAt (d) _) | (simp [Addr.add]; exact hexAt (d) _)
            case c2 => first | rfl | (intro x hx; simp at hx; subst hx; rfl)
            intro w3 hown3 hgrow3
            have hb3 : Below w.heap.size w w3 := ((hb.alloc hb.size _).grown hgrow3 (by simp; have := hb.size; omega) (by simp))
            clear hgrow3 hb hown
            go_wp2
            go_roundw
            case rel => exact ⟨1, by omega, by go_num, rfl, ⟨_, G, by simpa using hown3⟩, hb3⟩
            case measure => simp [intOf]
          · skip
            have G := good_snoc hL (c := hexCh (d + 6)) (by rw [(hexCh_upp d (by omega) hd16).1]; exact HD.out) (hexCh_upp d (by omega) hd16).2.1 (hexCh_upp d (by omega) hd16).2.2
            clear HD hL
            go_wp2_with (at_builtin; refine wpList_append_fits _ rfl _ _ 22 rfl w.heap.size 5 i0 1 Try.underlying22 hi hz1 w.heap.size 2 (6 + len) (L.map (Value.int .u8)) rfl (hown.alloc _) ⟨wr.heap.size, 0, none⟩ 1 1 [.int .u8 (hexCh (d + 6))] rfl rfl ?c1 ?c2 (by omega) ?_)
            case c1 =>
              intro j x hj
              match j, hj with
              | 0, hj =>
                simp at hj; subst hj
                first | (simp; exact hexAt (d + 6) _) | (simp [Addr.add]; exact hexAt (d + 6) _)
            case c2 => first | rfl | (intro x hx; simp at hx; subst hx; rfl)
            intro w3 hown3 hgrow3
            have hb3 : Below w.heap.size w w3 := ((hb.alloc hb.size _).grown hgrow3 (by simp; have := hb.size; omega) (by simp))
            clear hgrow3 hb hown
            go_wp2
            go_roundw
            case rel => exact ⟨1, by omega, by go_num, rfl, ⟨_, G, by simpa using hown3⟩, hb3⟩
            case measure => simp [intOf]
      · obtain ⟨d, hd, hd16, hdg⟩ := dig u (u / 256) 1 (by omega) (by omega) rfl
        have HD : Hid ((d : Int) = dg u 1) := hdg
        clear hdg hk4 hk
        simp only [Nat.reduceAdd] at hown
        by_cases h10 : d < 10
        · have h10' : ¬ (10 : Int) ≤ (d : Int) := by omega
          have G := good_snoc hL (c := hexCh (d)) (by rw [(hexCh_low d hd16).1]; exact HD.out) (hexCh_low d hd16).2.1 (hexCh_low d hd16).2.2
          clear HD hL
          go_wp2_with (at_builtin; refine wpList_append_fits _ rfl _ _ 22 rfl w.heap.size 5 i0 1 Try.underlying22 hi hz1 w.heap.size 3 (6 + len) (L.map (Value.int .u8)) rfl (hown.alloc _) ⟨wr.heap.size, 0, none⟩ 1 1 [.int .u8 (hexCh (d))] rfl rfl ?c1 ?c2 (by omega) ?_)
          case c1 =>
            intro j x hj
            match j, hj with
            | 0, hj =>
              simp at hj; subst hj
              first | (simp; exact hexAt (d) _) | (simp [Addr.add]; exact hexAt (d) _)
          case c2 => first | rfl | (intro x hx; simp at hx; subst hx; rfl)
          intro w3 hown3 hgrow3
          have hb3 : Below w.heap.size w w3 := ((hb.alloc hb.size _).grown hgrow3 (by simp; have := hb.size; omega) (by simp))
          clear hgrow3 hb hown
          go_wp2
          go_roundw
          case rel => exact ⟨2, by omega, by go_num, rfl, ⟨_, G, by simpa using hown3⟩, hb3⟩
          case measure => simp [intOf]
        · have h10' : (10 : Int) ≤ (d : Int) := by omega
          cases hmb : (bits BinOp.and IntKind.u8 (m / 2) 1 == 1)
          · skip
            have G := good_snoc hL (c := hexCh (d)) (by rw [(hexCh_low d hd16).1]; exact HD.out) (hexCh_low d hd16).2.1 (hexCh_low d hd16).2.2
            clear HD hL
            go_wp2_with (at_builtin; refine wpList_append_fits _ rfl _ _ 22 rfl w.heap.size 5 i0 1 Try.underlying22 hi hz1 w.heap.size 3 (6 + len) (L.map (Value.int .u8)) rfl (hown.alloc _) ⟨wr.heap.size, 0, none⟩ 1 1 [.int .u8 (hexCh (d))] rfl rfl ?c1 ?c2 (by omega) ?_)
            case c1 =>
              intro j x hj
              match j, hj with
              | 0, hj =>
                simp at hj; subst hj
                first | (simp; exact hexAt (d) _) | (simp [Addr.add]; exact hexAt (d) _)
            case c2 => first | rfl | (intro x hx; simp at hx; subst hx; rfl)
            intro w3 hown3 hgrow3
            have hb3 : Below w.heap.size w w3 := ((hb.alloc hb.size _).grown hgrow3 (by simp; have := hb.size; omega) (by simp))
            clear hgrow3 hb hown
            go_wp2
            go_roundw
            case rel => exact ⟨2, by omega, by go_num, rfl, ⟨_, G, by simpa using hown3⟩, hb3⟩
            case measure => simp [intOf]
          · skip
            have G := good_snoc hL (c := hexCh (d + 6)) (by rw [(hexCh_upp d (by omega) hd16).1]; exact HD.out) (hexCh_upp d (by omega) hd16).2.1 (hexCh_upp d (by omega) hd16).2.2
            clear HD hL
            go_wp2_with (at_builtin; refine wpList_append_fits _ rfl _ _ 22 rfl w.heap.size 5 i0 1 Try.underlying22 hi hz1 w.heap.size 3 (6 + len) (L.map (Value.int .u8)) rfl (hown.alloc _) ⟨wr.heap.size, 0, none⟩ 1 1 [.int .u8 (hexCh (d + 6))] rfl rfl ?c1 ?c2 (by omega) ?_)
            case c1 =>
              intro j x hj
              match j, hj with
              | 0, hj =>
                simp at hj; subst hj
                first | (simp; exact hexAt (d + 6) _) | (simp [Addr.add]; exact hexAt (d + 6) _)
            case c2 => first | rfl | (intro x hx; simp at hx; subst hx; rfl)
            intro w3 hown3 hgrow3
            have hb3 : Below w.heap.size w w3 := ((hb.alloc hb.size _).grown hgrow3 (by simp; have := hb.size; omega) (by simp))
            clear hgrow3 hb hown
            go_wp2
            go_roundw
            case rel => exact ⟨2, by omega, by go_num, rfl, ⟨_, G, by simpa using hown3⟩, hb3⟩
            case measure => simp [intOf]
      · obtain ⟨d, hd, hd16, hdg⟩ := dig u (u / 16) 2 (by omega) (by omega) rfl
        have HD : Hid ((d : Int) = dg u 2) := hdg
        clear hdg hk4 hk
        simp only [Nat.reduceAdd] at hown
        by_cases h10 : d < 10
        · have h10' : ¬ (10 : Int) ≤ (d : Int) := by omega
          have G := good_snoc hL (c := hexCh (d)) (by rw [(hexCh_low d hd16).1]; exact HD.out) (hexCh_low d hd16).2.1 (hexCh_low d hd16).2.2
          clear HD hL
          go_wp2_with (at_builtin; refine wpList_append_fits _ rfl _ _ 22 rfl w.heap.size 5 i0 1 Try.underlying22 hi hz1 w.heap.size 4 (6 + len) (L.map (Value.int .u8)) rfl (hown.alloc _) ⟨wr.heap.size, 0, none⟩ 1 1 [.int .u8 (hexCh (d))] rfl rfl ?c1 ?c2 (by omega) ?_)
          case c1 =>
            intro j x hj
            match j, hj with
            | 0, hj =>
              simp at hj; subst hj
              first | (simp; exact hexAt (d) _) | (simp [Addr.add]; exact hexAt (d) _)
          case c2 => first | rfl | (intro x hx; simp at hx; subst hx; rfl)
          intro w3 hown3 hgrow3
          have hb3 : Below w.heap.size w w3 := ((hb.alloc hb.size _).grown hgrow3 (by simp; have := hb.size; omega) (by simp))
          clear hgrow3 hb hown
          go_wp2
          go_roundw
          case rel => exact ⟨3, by omega, by go_num, rfl, ⟨_, G, by simpa using hown3⟩, hb3⟩
          case measure => simp [intOf]
        · have h10' : (10 : Int) ≤ (d : Int) := by omega
          cases hmb : (bits BinOp.and IntKind.u8 (m / 4) 1 == 1)
          · skip
            have G := good_snoc hL (c := hexCh (d)) (by rw [(hexCh_low d hd16).1]; exact HD.out) (hexCh_low d hd16).2.1 (hexCh_low d hd16).2.2
            clear HD hL
            go_wp2_with (at_builtin; refine wpList_append_fits _ rfl _ _ 22 rfl w.heap.size 5 i0 1 Try.underlying22 hi hz1 w.heap.size 4 (6 + len) (L.map (Value.int .u8)) rfl (hown.alloc _) ⟨wr.heap.size, 0, none⟩ 1 1 [.int .u8 (hexCh (d))] rfl rfl ?c1 ?c2 (by omega) ?_)
            case c1 =>
              intro j x hj
              match j, hj with
              | 0, hj =>
                simp at hj; subst hj
                first | (simp; exact hexAt (d) _) | (simp [Addr.add]; exact hexAt (d) _)
            case c2 => first | rfl | (intro x hx; simp at hx; subst hx; rfl)
            intro w3 hown3 hgrow3
            have hb3 : Below w.heap.size w w3 := ((hb.alloc hb.size _).grown hgrow3 (by simp; have := hb.size; omega) (by simp))
            clear hgrow3 hb hown
            go_wp2
            go_roundw
            case rel => exact ⟨3, by omega, by go_num, rfl, ⟨_, G, by simpa using hown3⟩, hb3⟩
            case measure => simp [intOf]
          · skip
            have G := good_snoc hL (c := hexCh (d + 6)) (by rw [(hexCh_upp d (by omega) hd16).1]; exact HD.out) (hexCh_upp d (by omega) hd16).2.1 (hexCh_upp d (by omega) hd16).2.2
            clear HD hL
            go_wp2_with (at_builtin; refine wpList_append_fits _ rfl _ _ 22 rfl w.heap.size 5 i0 1 Try.underlying22 hi hz1 w.heap.size 4 (6 + len) (L.map (Value.int .u8)) rfl (hown.alloc _) ⟨wr.heap.size, 0, none⟩ 1 1 [.int .u8 (hexCh (d + 6))] rfl rfl ?c1 ?c2 (by omega) ?_)
            case c1 =>
              intro j x hj
              match j, hj with
              | 0, hj =>
                simp at hj; subst hj
                first | (simp; exact hexAt (d + 6) _) | (simp [Addr.add]; exact hexAt (d + 6) _)
            case c2 => first | rfl | (intro x hx; simp at hx; subst hx; rfl)
            intro w3 hown3 hgrow3
            have hb3 : Below w.heap.size w w3 := ((hb.alloc hb.size _).grown hgrow3 (by simp; have := hb.size; omega) (by simp))
            clear hgrow3 hb hown
            go_wp2
            go_roundw
            case rel => exact ⟨3, by omega, by go_num, rfl, ⟨_, G, by simpa using hown3⟩, hb3⟩
            case measure => simp [intOf]
      · obtain ⟨d, hd, hd16, hdg⟩ := dig u (u) 3 (by omega) (by omega) rfl
        have HD : Hid ((d : Int) = dg u 3) := hdg
        clear hdg hk4 hk
        simp only [Nat.reduceAdd] at hown
        by_cases h10 : d < 10
        · have h10' : ¬ (10 : Int) ≤ (d : Int) := by omega
          have G := good_snoc hL (c := hexCh (d)) (by rw [(hexCh_low d hd16).1]; exact HD.out) (hexCh_low d hd16).2.1 (hexCh_low d hd16).2.2
          clear HD hL
          go_wp2_with (at_builtin; refine wpList_append_fits _ rfl _ _ 22 rfl w.heap.size 5 i0 1 Try.underlying22 hi hz1 w.heap.size 5 (6 + len) (L.map (Value.int .u8)) rfl (hown.alloc _) ⟨wr.heap.size, 0, none⟩ 1 1 [.int .u8 (hexCh (d))] rfl rfl ?c1 ?c2 (by omega) ?_)
          case c1 =>
            intro j x hj
            match j, hj with
            | 0, hj =>
              simp at hj; subst hj
              first | (simp; exact hexAt (d) _) | (simp [Addr.add]; exact hexAt (d) _)
          case c2 => first | rfl | (intro x hx; simp at hx; subst hx; rfl)
          intro w3 hown3 hgrow3
          have hb3 : Below w.heap.size w w3 := ((hb.alloc hb.size _).grown hgrow3 (by simp; have := hb.size; omega) (by simp))
          clear hgrow3 hb hown
          go_wp2
          go_roundw
          case rel => exact ⟨4, by omega, by go_num, rfl, ⟨_, G, by simpa using hown3⟩, hb3⟩
          case measure => simp [intOf]
        · have h10' : (10 : Int) ≤ (d : Int) := by omega
          cases hmb : (bits BinOp.and IntKind.u8 (m / 8) 1 == 1)
          · skip
            have G := good_snoc hL (c := hexCh (d)) (by rw [(hexCh_low d hd16).1]; exact HD.out) (hexCh_low d hd16).2.1 (hexCh_low d hd16).2.2
            clear HD hL
            go_wp2_with (at_builtin; refine wpList_append_fits _ rfl _ _ 22 rfl w.heap.size 5 i0 1 Try.underlying22 hi hz1 w.heap.size 5 (6 + len) (L.map (Value.int .u8)) rfl (hown.alloc _) ⟨wr.heap.size, 0, none⟩ 1 1 [.int .u8 (hexCh (d))] rfl rfl ?c1 ?c2 (by omega) ?_)
            case c1 =>
              intro j x hj
              match j, hj with
              | 0, hj =>
                simp at hj; subst hj
                first | (simp; exact hexAt (d) _) | (simp [Addr.add]; exact hexAt (d) _)
            case c2 => first | rfl | (intro x hx; simp at hx; subst hx; rfl)
            intro w3 hown3 hgrow3
            have hb3 : Below w.heap.size w w3 := ((hb.alloc hb.size _).grown hgrow3 (by simp; have := hb.size; omega) (by simp))
            clear hgrow3 hb hown
            go_wp2
            go_roundw
            case rel => exact ⟨4, by omega, by go_num, rfl, ⟨_, G, by simpa using hown3⟩, hb3⟩
            case measure => simp [intOf]
          · skip
            have G := good_snoc hL (c := hexCh (d + 6)) (by rw [(hexCh_upp d (by omega) hd16).1]; exact HD.out) (hexCh_upp d (by omega) hd16).2.1 (hexCh_upp d (by omega) hd16).2.2
            clear HD hL
            go_wp2_with (at_builtin; refine wpList_append_fits _ rfl _ _ 22 rfl w.heap.size 5 i0 1 Try.underlying22 hi hz1 w.heap.size 5 (6 + len) (L.map (Value.int .u8)) rfl (hown.alloc _) ⟨wr.heap.size, 0, none⟩ 1 1 [.int .u8 (hexCh (d + 6))] rfl rfl ?c1 ?c2 (by omega) ?_)
            case c1 =>
              intro j x hj
              match j, hj with
              | 0, hj =>
                simp at hj; subst hj
                first | (simp; exact hexAt (d + 6) _) | (simp [Addr.add]; exact hexAt (d + 6) _)
            case c2 => first | rfl | (intro x hx; simp at hx; subst hx; rfl)
            intro w3 hown3 hgrow3
            have hb3 : Below w.heap.size w w3 := ((hb.alloc hb.size _).grown hgrow3 (by simp; have := hb.size; omega) (by simp))
            clear hgrow3 hb hown
            go_wp2
            go_roundw
            case rel => exact ⟨4, by omega, by go_num, rfl, ⟨_, G, by simpa using hown3⟩, hb3⟩
            case measure => simp [intOf]
    · obtain rfl : k = 4 := by omega
      simp only [Nat.reduceAdd] at hown
      clear hk hk4
      go_wp2
      go_loopw [7, 11] (fun v i wr => ∃ k : Nat, k ≤ len ∧ i = .int .i64 k ∧ v = .slice (some ⟨w.heap.size, 0, none⟩) (6 + k) (6 + len) ∧ (∃ M : List Int, Hid (M = L ++ zs.take k) ∧ wr.ownsRow w.heap.size 5 1 (.slice (some ⟨w.heap.size, 0, none⟩) (6 + k) (6 + len)) (6 + k) (M.map (Value.int .u8))) ∧ Below w.heap.size w wr)
        (fun _ i _ => len - (intOf i).toNat)
      case atStart => exact ⟨0, by omega, rfl, rfl, ⟨L, show L = L ++ zs.take 0 by simp, by simpa using hown⟩, hb⟩
      case round =>
        obtain ⟨k, hk, rfl, rfl, ⟨M, HM, hown⟩, hb⟩ := hrel
        by_cases hlt : k < len
        · have h0 := ha (by omega)
          subst h0
          have ck := hc k hlt
          have hbk : b < w.heap.size := World.block_lt_of_cell? w _ ck
          have cx : wr.cell? ⟨b, off + k, none⟩ = some (.int .u8 (zs.getD k 0)) := (hb.cell (by exact hbk)).trans ck
          have HT : Hid (M ++ [zs.getD k 0] = L ++ zs.take (k + 1)) := by
            show _ = _
            rw [HM.out, List.take_succ_eq_append_getElem (by omega)]; simp [List.getD, List.getElem?_eq_getElem (show k < zs.length by omega)]
          clear hc ck ha
          go_wp2_with (at_builtin; refine wpList_append_fits _ rfl _ _ 22 rfl w.heap.size 5 i0 1 Try.underlying22 hi hz1 w.heap.size (6 + k) (6 + len) (M.map (Value.int .u8)) rfl (hown.alloc _) ⟨wr.heap.size, 0, none⟩ 1 1 [.int .u8 (zs.getD k 0)] rfl rfl ?c1 ?c2 (by omega) ?_)
          case c1 =>
            intro j x hj
            match j, hj with
            | 0, hj => simp at hj; subst hj; simp [Addr.add]
          case c2 => first | rfl | (intro x hx; simp at hx; subst hx; rfl)
          intro w3 hown3 hgrow3
          have hb3 : Below w.heap.size w w3 := ((hb.alloc hb.size _).grown hgrow3 (by simp; have := hb.size; omega) (by simp))
          clear hgrow3 hb hown cx
          go_wp2
          go_roundw
          case rel => first | exact ⟨k + 1, by omega, by go_num, rfl, ⟨_, HT, by simpa [Nat.add_assoc] using hown3⟩, hb3⟩ | ((repeat apply Exists.intro); exact ⟨⟨k + 1, by omega, by go_num, rfl, ⟨_, HT, by simpa [Nat.add_assoc] using hown3⟩, hb3⟩, rfl⟩)
          case measure => simp [intOf]; omega
        · obtain rfl : k = len := by omega
          obtain rfl : M = L ++ zs.take k := HM.out
          have C : Hid (Calls Try.prog 7 #[.slice (some ⟨w.heap.size, 0, none⟩) (6 + k) (6 + k)] wr fun e w' => e = .returned (.int .i32 u) ∧ w' = wr) := by
            have hll : (L ++ zs.take k).length = 6 + k := by have := hL.1; simp; omega
            have := zzunit_any (some ⟨w.heap.size, 0, none⟩) (6 + k) (6 + k) (L ++ zs.take k) wr hll (Nat.le_refl _) (fun _ => ⟨_, _, rfl, fun i hi => ?_⟩) (fun i hi => ?_)
            · rw [good_end (zs.take k) hL hu0 hu1] at this; exact this
            · have h := hown.cells rfl i (.int .u8 ((L ++ zs.take k).getD i 0)) (by rw [List.getElem?_map, List.getElem?_eq_getElem (by omega)]; simp [List.getD, List.getElem?_eq_getElem (show i < (L ++ zs.take k).length by omega)])
              rw [Addr.add_lit] at h; simpa using h
            · have hmem : (L ++ zs.take k).getD i 0 ∈ L ++ zs.take k := by rw [List.getD_eq_getElem?_getD, List.getElem?_eq_getElem (by omega)]; exact List.getElem_mem _
              rcases List.mem_append.1 hmem with h | h
              · exact hL.2.2.2.1 _ h
              · exact hw _ (List.mem_of_mem_take h)
          clear hc ha hown hL hw hz
          go_wp2_with fail
          refine (C.out).mono ?_
          rintro e w' ⟨rfl, rfl⟩
          go_wp2
          go_ret
          exact ⟨by simp, hb⟩
end Go.Proofs.Qxb6601260a
