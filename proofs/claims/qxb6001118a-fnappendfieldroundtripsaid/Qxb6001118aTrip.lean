/-
  THE WALK of FnAppendFieldRoundTrip (7).
-/
import Derived.Test.Qxb6001118aParse
namespace Go.Proofs.Qxb6001118a
open Go.RowKit

theorem below_drewN' {B : Nat} {a w : World} (h : Below B a w) (n : Nat) : Below B a (w.drewN n) := ⟨h.os, h.tape, h.output, h.size, h.block⟩

/-- No colon among the first k bytes. -/
def NoTo (T : List UInt8) (k : Nat) : Prop := ∀ j, j < k → T[j]? ≠ some 58
theorem no_step {t : ByteArray} {k : Nat} (hk : k < t.size) (hn : NoTo t.data.toList k) (h : (((t[k]'hk).toNat : Int) == 58) = false) : NoTo t.data.toList (k + 1) := by
  intro j hj
  by_cases e : j = k
  · subst e
    rw [show (58 : Int) = ((58 : Nat) : Int) from rfl, u8_eq _ 58 (by omega)] at h
    rw [List.getElem?_eq_getElem (by simpa using hk)]
    intro h2
    simp only [Option.some.injEq] at h2
    have e : t[j]'hk = 58 := h2
    rw [e] at h
    simp at h
  · exact hn j (by omega)
theorem no_end {t : ByteArray} {k : Nat} (hn : NoTo t.data.toList k) (hk : t.size ≤ k) : (58 : UInt8) ∉ t.data.toList := by
  intro h
  obtain ⟨i, hi, e⟩ := List.getElem_of_mem h
  have hi' : i < t.size := by simpa using hi
  exact absurd (by rw [List.getElem?_eq_getElem hi, e]) (hn i (by omega))

/-- A row of bytes that the call owns: where it lies, and its cells. -/
theorem own_cells {w : World} {B : Nat} {ao : Option Addr} {m c : Nat} {Z : List UInt8} (hm : 0 < m) (h : w.ownsRow B 5 1 (.slice ao m c) m (bcs Z)) :
    ∃ g, ao = some ⟨g, 0, none⟩ ∧ B ≤ g ∧ g < w.heap.size ∧ m ≤ c ∧ ∀ k v, (bcs Z)[k]? = some v → w.cell? ⟨g, k, none⟩ = some v := by
  have hc := @World.ownsRow.cells _ _ _ _ _ _ _ h
  have hl := h.lt
  rcases h.2 with ⟨hv, h0⟩ | ⟨g, cap, cur, hv, _, _, hmc, _⟩
  · omega
  · simp only [Value.slice.injEq] at hv
    obtain ⟨rfl, _, rfl⟩ := hv
    refine ⟨g, rfl, (hl g rfl).1, (hl g rfl).2, hmc, fun k v hk => ?_⟩
    have := hc (g := g) rfl k v hk
    rw [Addr.add_lit] at this
    simpa using this
theorem own_none {w : World} {B m c : Nat} {xs : List Value} (h : w.ownsRow B 5 1 (.slice none m c) m xs) : m = 0 ∧ c = 0 := by
  rcases h.2 with ⟨hv, h0⟩ | ⟨g, cap, cur, hv, _⟩
  · simp at hv; exact hv
  · simp at hv

/-- Cloning a row that the call owns. -/
theorem clone_own (B : Nat) (ao : Option Addr) (len c : Nat) (Z : List UInt8) (w : World) (hlen : len ≤ 1048576) (hz : Z.length = len) (h : w.ownsRow B 5 1 (.slice ao len c) len (bcs Z)) :
    Calls Try.prog 19 #[.slice ao len c] w fun e w' => ∃ (ao : Option Addr) (c : Nat), e = .returned (.slice ao len c) ∧ w'.ownsRow w.heap.size 5 1 (.slice ao len c) len (bcs Z) ∧ Below w.heap.size w w' := by
  refine clone_any ao len c Z w hlen hz (fun e => ?_) (fun x e i hi => ?_)
  · subst e; exact own_none h
  · obtain ⟨g, hg, _, _, _, hc⟩ := own_cells (by omega) h
    rw [e] at hg
    simp only [Option.some.injEq] at hg
    subst hg
    rw [Addr.add_lit, Nat.zero_add]
    exact hc i _ (by simp [bcs, List.getElem?_eq_getElem hi])

set_option maxHeartbeats 2000000 in
theorem trip_core (a : Option Addr) (len cap : Nat) (Z : List UInt8) (nm vl : ByteArray) (w : World) (hlen : len ≤ 262144) (h1 : nm.size ≤ 262144) (h2 : vl.size ≤ 262144) (hz : Z.length = len) (hn : a = none → len = 0 ∧ cap = 0)
    (hx : ∀ x, a = some x → ∀ i (hi : i < Z.length), w.cell? (x.add i) = some (.int .u8 ((Z[i]'hi).toNat : Int))) :
    Calls Try.prog 7 #[.slice a len cap, .string nm, .string vl] w fun e w' => e = .returned (.bool true) ∧ Below w.heap.size w w' := by
  have hl' : (len : Int) ≤ 262144 := by omega
  have h1' : (nm.size : Int) ≤ 262144 := by omega
  have h2' : (vl.size : Int) ≤ 262144 := by omega
  have C1 : Hid (Calls Try.prog 19 #[.slice a len cap] w fun e w' => ∃ (ao : Option Addr) (c : Nat), e = .returned (.slice ao len c) ∧ w'.ownsRow w.heap.size 5 1 (.slice ao len c) len (bcs Z) ∧ Below w.heap.size w w') :=
    clone_any a len cap Z w (by omega) hz hn hx
  have HZ : Hid (Z.length = len) := hz
  clear hz hn hx
  go_enter Try.func7, Try.ntmps7
  go_wp2
  go_loop [7] (fun i => ∃ k : Nat, k ≤ nm.size ∧ i = .int .i64 k ∧ Hid (NoTo nm.data.toList k)) (fun i => nm.size - (intOf i).toNat)
  case atStart => exact ⟨0, by omega, rfl, fun j hj => by omega⟩
  case round =>
    obtain ⟨k, hk, rfl, hno⟩ := hrel
    by_cases hlt : k < nm.size
    · cases h58 : (((nm[k]'hlt).toNat : Int) == 58)
      · have S : Hid (NoTo nm.data.toList (k + 1)) := no_step hlt hno h58
        go_wp2
        go_round
        case rel => exact ⟨k + 1, by omega, by go_num, S⟩
        case measure => simp [intOf]; omega
      · go_wp2
        go_ret
        exact ⟨rfl, Below.refl _ _⟩
    · have hN : Hid ((58 : UInt8) ∉ nm.data.toList) := no_end hno (by omega)
      clear hno
      obtain ⟨M, hM⟩ : ∃ M, M = len + nm.size + 2 + vl.size + 2 := ⟨_, rfl⟩
      obtain ⟨L, hL⟩ : ∃ L, L = Z ++ nm.data.toList ++ [58, 32] ++ vl.data.toList ++ [13, 10] := ⟨_, rfl⟩
      have C3 : Hid (∀ (B : Nat) (ao : Option Addr) (c : Nat) (w : World), w.ownsRow B 5 1 (.slice ao len c) len (bcs Z) → B ≤ w.heap.size →
          Calls Try.prog 20 #[.slice ao len c, .string nm, .string vl] w fun e w' => ∃ (a1 : Option Addr) (c1 : Nat), e = .returned (.slice a1 M c1) ∧ w'.ownsRow B 5 1 (.slice a1 M c1) M (bcs L) ∧ Below B w w') := by
        intro B ao c w ho hB
        rw [hM, hL]
        exact zzfield_any B ao len c Z nm vl w ho hB (by omega) (by omega) (by omega)
      have HL : Hid (L = Z ++ (nm.data.toList ++ [58, 32] ++ vl.data.toList ++ [13, 10])) := by show _ = _; rw [hL]; simp
      have HM : Hid (M - len = nm.size + vl.size + 4) := by show _ = _; omega
      have hM1 : len < M := by omega
      have hM2 : M ≤ 1048576 := by omega
      clear hM hL
      go_wp2_with fail
      refine (C1.out).mono ?_
      rintro e w1 ⟨ao1, c1, rfl, own1, be1⟩
      go_wp2_with fail
      refine (clone_own _ ao1 len c1 Z w1 (by omega) HZ.out own1).mono ?_
      rintro e w2 ⟨ao2, c2, rfl, own2, be2⟩
      go_wp2_with fail
      refine (C3.out w1.heap.size ao2 c2 w2 own2 be2.size).mono ?_
      rintro e w3 ⟨ao3, c3, rfl, own3, be3⟩
      obtain ⟨g3, rfl, hg3, hg3', hMc, hc3⟩ := own_cells (by omega) own3
      have HC3 : Hid (∀ i v, (bcs L)[i]? = some v → w3.cell? ⟨g3, i, none⟩ = some v) := hc3
      have HO : Hid (∀ i (hi : i < Z.length), ∃ g1, ao1 = some ⟨g1, 0, none⟩ ∧ w3.cell? ⟨g1, i, none⟩ = some (.int .u8 ((Z[i]'hi).toNat : Int))) := by
        intro i hi
        obtain ⟨g1, rfl, hB, hlt1, _, hc1⟩ := own_cells (by have := HZ.out; omega) own1
        refine ⟨g1, rfl, ?_⟩
        rw [be3.cell (by exact hlt1), be2.cell (by exact hlt1)]
        exact hc1 i _ (by simp [bcs, List.getElem?_eq_getElem hi])
      have hbf : Below w.heap.size w w3 := (be1.trans (be2.mono be1.size)).trans (be3.mono be1.size)
      clear own1 own2 own3 be1 be2 be3 hc3 C1 C3
      go_wp2
      go_loopw [9] (fun i wr => ∃ k : Nat, k ≤ len ∧ i = .int .i64 k ∧ ∃ n, wr = w3.drewN n) (fun i _ => len - (intOf i).toNat)
      case atStart => exact ⟨0, by omega, rfl, 0, rfl⟩
      case round =>
        obtain ⟨k, hk, rfl, n, rfl⟩ := hrel
        by_cases hlt : k < len
        · have hkz : k < Z.length := by rw [HZ.out]; exact hlt
          obtain ⟨g1, hg1, q1⟩ := HO.out k hkz
          subst hg1
          have q2 : w3.cell? ⟨g3, k, none⟩ = some (.int .u8 ((Z[k]'hkz).toNat : Int)) := by
            refine HC3.out k _ ?_
            rw [HL.out, bcs_append, List.getElem?_append_left (by rw [bcs_len]; exact hkz)]
            simp [bcs, List.getElem?_eq_getElem hkz]
          obtain ⟨z, hz⟩ : ∃ z, z = Z[k]'hkz := ⟨_, rfl⟩
          rw [← hz] at q1 q2
          clear hz
          have p0 : (0 : Int) ≤ (k : Int) := by omega
          have p1 : (k : Int) < (len : Int) := by omega
          have p2 : (k : Int) < (M : Int) := by omega
          go_wp2
          go_quiet (fail)
          go_wp2
          go_roundw
          case rel => exact ⟨k + 1, by omega, by go_num, _, rfl⟩
          case measure => simp [intOf]; omega
        · have C4 : Hid (Calls Try.prog 21 #[.slice (some ⟨g3, len, none⟩) (M - len) (c3 - len)] (w3.drewN n) fun e w' => e = .returned (.tuple #[.string nm, .string vl, .bool true]) ∧ ∃ k, w' = (w3.drewN n).drewN k) := by
            refine parse_line g3 len (M - len) (c3 - len) nm vl (w3.drewN n) (by omega) (by omega) HM.out (by omega) hN.out (fun i v hi => ?_)
            refine HC3.out (len + i) v ?_
            rw [HL.out, bcs_append, List.getElem?_append_right (by rw [bcs_len, HZ.out]; omega), bcs_len, HZ.out, Nat.add_sub_cancel_left]
            exact hi
          clear HO HC3 HL
          go_wp2_with fail
          refine (C4.out).mono ?_
          rintro e w4 ⟨rfl, k, rfl⟩
          go_wp2
          go_ret
          exact ⟨rfl, below_drewN' hbf _⟩
end Go.Proofs.Qxb6001118a
