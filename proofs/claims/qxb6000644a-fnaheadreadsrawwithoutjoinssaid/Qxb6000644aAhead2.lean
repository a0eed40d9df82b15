/-
  THE CONTRACT of ahead (23): it answers 'Plain.rd'; nothing old has turned.
-/
import Derived.Test.Qxb6000644aAhead
import Derived.Laws.IdiomStrings
namespace Go.Proofs.Qxb6000644a
open Go.RowKit Plain

theorem Try.info5 : (Try.prog.info? 5).map (fun i => (i.zero, i.size, i.bytes)) = some (some (.int .u8 0), 1, 1) := by kernel_rfl

/-- The cells of a list of bytes. -/
def bcs (l : List UInt8) : List Value := l.map fun c => .int .u8 (c.toNat : Int)
theorem bcs_snoc (l : List UInt8) (c : UInt8) : bcs (l ++ [c]) = bcs l ++ [.int .u8 (c.toNat : Int)] := by simp [bcs]
theorem bcs_len (l : List UInt8) : (bcs l).length = l.length := by simp [bcs]

theorem own_form {w : World} {B e s : Nat} {v : Value} {n : Nat} {xs : List Value} (h : w.ownsRow B e s v n xs) : ∃ ao cap, v = .slice ao n cap := by
  rcases h.2 with ⟨rfl, rfl⟩ | ⟨g, cap, cur, rfl, _⟩
  · exact ⟨_, _, rfl⟩
  · exact ⟨_, _, rfl⟩

/-- 'string(read)' of a row of the call's own. -/
theorem own_string {w : World} {B : Nat} {v : Value} {l : List UInt8} (h : w.ownsRow B 5 1 v l.length (bcs l)) : (convert 28 9 v).run Try.prog w = .ok (.string ⟨l.toArray⟩) w := by
  rcases h.2 with ⟨rfl, h0⟩ | ⟨g, cap, cur, rfl, _, hg, _⟩
  · have : l = [] := List.eq_nil_of_length_eq_zero h0
    subst this
    rw [run_convert_bytes_string w 28 9 5 none 0 0 Try.underlying28 Try.underlying5 Try.underlying9]; rfl
  · refine run_convert_bytes_back (P := Try.prog) w 28 9 5 ⟨g, 0, none⟩ cap l Try.underlying28 Try.underlying5 Try.underlying9 (fun j hj => ?_)
    exact h.cells rfl j _ (by simp [bcs, List.getElem?_eq_getElem hj])

theorem own_drewN {w : World} {B e s : Nat} {v : Value} {n m : Nat} {xs : List Value} (h : w.ownsRow B e s v n xs) : (w.drewN m).ownsRow B e s v n xs := h
theorem below_drewN' {B : Nat} {a w : World} (h : Below B a w) (n : Nat) : Below B a (w.drewN n) := ⟨h.os, h.tape, h.output, h.size, h.block⟩

theorem ret_pair {x : List UInt8 × Nat} {R : List UInt8} {i0 p : Nat} (h : x = (R, p - i0)) (hp : i0 ≤ p) :
    Ending.returned (.tuple #[.string ⟨R.toArray⟩, .int .i64 (p : Int)]) = .returned (.tuple #[.string ⟨x.1.toArray⟩, .int .i64 ((i0 + x.2 : Nat) : Int)]) := by
  subst h
  rw [show i0 + (R, p - i0).2 = p from by show i0 + (p - i0) = p; omega]

set_option maxHeartbeats 2000000 in
theorem ahead_any (be bs cap : Nat) (t : ByteArray) (sp : Int) (i0 : Nat) (n : Int) (w : World) (ht : w.cell? ⟨be, 0, none⟩ = some (.string t)) (hs : w.cell? ⟨be, 5, none⟩ = some (.slice (some ⟨bs, 0, none⟩) 1 cap)) (hf : w.cell? ⟨bs, 0, none⟩ = some (.int .i64 sp))
    (hsz : t.size ≤ 1048576) (hi : i0 ≤ t.size) :
    Calls Try.prog 23 #[.pointer (some ⟨be, 0, none⟩), .int .i64 i0, .int .i64 n] w fun e w' =>
      e = .returned (.tuple #[.string ⟨(rd (jo sp) (t.data.toList.drop i0) n.toNat).1.toArray⟩, .int .i64 ((i0 + (rd (jo sp) (t.data.toList.drop i0) n.toNat).2 : Nat) : Int)]) ∧ Below w.heap.size w w' := by
  obtain ⟨ti, hti, hz0, hz1, hz2⟩ := info_parts Try.info5
  have hbe : be < w.heap.size := World.block_lt_of_cell? w _ ht
  have hbs : bs < w.heap.size := World.block_lt_of_cell? w _ hf
  have HT : Hid (t.data.toList.length = t.size) := by show _ = _; simp
  obtain ⟨j, hj⟩ : ∃ j, j = jo sp := ⟨_, rfl⟩
  obtain ⟨T, hT⟩ : ∃ T, T = t.data.toList := ⟨_, rfl⟩
  rw [← hj, ← hT]
  have HJ : Hid (j = jo sp) := hj
  have HTT : Hid (T = t.data.toList) := hT
  have hTl : i0 ≤ T.length := by rw [hT, HT.out]; exact hi
  have HTl : Hid (T.length = t.size) := by show _ = _; rw [hT]; exact HT.out
  obtain ⟨N, hN⟩ : ∃ N, N = n.toNat := ⟨_, rfl⟩
  have HN : Hid (N = n.toNat) := hN
  rw [← hN]
  clear hj hT hN HT
  go_enter Try.func23, Try.ntmps23
  go_wp2
  go_loopw [1, 8] (fun i v wr => ∃ (p : Nat) (R : List UInt8) (m : Nat) (ao : Option Addr) (c : Nat), i = .int .i64 p ∧ v = .slice ao m c ∧ Hid (R.length = m) ∧ Inv j T i0 N p R ∧ wr.ownsRow w.heap.size 5 1 (.slice ao m c) m (bcs R) ∧ Below w.heap.size w wr)
    (fun i _ _ => t.size - (intOf i).toNat)
  case atStart => exact ⟨i0, [], 0, none, 0, rfl, rfl, rfl, inv0 _ _ _ _ hTl, World.ownsRow_nil _ _ _ _, Below.refl _ _⟩
  case round =>
    obtain ⟨p, R, m, ao, c, rfl, rfl, HR, hinv, hown, hb⟩ := hrel
    by_cases hmn : (m : Int) < n
    · have hRN : R.length < N := by rw [HR.out, HN.out]; omega
      have hpT : p ≤ T.length := hinv.2.1
      go_wp2_with fail
      go_loopw [1] (fun i wq => ∃ q : Nat, i = .int .i64 q ∧ Skp j T p q ∧ wq.ownsRow w.heap.size 5 1 (.slice ao m c) m (bcs R) ∧ Below w.heap.size w wq)
        (fun i _ => t.size - (intOf i).toNat)
      case atStart => exact ⟨p, rfl, skp0 _ _ _ hpT, hown, hb⟩
      case round =>
        clear hown hb
        obtain ⟨q, rfl, hsk, hown, hb⟩ := hrel
        have hq : q ≤ t.size := by rw [← HTl.out]; exact hsk.2.1
        have ht1 : wr.cell? ⟨be, 0, none⟩ = some (.string t) := (hb.cell (by exact hbe)).trans ht
        have hs1 : wr.cell? ⟨be, 5, none⟩ = some (.slice (some ⟨bs, 0, none⟩) 1 cap) := (hb.cell (by exact hbe)).trans hs
        have hf1 : wr.cell? ⟨bs, 0, none⟩ = some (.int .i64 sp) := (hb.cell (by exact hbs)).trans hf
        have J : ∀ r, (j && jn (T.drop q)) = r → Hid (Calls Try.prog 25 #[.pointer (some ⟨be, 0, none⟩), .int .i64 q] wr fun e w' => e = .returned (.bool r) ∧ ∃ n, w' = wr.drewN n) := by
          intro r hr
          rw [HJ.out, HTT.out] at hr
          exact join_any be bs cap t sp q wr ht1 hs1 hf1 hsz hq hr
        cases hjn : (j && jn (T.drop q))
        · have C := J false hjn
          have HJN : Hid ((j && jn (T.drop q)) = false) := hjn
          clear J hjn hs hf ht hs1 hf1
          by_cases hqe : q = t.size
          · have hqb : ((q : Int) == (t.size : Int)) = true := by simp [hqe]
            have E : Hid (rd j (T.drop i0) N = (R, q - i0)) := inv_break hinv hRN hsk HJN.out (by rw [HTl.out]; exact hqe)
            have hi0q : i0 ≤ q := Nat.le_trans hinv.1 hsk.1
            have hcv : ∀ k, (convert 28 9 (.slice ao m c)).run Try.prog (wr.drewN k) = .ok (.string ⟨R.toArray⟩) (wr.drewN k) := by
              intro k
              have h : (wr.drewN k).ownsRow w.heap.size 5 1 (.slice ao m c) R.length (bcs R) := by rw [HR.out]; exact own_drewN hown
              exact own_string h
            clear hqe hown
            go_wp2_with fail
            refine (C.out).mono ?_
            rintro e w1 ⟨rfl, k, rfl⟩
            go_wp2
            go_ret2
            exact ⟨ret_pair E.out hi0q, below_drewN' hb k⟩
          · have hqb : ((q : Int) == (t.size : Int)) = false := by simp; omega
            have hqlt : q < t.size := by omega
            have S : Inv j T i0 N (q + 1) (R ++ [t[q]]) := inv_step hinv hRN hsk HJN.out (by rw [HTl.out]; exact hqlt) (by rw [HTT.out]; simp [hqlt]; rfl)
            have hm1 : R.length ≤ q := by have := hinv.2.2.2.1; have := hsk.1; omega
            rw [HR.out] at hm1
            have hpq : p ≤ q := hsk.1
            clear hqe
            go_wp2_with fail
            refine (C.out).mono ?_
            rintro e w1 ⟨rfl, k, rfl⟩
            go_wp2_with (at_builtin; refine wpList_append_own _ rfl _ _ 28 rfl w.heap.size 5 ti (.int .u8 0) 1 1 Try.underlying28 hti hz0 hz1 hz2 rfl (by decide) (.slice ao m c) m (bcs R) rfl (own_drewN (hown.alloc _)) ⟨wr.heap.size, 0, none⟩ 1 1 [.int .u8 (t[q].toNat : Int)] rfl rfl ?c1 ?c2 ?c3 ?c4 ?c5 ?_)
            case c1 =>
              intro j x hj
              match j, hj with
              | 0, hj =>
                simp at hj; subst hj
                show (wr.alloc (.cells #[.int .u8 (t[q].toNat : Int)] 5)).cell? (Addr.add ⟨wr.heap.size, 0, none⟩ 0) = _
                simp [Addr.add]
            case c2 => intro x hx; simp at hx; subst hx; rfl
            case c3 => unfold maxLen; omega
            case c4 => omega
            case c5 => have := hb.size; simp; omega
            intro v1 w1 hown1 hgrow1 _
            have hb1 : Below w.heap.size w w1 := ((below_drewN' hb k).alloc (by have := hb.size; simpa using this) _).grown hgrow1 (by have := hb.size; simp; omega) (fun g hg => (hown.lt g hg).1)
            obtain ⟨ao1, c1, hv1⟩ := own_form hown1
            subst hv1
            have hown2 : w1.ownsRow w.heap.size 5 1 (.slice ao1 (m + 1) c1) (m + 1) (bcs (R ++ [t[q]])) := by rw [bcs_snoc]; exact hown1
            have HR1 : Hid ((R ++ [t[q]]).length = m + 1) := by show _ = _; rw [List.length_append, HR.out]; rfl
            clear hown1 hgrow1 hown hb ht1 hinv hsk
            go_wp2
            go_roundw
            case rel => exact ⟨q + 1, R ++ [t[q]], m + 1, ao1, c1, by go_num, rfl, HR1, S, hown2, hb1⟩
            case measure => simp [intOf]; omega
        · have C := J true hjn
          obtain ⟨hsk2, hq2⟩ := skp_step hsk hjn
          rw [HTl.out] at hq2
          clear J hjn hsk hs hf ht hs1 hf1
          go_wp2_with fail
          refine (C.out).mono ?_
          rintro e w1 ⟨rfl, k, rfl⟩
          go_wp2
          go_roundw
          case rel => exact ⟨q + 2, by go_num, hsk2, own_drewN hown, below_drewN' hb k⟩
          case measure => simp [intOf]; omega
    · have E : Hid (rd j (T.drop i0) N = (R, p - i0)) := inv_end hinv (by rw [HR.out, HN.out]; omega)
      have hi0p : i0 ≤ p := hinv.1
      have hcv : (convert 28 9 (.slice ao m c)).run Try.prog wr = .ok (.string ⟨R.toArray⟩) wr := by
        have h : wr.ownsRow w.heap.size 5 1 (.slice ao m c) R.length (bcs R) := by rw [HR.out]; exact hown
        exact own_string h
      clear hown
      go_wp2
      go_ret2
      exact ⟨ret_pair E.out hi0p, hb⟩

/-- THE CONTRACT OF ZZAhead. -/
theorem zzahead_any (t : ByteArray) (sp : Int) (i0 : Nat) (n : Int) (w : World) (hsz : t.size ≤ 1048576) (hi : i0 ≤ t.size) :
    Calls Try.prog 9 #[.string t, .int .i64 sp, .int .i64 i0, .int .i64 n] w fun e w' =>
      e = .returned (.tuple #[.string ⟨(rd (jo sp) (t.data.toList.drop i0) n.toNat).1.toArray⟩, .int .i64 ((i0 + (rd (jo sp) (t.data.toList.drop i0) n.toNat).2 : Nat) : Int)]) ∧ Below w.heap.size w w' := by
  obtain ⟨x, hx⟩ : ∃ x, x = rd (jo sp) (t.data.toList.drop i0) n.toNat := ⟨_, rfl⟩
  have A : Hid (∀ W : World, W.cell? ⟨w.heap.size + 1, 0, none⟩ = some (.string t) → W.cell? ⟨w.heap.size + 1, 5, none⟩ = some (.slice (some ⟨w.heap.size, 0, none⟩) 1 1) → W.cell? ⟨w.heap.size, 0, none⟩ = some (.int .i64 sp) →
      Calls Try.prog 23 #[.pointer (some ⟨w.heap.size + 1, 0, none⟩), .int .i64 i0, .int .i64 n] W fun e w' =>
        e = .returned (.tuple #[.string ⟨x.1.toArray⟩, .int .i64 ((i0 + x.2 : Nat) : Int)]) ∧ Below W.heap.size W w') := by
    intro W h1 h2 h3
    rw [hx]
    exact ahead_any _ _ _ t sp i0 n W h1 h2 h3 hsz hi
  rw [← hx]
  clear hx
  go_enter Try.func9, Try.ntmps9
  go_wp2_with fail
  refine (A.out _ ?h1 ?h2 ?h3).mono ?_
  case h1 => simp
  case h2 => simp
  case h3 => simp
  rintro e w1 ⟨rfl, hb⟩
  go_wp2
  go_ret2
  exact ⟨rfl, (((Below.refl _ _).alloc (Nat.le_refl _) _).alloc (by simp) _).trans (hb.mono (by simp; omega))⟩
end Go.Proofs.Qxb6000644a
