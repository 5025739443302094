/-
  The walk of FnLowerHexCutAnywhereAndExact.
-/
import Derived.Test.Qxb6619600aPlain
namespace Go.Proofs.Qxb6619600a
open Go.RowKit

theorem bstep {w a b : World} (h : Below w.heap.size w a) (k : Below a.heap.size a b) : Below w.heap.size w b := h.trans (k.mono h.size)

set_option maxHeartbeats 1000000 in
theorem cut_core (s : ByteArray) (n : Nat) (w : World) (hs : s.size ≤ 1048576) (hn : n ≤ s.size) (n0 : (0 : Int) ≤ n) (A L R : Bool)
    (hA : okHex s = A) (hL : okHex (s.extract 0 n) = L) (hR : okHex (s.extract n s.size) = R) (hk : okHex (keptOf s) = true)
    (he : (((keptOf s).size : Int) == (s.size : Int)) = A) (h : A = (L && R)) :
    Calls Try.prog 3 #[.string s, .int .i64 n] w fun e w' => e = .returned (.bool true) ∧ Below w.heap.size w w' := by
  subst h
  have hb := Below.refl w.heap.size w
  cases L <;> cases R <;> simp only [Bool.true_and, Bool.false_and] at hA he
  all_goals
    go_enter Try.func3, Try.ntmps3
    go_wp2_with (first
      | (go_at_call 5; refine (bytesCut_any _ _ _ hs).mono ?_; rintro e w' ⟨rfl, rfl⟩)
      | (go_at_call 6; refine (zzHex_ok _ _).mono ?_; rintro e w' ⟨rfl, hb'⟩; have hb := bstep (by assumption) hb'; clear hb')
      | (go_at_call 7; refine (keep_ok _ _ (by omega)).mono ?_; rintro e w' ⟨rfl, hb'⟩; have hb := bstep (by assumption) hb'; clear hb'))
    go_ret
    exact ⟨rfl, hb⟩

theorem cut_in (s : ByteArray) (n : Nat) (w : World) (hs : s.size ≤ 1048576) (hn : n ≤ s.size) :
    Calls Try.prog 3 #[.string s, .int .i64 n] w fun e w' => e = .returned (.bool true) ∧ Below w.heap.size w w' := by
  refine cut_core s n w hs hn (by omega) (okHex s) _ _ rfl rfl rfl (keptOf_ok s) ?_ (okHex_cut s n)
  cases h : okHex s
  · have := keptOf_size_no s h
    rw [beq_eq_false_iff_ne]; omega
  · have := keptOf_size_yes s h
    rw [beq_iff_eq]; omega

set_option maxHeartbeats 1000000 in
theorem cut_out (s : ByteArray) (i : Int) (w : World) (hs : s.size ≤ 1048576) (hi : i < 0 ∨ (s.size : Int) < i) :
    Calls Try.prog 3 #[.string s, .int .i64 i] w fun e w' => e = .returned (.bool true) ∧ Below w.heap.size w w' := by
  have hb := Below.refl w.heap.size w
  rcases hi with hi | hi
  · go_enter Try.func3, Try.ntmps3
    go_wp2_with (go_at_call 5; refine (bytesCut_any _ _ _ hs).mono ?_; rintro e w' ⟨rfl, rfl⟩)
    go_ret
    exact ⟨rfl, hb⟩
  · have h0 : 0 ≤ i := by omega
    go_enter Try.func3, Try.ntmps3
    go_wp2_with (go_at_call 5; refine (bytesCut_any _ _ _ hs).mono ?_; rintro e w' ⟨rfl, rfl⟩)
    go_ret
    exact ⟨rfl, hb⟩

set_option maxHeartbeats 1000000 in
theorem cut_long (s : ByteArray) (i : Int) (w : World) (hs : 1048576 < s.size) :
    Calls Try.prog 3 #[.string s, .int .i64 i] w fun e w' => e = .returned (.bool true) ∧ Below w.heap.size w w' := by
  have hb := Below.refl w.heap.size w
  go_enter Try.func3, Try.ntmps3
  go_wp2_with (go_at_call 5; refine (bytesCut_no _ _ _ hs).mono ?_; rintro e w' ⟨rfl, rfl⟩)
  go_ret
  exact ⟨rfl, hb⟩

theorem cut_any (s : ByteArray) (i : Int) (w : World) :
    Calls Try.prog 3 #[.string s, .int .i64 i] w fun e w' => e = .returned (.bool true) ∧ Below w.heap.size w w' := by
  by_cases hs : s.size ≤ 1048576
  · by_cases hi : i < 0 ∨ (s.size : Int) < i
    · exact cut_out s i w hs hi
    · obtain ⟨n, rfl⟩ : ∃ n : Nat, i = n := ⟨i.toNat, by omega⟩
      exact cut_in s n w hs (by omega)
  · exact cut_long s i w (by omega)
end Go.Proofs.Qxb6619600a
