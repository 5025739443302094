/-
  Seat b6616989a: FnInboxDrainsInOrderThenReportsClose at every input.
-/
import Derived.Test.Qxb6616989aDrains
namespace Go.Proofs.Qxb6616989a
open Go.RowKit

set_option maxHeartbeats 4000000 in
theorem drains_zero (a : Option Addr) (cap : Nat) (x : Int) (w : World) (hx0 : 0 ≤ x) (hx1 : x ≤ 255) :
    Calls Try.prog 3 #[.slice a 0 cap, .int .u8 x] w fun e w' => e = .returned (.bool true) ∧ Below w.heap.size w w' := by
  obtain ⟨base, hbase⟩ : ∃ base, base = w.heap.size := ⟨_, rfl⟩
  have HBS : Hid (base = w.heap.size) := hbase
  rw [← hbase]
  clear hbase
  go_enter Try.func3, Try.ntmps3
  go_wp2_with (go_at_call 5; refine (bytesD_yes _ _ _ _ _ (by omega)).mono ?_; rintro e w' ⟨rfl, rfl⟩)
  refine wp_loop_rounds 1 ?_
  rw [rounds_succ]
  go_wp2_with fail
  refine (newInbox_any w).mono ?_
  rintro e w1 ⟨B, c1, c2, rfl, hI1, hF1⟩
  rw [← HBS.out] at hI1 hF1
  have hs1 : base ≤ w1.heap.size := by rw [HBS.out]; exact hF1.size
  have hbl1 : Below base w w1 := Frm.below (Below.refl _ _) hF1
  clear hF1
  go_wp2_with fail
  refine wp_loop_rounds 1 ?_
  rw [rounds_succ]
  go_wp2_with fail
  refine (close_any base B c1 c2 w1 _ [] 0 .nilIface hI1 hs1).mono ?_
  rintro e w3 ⟨rfl, ⟨bb, hI3⟩, hF3⟩
  have hbl3 := Frm.below hbl1 hF3
  have hs3 : base ≤ w3.heap.size := Nat.le_trans hs1 hF3.size
  clear hI1 hF3 hbl1 hs1
  go_wp2_with fail
  refine wp_loop_rounds 1 ?_
  rw [rounds_succ]
  go_wp2_with fail
  go_loopw [12] (fun iv wr => ∃ (k : Nat) (v : Value), (k : Int) ≤ x + 1 ∧ iv = .int .i64 k ∧ IB base B c1 c2 wr v [] 0 (.iface 57 (.pointer (some bb))) ∧ Below base w wr ∧ base ≤ wr.heap.size) (fun iv _ => (x + 1).toNat - (intOf iv).toNat)
  case atStart => exact ⟨0, _, by omega, rfl, hI3, hbl3, hs3⟩
  case round =>
    obtain ⟨k4, v4, hk, rfl, hI4, hbl4, hs4⟩ := hrel
    clear hI3 hbl3 hs3
    by_cases hlt : (k4 : Int) ≤ x
    · go_wp2_with fail
      refine (zzNext_closed base B c1 c2 wr v4 0 bb hI4).mono ?_
      rintro e w5 ⟨rfl, hI5, hF5⟩
      have hbl5 := Frm.below hbl4 hF5
      have hs5 : base ≤ w5.heap.size := Nat.le_trans hs4 hF5.size
      clear hI4 hF5 hbl4 hs4
      go_wp2_with fail
      refine (held_any base B c1 c2 w5 v4 _ _ _ hI5).mono ?_
      rintro e w' ⟨rfl, rfl⟩
      go_wp2_with fail
      refine (len_any base B c1 c2 w5 v4 _ _ _ hI5).mono ?_
      rintro e w' ⟨rfl, rfl⟩
      go_wp2_with fail
      go_roundw
      case rel => exact ⟨k4 + 1, v4, by omega, by go_num, hI5, hbl5, hs5⟩
      case measure => simp [intOf]; omega
    · go_wp2_with fail
      go_ret
      exact ⟨rfl, hbl4⟩

set_option maxHeartbeats 1000000 in
theorem drains_long (a : Option Addr) (len cap : Nat) (x : Int) (w : World) (h : 4096 < len) :
    Calls Try.prog 3 #[.slice a len cap, .int .u8 x] w fun e w' => e = .returned (.bool true) ∧ Below w.heap.size w w' := by
  by_cases h2 : len ≤ 1048576
  · go_enter Try.func3, Try.ntmps3
    go_wp2_with (go_at_call 5; refine (bytesD_yes _ _ _ _ _ h2).mono ?_; rintro e w' ⟨rfl, rfl⟩)
    go_ret
    exact ⟨rfl, Below.refl _ _⟩
  · have h3 : 1048576 < len := by omega
    go_enter Try.func3, Try.ntmps3
    go_wp2_with (go_at_call 5; refine (bytesD_no _ _ _ _ _ h3).mono ?_; rintro e w' ⟨rfl, rfl⟩)
    go_ret
    exact ⟨rfl, Below.refl _ _⟩

theorem drains_any (a : Option Addr) (len cap : Nat) (zs : List Int) (x : Int) (w : World) (hx0 : 0 ≤ x) (hx1 : x ≤ 255)
    (hrow : (a = none ∧ len = 0 ∧ cap = 0 ∧ zs = []) ∨ ∃ y, a = some y ∧ len ≤ cap ∧ zs.length = cap ∧ ∀ i, i < zs.length → w.cell? (y.add i) = some (.int .i64 (zs.getD i 0))) :
    Calls Try.prog 3 #[.slice a len cap, .int .u8 x] w fun e w' => e = .returned (.bool true) ∧ Below w.heap.size w w' := by
  by_cases hl : len ≤ 4096
  · by_cases h0 : len = 0
    · subst h0
      exact drains_zero a cap x w hx0 hx1
    · rcases hrow with ⟨_, h, _, _⟩ | ⟨y, rfl, h1, h2, h3⟩
      · exact absurd h h0
      · obtain ⟨b, off, rfl, hc⟩ := ints_at h3 (by omega)
        have hb : b < w.heap.size := World.block_lt_of_cell? w _ (hc 0 (by omega))
        refine drains_core b off len cap x (zs.take len) w hl (by simp; omega) hx0 hx1 hb (fun j hj => ?_)
        have hj' : j < zs.length := by simp at hj; omega
        rw [hc j hj']
        simp [List.getElem?_eq_getElem hj']
  · exact drains_long a len cap x w (by omega)
end Go.Proofs.Qxb6616989a
