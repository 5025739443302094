/-
  Seat b6616989a: the walk of FnInboxDrainsInOrderThenReportsClose.
-/
import Derived.Test.Qxb6616989aKeepsPlain
namespace Go.Proofs.Qxb6616989a
open Go.RowKit

theorem bytesD_yes (a : Option Addr) (len cap : Nat) (x : Int) (w : World) (h : len ≤ 1048576) : Calls Try.prog 5 #[.slice a len cap, .int .u8 x] w fun e w' => e = .returned (.bool true) ∧ w = w' := by
  go_enter Try.func5, Try.ntmps5
  go_wp2
  go_ret
  exact ⟨rfl, rfl⟩
theorem bytesD_no (a : Option Addr) (len cap : Nat) (x : Int) (w : World) (h : 1048576 < len) : Calls Try.prog 5 #[.slice a len cap, .int .u8 x] w fun e w' => e = .returned (.bool false) ∧ w = w' := by
  go_enter Try.func5, Try.ntmps5
  go_wp2
  go_ret
  exact ⟨rfl, rfl⟩

theorem take_next (L : List Int) (k : Nat) (h : k < L.length) : L.take (k + 1) = L.take k ++ [L[k]] := List.take_succ_eq_append_getElem h

set_option maxHeartbeats 8000000 in
theorem drains_core (b off len cap : Nat) (x : Int) (L : List Int) (w : World) (hlen : len ≤ 4096) (hL : L.length = len) (hx0 : 0 ≤ x) (hx1 : x ≤ 255) (hb : b < w.heap.size) (hc : ∀ j (hj : j < L.length), w.cell? ⟨b, off + j, none⟩ = some (.int .i64 L[j])) :
    Calls Try.prog 3 #[.slice (some ⟨b, off, none⟩) len cap, .int .u8 x] w fun e w' => e = .returned (.bool true) ∧ Below w.heap.size w w' := by
  obtain ⟨base, hbase⟩ : ∃ base, base = w.heap.size := ⟨_, rfl⟩
  have HBS : Hid (base = w.heap.size) := hbase
  rw [← hbase] at hb ⊢
  clear hbase
  have HC : Hid (∀ j (hj : j < L.length), w.cell? ⟨b, off + j, none⟩ = some (.int .i64 L[j])) := hc
  have HL : Hid (L.length = len) := hL
  clear hc hL
  go_enter Try.func3, Try.ntmps3
  go_wp2_with (go_at_call 5; refine (bytesD_yes _ _ _ _ _ (by omega)).mono ?_; rintro e w' ⟨rfl, rfl⟩)
  -- the sizes are looked at
  go_loop [5] (fun iv => ∃ k : Nat, k ≤ len ∧ iv = .int .i64 k ∧ ∀ y ∈ L.take k, 1 ≤ y ∧ y ≤ 1073741824) (fun iv => len - (intOf iv).toNat)
  case atStart => exact ⟨0, Nat.zero_le _, rfl, by simp⟩
  case round =>
    obtain ⟨k, hk, rfl, hin⟩ := hrel
    by_cases hlt : k < len
    · have hkL : k < L.length := by rw [HL.out]; exact hlt
      obtain ⟨z, hz⟩ : ∃ z, z = L[k] := ⟨_, rfl⟩
      have cz : w.cell? ⟨b, off + k, none⟩ = some (.int .i64 z) := by rw [hz]; exact HC.out k hkL
      have HZ : Hid (z = L[k]) := hz
      clear hz
      by_cases z1 : z < 1
      · go_wp2_with fail
        go_ret
        exact ⟨rfl, Below.refl _ _⟩
      · have d1 : decide (z < 1) = false := decide_eq_false z1
        by_cases z2 : 1073741824 < z
        · go_wp2_with fail
          go_ret
          exact ⟨rfl, Below.refl _ _⟩
        · have d2 : decide (1073741824 < z) = false := decide_eq_false z2
          have hin' : ∀ y ∈ L.take (k + 1), 1 ≤ y ∧ y ≤ 1073741824 := fun y hy => by
            rw [take_next L k hkL] at hy
            rcases List.mem_append.1 hy with h | h
            · exact hin y h
            · rw [List.mem_singleton.1 h, ← HZ.out]; omega
          have HIN : Hid (∀ y ∈ L.take (k + 1), 1 ≤ y ∧ y ≤ 1073741824) := hin'
          clear hin hin'
          go_wp2_with fail
          go_round
          case rel => exact ⟨k + 1, by omega, by go_num, HIN.out⟩
          case measure => simp [intOf]; omega
    · have hall : ∀ y ∈ L, 1 ≤ y ∧ y ≤ 1073741824 := fun y hy => hin y (by rw [List.take_of_length_le (by have := HL.out; omega)]; exact hy)
      have HALL : Hid (∀ y ∈ L, 1 ≤ y ∧ y ≤ 1073741824) := hall
      clear hall hin
      go_wp2_with fail
      clear hk hlt
      refine (newInbox_any w).mono ?_
      rintro e w1 ⟨B, c1, c2, rfl, hI1, hF1⟩
      rw [← HBS.out] at hI1 hF1
      have hs1 : base ≤ w1.heap.size := by rw [HBS.out]; exact hF1.size
      have hbl1 : Below base w w1 := Frm.below (Below.refl _ _) hF1
      clear hF1
      go_wp2_with fail
      -- all items are queued
      go_loopw [7, 8] (fun hv iv wr => ∃ (k : Nat) (xs : List (Addr × Int)) (v : Value), k ≤ len ∧ xs.map Prod.snd = L.take k ∧ iv = .int .i64 k ∧ hv = .int .i64 (sm (L.take k)) ∧
          IB base B c1 c2 wr v xs (sm (L.take k)) .nilIface ∧ Below base w wr ∧ base ≤ wr.heap.size) (fun _ iv _ => len - (intOf iv).toNat)
      case atStart => exact ⟨0, [], _, Nat.zero_le _, rfl, rfl, rfl, hI1, hbl1, hs1⟩
      case round =>
        obtain ⟨k2, xs, v, hk, hxs, rfl, rfl, hI, hbl, hs⟩ := hrel
        clear hI1 hbl1 hs1
        have hxl : xs.length ≤ 4096 := by have := congrArg List.length hxs; simp at this; omega
        have hin2 : ∀ y ∈ L.take k2, 1 ≤ y ∧ y ≤ 1073741824 := fun y hy => HALL.out y (List.mem_of_mem_take hy)
        have hsb := sm_bd _ hin2
        have hS2 : sm (L.take k2) ≤ 4398046511104 := by have := hsb.2; simp at this; omega
        have hS1 := hsb.1
        clear hin2 hsb
        by_cases hlt : k2 < len
        · have hkL : k2 < L.length := by rw [HL.out]; exact hlt
          obtain ⟨S, hS⟩ : ∃ S, S = sm (L.take k2) := ⟨_, rfl⟩
          have HS : Hid (S = sm (L.take k2)) := hS
          rw [← hS] at hI hS1 hS2 ⊢
          clear hS
          obtain ⟨z, hz⟩ : ∃ z, z = L[k2] := ⟨_, rfl⟩
          have cz : ∀ W : World, Below base w W → W.cell? ⟨b, off + k2, none⟩ = some (.int .i64 z) := fun W hW => by rw [hz]; exact (hW.cell (by exact hb)).trans (HC.out k2 hkL)
          have hzb := HALL.out L[k2] (List.getElem_mem hkL)
          rw [← hz] at hzb
          obtain ⟨z1, z2⟩ := hzb
          have HT : Hid (L.take (k2 + 1) = L.take k2 ++ [z]) := by unfold Hid; rw [hz]; exact take_next L k2 hkL
          clear hz
          have cz1 := cz wr hbl
          go_wp2_with fail
          refine (push_any base B c1 c2 wr v xs S z .nilIface hI (by omega) hS1 (by omega) z1 z2).mono ?_
          rintro e w3 ⟨rfl, ⟨v', a, hI3⟩, hF3⟩
          have hbl3 := Frm.below hbl hF3
          have hs3 : base ≤ w3.heap.size := Nat.le_trans hs hF3.size
          have cz3 := cz w3 hbl3
          clear hI hF3 hbl hs cz cz1
          go_wp2_with fail
          have hI5 : IB base B c1 c2 w3 v' (xs ++ [(a, z)]) (sm (L.take (k2 + 1))) .nilIface := by rw [HT.out, sm_snoc, ← HS.out]; exact hI3
          go_roundw
          case rel => exact ⟨k2 + 1, xs ++ [(a, z)], v', by omega, by rw [HT.out, List.map_append, hxs]; rfl, by go_num, by rw [HT.out, sm_snoc, ← HS.out], hI5, hbl3, hs3⟩
          case measure => simp [intOf]; omega
        · have eT : L.take k2 = L := List.take_of_length_le (by have := HL.out; omega)
          rw [eT] at hxs hI ⊢
          go_wp2_with fail
          clear hk hlt hS1 hS2 eT
          refine (close_any base B c1 c2 wr v xs (sm L) .nilIface hI hs).mono ?_
          rintro e w3 ⟨rfl, ⟨bb, hI3⟩, hF3⟩
          have hbl3 := Frm.below hbl hF3
          have hs3 : base ≤ w3.heap.size := Nat.le_trans hs hF3.size
          clear hI hF3 hbl hs
          go_wp2_with fail
          -- each item comes in turn
          go_loopw [7, 9] (fun hv iv wr => ∃ (k : Nat) (xs : List (Addr × Int)) (v : Value), k ≤ len ∧ xs.map Prod.snd = L.drop k ∧ iv = .int .i64 k ∧ hv = .int .i64 (sm (L.drop k)) ∧
              IB base B c1 c2 wr v xs (sm (L.drop k)) (.iface 57 (.pointer (some bb))) ∧ Below base w wr ∧ base ≤ wr.heap.size) (fun _ iv _ => len - (intOf iv).toNat)
          case atStart => exact ⟨0, xs, v, Nat.zero_le _, hxs, rfl, rfl, hI3, hbl3, hs3⟩
          case round =>
            obtain ⟨k3, xs3, v3, hk, hxs3, rfl, rfl, hI, hbl, hs⟩ := hrel
            clear hI3 hbl3 hs3 hxs hxl
            have hxl : xs3.length = len - k3 := by have := congrArg List.length hxs3; simp at this; rw [HL.out] at this; exact this
            by_cases hlt : k3 < len
            · have hkL : k3 < L.length := by rw [HL.out]; exact hlt
              have hin2 : ∀ y ∈ L.drop k3, 1 ≤ y ∧ y ≤ 1073741824 := fun y hy => HALL.out y (List.mem_of_mem_drop hy)
              have hsb := sm_bd _ hin2
              have hS2 : sm (L.drop k3) ≤ 4398046511104 := by have := hsb.2; simp at this; rw [HL.out] at this; omega
              have hS1 := hsb.1
              clear hin2 hsb
              obtain ⟨S, hS⟩ : ∃ S, S = sm (L.drop k3) := ⟨_, rfl⟩
              have HS : Hid (S = sm (L.drop k3)) := hS
              rw [← hS] at hI hS1 hS2 ⊢
              clear hS
              obtain ⟨a, ys, rfl, hys⟩ := head_of hxs3 hkL
              obtain ⟨q, hq⟩ : ∃ q, q = L[k3] := ⟨_, rfl⟩
              rw [← hq] at hI
              have cz : ∀ W : World, Below base w W → W.cell? ⟨b, off + k3, none⟩ = some (.int .i64 q) := fun W hW => by rw [hq]; exact (hW.cell (by exact hb)).trans (HC.out k3 hkL)
              have hqb := HALL.out L[k3] (List.getElem_mem hkL)
              rw [← hq] at hqb
              obtain ⟨q1, q2⟩ := hqb
              have HSq : Hid (S - q = sm (L.drop (k3 + 1))) := by unfold Hid; rw [HS.out, drop_cons L k3 hkL, sm_cons, ← hq]; omega
              clear hq hxs3
              simp only [List.length_cons] at hxl
              go_wp2_with fail
              refine (zzNext_some base B c1 c2 wr v3 ys S q a _ hI (by omega) hS1 (by omega) (by omega) (by omega)).mono ?_
              rintro e w4 ⟨rfl, ⟨v4, hI4⟩, hF4⟩
              have hbl4 := Frm.below hbl hF4
              have hs4 : base ≤ w4.heap.size := Nat.le_trans hs hF4.size
              have cz4 := cz w4 hbl4
              clear hI hF4 hbl hs cz
              go_wp2_with fail
              refine (held_any base B c1 c2 w4 v4 _ _ _ hI4).mono ?_
              rintro e w' ⟨rfl, rfl⟩
              go_wp2_with fail
              refine (len_any base B c1 c2 w4 v4 _ _ _ hI4).mono ?_
              rintro e w' ⟨rfl, rfl⟩
              have hl4 : (ys.length : Int) = (len : Int) - 1 - (k3 : Int) := by omega
              rw [hl4]
              go_wp2_with fail
              rw [HSq.out] at hI4
              go_roundw
              case rel => exact ⟨k3 + 1, ys, v4, by omega, hys, by go_num, by rw [HSq.out], hI4, hbl4, hs4⟩
              case measure => simp [intOf]; omega
            · obtain rfl : xs3 = [] := List.length_eq_zero_iff.1 (by omega)
              have e0 : sm (L.drop k3) = 0 := by rw [← hxs3]; rfl
              rw [e0] at hI ⊢
              go_wp2_with fail
              clear hk hlt hxl e0 hxs3
              -- the close is told, as often as it is asked
              go_loopw [12] (fun iv wr => ∃ (k : Nat) (v : Value), (k : Int) ≤ x + 1 ∧ iv = .int .i64 k ∧ IB base B c1 c2 wr v [] 0 (.iface 57 (.pointer (some bb))) ∧ Below base w wr ∧ base ≤ wr.heap.size) (fun iv _ => (x + 1).toNat - (intOf iv).toNat)
              case atStart => exact ⟨0, v3, by omega, rfl, hI, hbl, hs⟩
              case round =>
                obtain ⟨k4, v4, hk, rfl, hI4, hbl4, hs4⟩ := hrel
                clear hI hbl hs
                by_cases hlt : (k4 : Int) ≤ x
                · go_wp2_with fail
                  refine (zzNext_closed base B c1 c2 wr v4 0 bb hI4).mono ?_
                  rintro e w5 ⟨rfl, hI5, hF5⟩
                  have hbl5 := Frm.below hbl4 hF5
                  have hs5 : base ≤ w5.heap.size := Nat.le_trans hs4 hF5.size
                  clear hI4 hF5 hbl4 hs4
                  go_wp2_with fail
                  refine (held_any base B c1 c2 w5 v4 _ _ _ hI5).mono ?_
                  rintro e w' ⟨rfl, rfl⟩
                  go_wp2_with fail
                  refine (len_any base B c1 c2 w5 v4 _ _ _ hI5).mono ?_
                  rintro e w' ⟨rfl, rfl⟩
                  go_wp2_with fail
                  go_roundw
                  case rel => exact ⟨k4 + 1, v4, by omega, by go_num, hI5, hbl5, hs5⟩
                  case measure => simp [intOf]; omega
                · go_wp2_with fail
                  go_ret
                  exact ⟨rfl, hbl4⟩
end Go.Proofs.Qxb6616989a
