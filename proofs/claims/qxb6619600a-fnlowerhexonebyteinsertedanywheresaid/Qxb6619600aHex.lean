/-
  The walks of the small functions of seat b6619600a: isLowerHexByte, lowerHex, ZZlowerHex, the two zzBytes.
-/
import Derived.Test.Qxb6619600aRows
import Derived.WalkKit
import Derived.WalkSpells
import Derived.WalkLawsBesides
namespace Go.Proofs.Qxb6619600a
open Go.RowKit

/-- A number of the alphabet 0-9 a-f. -/
def hx (c : Int) : Bool := decide ((48 ≤ c ∧ c ≤ 57) ∨ (97 ≤ c ∧ c ≤ 102))
def hx8 (c : UInt8) : Bool := hx (c.toNat : Int)
def allHex (l : List UInt8) : Bool := l.all hx8

theorem hx_yes {c : Int} (h : (48 ≤ c ∧ c ≤ 57) ∨ (97 ≤ c ∧ c ≤ 102)) : hx c = true := by unfold hx; exact decide_eq_true h
theorem hx_no {c : Int} (h : ¬ ((48 ≤ c ∧ c ≤ 57) ∨ (97 ≤ c ∧ c ≤ 102))) : hx c = false := by unfold hx; exact decide_eq_false h

set_option maxHeartbeats 400000 in
theorem isHex_yes (c : Int) (w : World) (h : (48 ≤ c ∧ c ≤ 57) ∨ (97 ≤ c ∧ c ≤ 102)) :
    Calls Try.prog 9 #[.int .u8 c] w fun e w' => e = .returned (.bool true) ∧ w = w' := by
  rcases h with ⟨h1, h2⟩ | ⟨h1, h2⟩
  · go_enter Try.func9, Try.ntmps9
    go_wp2
    go_ret
    exact ⟨rfl, rfl⟩
  · have h3 : 57 < c := by omega
    have h4 : 48 ≤ c := by omega
    go_enter Try.func9, Try.ntmps9
    go_wp2
    go_ret
    exact ⟨rfl, rfl⟩

set_option maxHeartbeats 400000 in
theorem isHex_no (c : Int) (w : World) (h : ¬ ((48 ≤ c ∧ c ≤ 57) ∨ (97 ≤ c ∧ c ≤ 102))) :
    Calls Try.prog 9 #[.int .u8 c] w fun e w' => e = .returned (.bool false) ∧ w = w' := by
  rcases (show c < 48 ∨ (57 < c ∧ c < 97) ∨ 102 < c by omega) with h1 | ⟨h1, h2⟩ | h1
  · clear h
    have h2 : c < 97 := by omega
    go_enter Try.func9, Try.ntmps9
    go_wp2
    go_ret
    exact ⟨rfl, rfl⟩
  · clear h
    have h3 : 48 ≤ c := by omega
    have d1 : decide (c ≤ 57) = false := decide_eq_false (by omega)
    go_enter Try.func9, Try.ntmps9
    go_wp2
    go_ret
    exact ⟨rfl, rfl⟩
  · clear h
    have h3 : 48 ≤ c := by omega
    have h4 : 57 < c := by omega
    have h5 : 97 ≤ c := by omega
    have d1 : decide (c ≤ 57) = false := decide_eq_false (by omega)
    have d2 : decide (c ≤ 102) = false := decide_eq_false (by omega)
    go_enter Try.func9, Try.ntmps9
    go_wp2
    go_ret
    exact ⟨rfl, rfl⟩

theorem isHex_any (c : Int) (w : World) :
    Calls Try.prog 9 #[.int .u8 c] w fun e w' => e = .returned (.bool (hx c)) ∧ w = w' := by
  by_cases h : (48 ≤ c ∧ c ≤ 57) ∨ (97 ≤ c ∧ c ≤ 102)
  · rw [hx_yes h]; exact isHex_yes c w h
  · rw [hx_no h]; exact isHex_no c w h

theorem take_snoc (s : ByteArray) (k : Nat) (h : k < s.size) : s.data.toList.take (k + 1) = s.data.toList.take k ++ [s[k]] := by
  rw [List.take_succ_eq_append_getElem (by simpa using h)]; rfl

theorem allHex_take_snoc (s : ByteArray) (k : Nat) (h : k < s.size) (ha : allHex (s.data.toList.take k) = true) (hc : hx ((s[k]'h).toNat : Int) = true) :
    allHex (s.data.toList.take (k + 1)) = true := by
  rw [take_snoc s k h]; unfold allHex at *; rw [List.all_append, ha]; simp [hx8, hc]

theorem allHex_hit (s : ByteArray) (k : Nat) (h : k < s.size) (hc : hx ((s[k]'h).toNat : Int) = false) : allHex s.data.toList = false := by
  unfold allHex
  rw [List.all_eq_false]
  exact ⟨s[k], by simp [ByteArray.getElem_eq_getElem_data], by simp [hx8, hc]⟩

theorem iter_below (w : World) (s : ByteArray) (pos : Nat) : Below w.heap.size w (w.iter s pos) := (Below.refl _ _).alloc (Nat.le_refl _) _

set_option maxHeartbeats 1000000 in
set_option maxRecDepth 100000 in
theorem lowerHex_any (s : ByteArray) (w : World) :
    Calls Try.prog 10 #[.string s] w fun e w' => e = .returned (.bool (allHex s.data.toList)) ∧ Below w.heap.size w w' := by
  go_enter Try.func10, Try.ntmps10
  go_wp2
  go_loopw [4] (fun _ w' => ∃ pos : Nat, pos ≤ s.size ∧ w' = w.iter s pos ∧ allHex (s.data.toList.take pos) = true) (fun _ w' => s.size - w'.iterPos w.heap.size)
  case atStart => exact ⟨0, Nat.zero_le _, rfl, rfl⟩
  case round =>
    obtain ⟨pos, hle, rfl, ha⟩ := hrel
    have HA : Hid (allHex (s.data.toList.take pos) = true) := ha
    clear ha
    by_cases hp : pos < s.size
    · by_cases hc : hx ((s[pos]'hp).toNat : Int) = true
      · have h128 : (s[pos]'hp).toNat < 128 := by
          unfold hx at hc; have := of_decide_eq_true hc; omega
        have hnx : ∀ ty, (Instr.next (.pointer (some ⟨w.heap.size, 0, none⟩)) true ty).run Try.prog (w.iter s pos) = _ := fun ty => run_next_ascii w s pos ty hp h128
        have HN : Hid (allHex (s.data.toList.take (pos + 1)) = true) := allHex_take_snoc s pos hp HA.out hc
        have hr := of_decide_eq_true hc
        clear hc HA
        rcases hr with ⟨h1, h2⟩ | ⟨h1, h2⟩
        · go_wp2
          go_roundw
          case rel => exact ⟨pos + 1, by omega, rfl, HN.out⟩
          case measure => simp; omega
        · have h3 : (57 : Int) < ((s[pos]'hp).toNat : Int) := by omega
          go_wp2
          go_roundw
          case rel => exact ⟨pos + 1, by omega, rfl, HN.out⟩
          case measure => simp; omega
      · have hc' : hx ((s[pos]'hp).toNat : Int) = false := by simpa using hc
        have HF : Hid (allHex s.data.toList = false) := allHex_hit s pos hp hc'
        have hr : ¬ ((48 ≤ (((Utf8.decode s pos).1 : Nat) : Int) ∧ (((Utf8.decode s pos).1 : Nat) : Int) ≤ 57) ∨ (97 ≤ (((Utf8.decode s pos).1 : Nat) : Int) ∧ (((Utf8.decode s pos).1 : Nat) : Int) ≤ 102)) := by
          by_cases h128 : (s[pos]'hp).toNat < 128
          · rw [decode_ascii s pos hp h128]
            unfold hx at hc'; exact of_decide_eq_false hc'
          · have := (decode_high s pos hp (by omega)).1; omega
        have hnx : ∀ ty, (Instr.next (.pointer (some ⟨w.heap.size, 0, none⟩)) true ty).run Try.prog (w.iter s pos) = _ := fun ty => run_next_any w s pos ty hp
        obtain ⟨r, hr0⟩ : ∃ r : Int, r = (((Utf8.decode s pos).1 : Nat) : Int) := ⟨_, rfl⟩
        obtain ⟨wd, hwd⟩ : ∃ n : Nat, n = (Utf8.decode s pos).2 := ⟨_, rfl⟩
        rw [← hr0, ← hwd] at hnx
        rw [← hr0] at hr
        clear hr0 hwd hc hc' HA
        rcases (show r < 48 ∨ (57 < r ∧ r < 97) ∨ 102 < r by omega) with h1 | ⟨h1, h2⟩ | h1
        · have h2 : r < 97 := by omega
          clear hr
          go_wp2
          go_ret
          exact ⟨by rw [HF.out]; rfl, iter_below _ _ _⟩
        · have h3 : 48 ≤ r := by omega
          clear hr
          go_wp2
          go_ret
          exact ⟨by rw [HF.out]; rfl, iter_below _ _ _⟩
        · have h3 : 48 ≤ r := by omega
          have h4 : 57 < r := by omega
          have h5 : 97 ≤ r := by omega
          clear hr
          go_wp2
          go_ret
          exact ⟨by rw [HF.out]; rfl, iter_below _ _ _⟩
    · have hnx : ∀ ty, (Instr.next (.pointer (some ⟨w.heap.size, 0, none⟩)) true ty).run Try.prog (w.iter s pos) = _ := fun ty => run_next_end w s pos ty hp
      have HF : Hid (allHex s.data.toList = true) := by
        have := HA.out
        rwa [List.take_of_length_le (by simp; omega)] at this
      go_wp2
      go_ret
      exact ⟨by rw [HF.out]; rfl, iter_below _ _ _⟩

theorem zzHex_any (s : ByteArray) (w : World) :
    Calls Try.prog 6 #[.string s] w fun e w' => e = .returned (.bool (allHex s.data.toList)) ∧ Below w.heap.size w w' := by
  go_enter Try.func6, Try.ntmps6
  go_wp2_with (go_at_call 10; refine (lowerHex_any s _).mono ?_; rintro e w' ⟨rfl, hb⟩)
  go_ret
  exact ⟨rfl, hb⟩

theorem bytesCut_any (s : ByteArray) (i : Int) (w : World) (hs : s.size ≤ 1048576) :
    Calls Try.prog 5 #[.string s, .int .i64 i] w fun e w' => e = .returned (.bool true) ∧ w = w' := by
  go_enter Try.func5, Try.ntmps5
  go_wp2
  go_ret
  exact ⟨rfl, rfl⟩
theorem bytesCut_no (s : ByteArray) (i : Int) (w : World) (hs : 1048576 < s.size) :
    Calls Try.prog 5 #[.string s, .int .i64 i] w fun e w' => e = .returned (.bool false) ∧ w = w' := by
  go_enter Try.func5, Try.ntmps5
  go_wp2
  go_ret
  exact ⟨rfl, rfl⟩
theorem bytesIns_any (s : ByteArray) (i c : Int) (w : World) (hs : s.size ≤ 1048576) :
    Calls Try.prog 8 #[.string s, .int .i64 i, .int .u8 c] w fun e w' => e = .returned (.bool true) ∧ w = w' := by
  go_enter Try.func8, Try.ntmps8
  go_wp2
  go_ret
  exact ⟨rfl, rfl⟩
theorem bytesIns_no (s : ByteArray) (i c : Int) (w : World) (hs : 1048576 < s.size) :
    Calls Try.prog 8 #[.string s, .int .i64 i, .int .u8 c] w fun e w' => e = .returned (.bool false) ∧ w = w' := by
  go_enter Try.func8, Try.ntmps8
  go_wp2
  go_ret
  exact ⟨rfl, rfl⟩
end Go.Proofs.Qxb6619600a
