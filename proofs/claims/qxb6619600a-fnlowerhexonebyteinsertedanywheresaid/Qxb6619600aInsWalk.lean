/-
  The walk of FnLowerHexOneByteInsertedAnywhere.
-/
import Derived.Test.Qxb6619600aPlain
namespace Go.Proofs.Qxb6619600a
open Go.RowKit

theorem bstep2 {w a b : World} (h : Below w.heap.size w a) (k : Below a.heap.size a b) : Below w.heap.size w b := h.trans (k.mono h.size)

theorem conv_one (W : World) (b : Nat) (c : UInt8) (h : W.cell? ⟨b, 0, none⟩ = some (.int .u8 (c.toNat : Int))) :
    (convert 26 9 (.slice (some ⟨b, 0, none⟩) 1 1)).run Try.prog W = .ok (.string ⟨#[c]⟩) W := by
  refine run_convert_bytes_back W 26 9 5 _ 1 [c] Try.underlying26 Try.underlying5 Try.underlying9 (fun j hj => ?_)
  obtain rfl : j = 0 := by simp at hj; omega
  exact h

theorem insOk (s : ByteArray) (n : Nat) (c : UInt8) :
    okHex (s.extract 0 n ++ { data := #[c] } ++ s.extract n s.size) = (okHex s && hx (c.toNat : Int)) := by
  rw [okHex_cut s n]
  unfold okHex
  rw [ByteArray.data_append, ByteArray.data_append, Array.toList_append, Array.toList_append, allHex_append, allHex_append]
  have e : allHex [c] = hx (c.toNat : Int) := by simp [allHex, hx8]
  show ((_ && allHex [c]) && _) = _
  rw [e]
  ac_rfl

theorem insSize (s : ByteArray) (n : Nat) (c : UInt8) (hn : n ≤ s.size) :
    (s.extract 0 n ++ { data := #[c] } ++ s.extract n s.size).size = s.size + 1 := by
  rw [ByteArray.size_append, ByteArray.size_append, ByteArray.size_extract, ByteArray.size_extract]
  show _ + 1 + _ = _
  omega

set_option maxHeartbeats 1000000 in
theorem ins_core (s : ByteArray) (n : Nat) (c : UInt8) (w : World) (hs : s.size ≤ 1048576) (hn : n ≤ s.size) (n0 : (0 : Int) ≤ n) (A C : Bool)
    (hA : okHex s = A) (hC : hx (c.toNat : Int) = C) (hG : okHex (s.extract 0 n ++ { data := #[c] } ++ s.extract n s.size) = (A && C))
    (hk : okHex (keptOf (s.extract 0 n ++ { data := #[c] } ++ s.extract n s.size)) = true)
    (hz : (s.extract 0 n ++ { data := #[c] } ++ s.extract n s.size).size ≤ 2097152) :
    Calls Try.prog 4 #[.string s, .int .i64 n, .int .u8 (c.toNat : Int)] w fun e w' => e = .returned (.bool true) ∧ Below w.heap.size w w' := by
  have HZ : Hid ((s.extract 0 n ++ { data := #[c] } ++ s.extract n s.size).size ≤ 2097152) := hz
  clear hz
  have hb := Below.refl w.heap.size w
  have hb0 : Below w.heap.size w (w.alloc (Obj.cells #[Value.int IntKind.u8 ↑c.toNat] 5)).drew := ((Below.refl _ _).alloc (Nat.le_refl _) _).drew
  have HB0 : Hid (Below w.heap.size w (w.alloc (Obj.cells #[Value.int IntKind.u8 ↑c.toNat] 5)).drew) := hb0
  clear hb0
  have z1 : (s.extract 0 n).size = n := by simp; omega
  have z2 : (s.extract n s.size).size = s.size - n := by simp
  have hcv := fun (W : World) (b : Nat) (h : W.cell? ⟨b, 0, none⟩ = some (.int .u8 (c.toNat : Int))) => conv_one W b c h
  cases A <;> cases C <;> simp only [Bool.true_and, Bool.false_and] at hG
  all_goals
    go_enter Try.func4, Try.ntmps4
    go_wp2_with (first
      | (go_at_call 8; refine (bytesIns_any _ _ _ _ hs).mono ?_; rintro e w' ⟨rfl, rfl⟩))
    go_region
    have hb := HB0.out
    go_wp2_with (first
      | (go_at_call 6; refine (zzHex_ok _ _).mono ?_; rintro e w' ⟨rfl, hb'⟩; have hb := bstep2 (by assumption) hb'; clear hb')
      | (go_at_call 9; refine (isHex_any _ _).mono ?_; rintro e w' ⟨rfl, rfl⟩)
      | (go_at_call 7; refine (keep_ok _ _ HZ.out).mono ?_; rintro e w' ⟨rfl, hb'⟩; have hb := bstep2 (by assumption) hb'; clear hb'))
    go_ret
    exact ⟨rfl, hb⟩

theorem ins_in (s : ByteArray) (n : Nat) (c : UInt8) (w : World) (hs : s.size ≤ 1048576) (hn : n ≤ s.size) :
    Calls Try.prog 4 #[.string s, .int .i64 n, .int .u8 (c.toNat : Int)] w fun e w' => e = .returned (.bool true) ∧ Below w.heap.size w w' :=
  ins_core s n c w hs hn (by omega) _ _ rfl rfl (insOk s n c) (keptOf_ok _) (by rw [insSize s n c hn]; omega)

set_option maxHeartbeats 1000000 in
theorem ins_out (s : ByteArray) (i c : Int) (w : World) (hs : s.size ≤ 1048576) (hi : i < 0 ∨ (s.size : Int) < i) :
    Calls Try.prog 4 #[.string s, .int .i64 i, .int .u8 c] w fun e w' => e = .returned (.bool true) ∧ Below w.heap.size w w' := by
  have hb := Below.refl w.heap.size w
  rcases hi with hi | hi
  · go_enter Try.func4, Try.ntmps4
    go_wp2_with (go_at_call 8; refine (bytesIns_any _ _ _ _ hs).mono ?_; rintro e w' ⟨rfl, rfl⟩)
    go_ret
    exact ⟨rfl, hb⟩
  · have h0 : 0 ≤ i := by omega
    go_enter Try.func4, Try.ntmps4
    go_wp2_with (go_at_call 8; refine (bytesIns_any _ _ _ _ hs).mono ?_; rintro e w' ⟨rfl, rfl⟩)
    go_ret
    exact ⟨rfl, hb⟩

set_option maxHeartbeats 1000000 in
theorem ins_long (s : ByteArray) (i c : Int) (w : World) (hs : 1048576 < s.size) :
    Calls Try.prog 4 #[.string s, .int .i64 i, .int .u8 c] w fun e w' => e = .returned (.bool true) ∧ Below w.heap.size w w' := by
  have hb := Below.refl w.heap.size w
  go_enter Try.func4, Try.ntmps4
  go_wp2_with (go_at_call 8; refine (bytesIns_no _ _ _ _ hs).mono ?_; rintro e w' ⟨rfl, rfl⟩)
  go_ret
  exact ⟨rfl, hb⟩

theorem ins_any (s : ByteArray) (i c : Int) (w : World) (h0 : 0 ≤ c) (h1 : c ≤ 255) :
    Calls Try.prog 4 #[.string s, .int .i64 i, .int .u8 c] w fun e w' => e = .returned (.bool true) ∧ Below w.heap.size w w' := by
  by_cases hs : s.size ≤ 1048576
  · by_cases hi : i < 0 ∨ (s.size : Int) < i
    · exact ins_out s i c w hs hi
    · obtain ⟨n, rfl⟩ : ∃ n : Nat, i = n := ⟨i.toNat, by omega⟩
      obtain ⟨d, rfl⟩ : ∃ d : UInt8, c = (d.toNat : Int) := ⟨UInt8.ofNat c.toNat, by simp; omega⟩
      exact ins_in s n d w hs (by omega)
  · exact ins_long s i c w (by omega)
end Go.Proofs.Qxb6619600a
