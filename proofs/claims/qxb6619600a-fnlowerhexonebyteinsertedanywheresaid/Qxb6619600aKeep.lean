/-
  The walk of keepLowerHexBytes: what is kept is the list of the hex bytes, in order.
-/
import Derived.Test.Qxb6619600aHex
import Derived.Laws.IdiomStrings
namespace Go.Proofs.Qxb6619600a
open Go.RowKit

theorem Try.info5 : (Try.prog.info? 5).map (fun i => (i.zero, i.size, i.bytes)) = some (some (.int .u8 0), 1, 1) := by kernel_rfl

/-- The bytes kept of the first k. -/
def keptK (s : ByteArray) (k : Nat) : List UInt8 := (s.data.toList.take k).filter hx8
def asCells (l : List UInt8) : List Value := l.map fun c => Value.int .u8 (c.toNat : Int)

theorem keptK_zero (s : ByteArray) : keptK s 0 = [] := rfl
theorem keptK_len (s : ByteArray) (k : Nat) : (keptK s k).length ≤ k := by
  unfold keptK
  exact Nat.le_trans (List.length_filter_le _ _) (List.length_take_le _ _)
theorem keptK_hit (s : ByteArray) (k : Nat) (h : k < s.size) (hc : hx ((s[k]'h).toNat : Int) = true) : keptK s (k + 1) = keptK s k ++ [s[k]] := by
  unfold keptK
  rw [take_snoc s k h, List.filter_append]
  simp [hx8, hc]
theorem keptK_miss (s : ByteArray) (k : Nat) (h : k < s.size) (hc : hx ((s[k]'h).toNat : Int) = false) : keptK s (k + 1) = keptK s k := by
  unfold keptK
  rw [take_snoc s k h, List.filter_append]
  simp [hx8, hc]
theorem keptK_all (s : ByteArray) (k : Nat) (h : ¬ k < s.size) : keptK s k = s.data.toList.filter hx8 := by
  unfold keptK
  rw [List.take_of_length_le (by simp; omega)]

theorem conv_kept (w : World) (B g cap : Nat) (l : List UInt8) (h : w.ownsRow B 5 1 (.slice (some ⟨g, 0, none⟩) l.length cap) l.length (asCells l)) :
    (convert 26 9 (.slice (some ⟨g, 0, none⟩) l.length cap)).run Try.prog w = .ok (.string ⟨l.toArray⟩) w := by
  refine run_convert_bytes_back w 26 9 5 _ cap l Try.underlying26 Try.underlying5 Try.underlying9 (fun j hj => ?_)
  have := h.cellAt j (by omega)
  rw [show (asCells l)[j]? = some (.int .u8 (l[j].toNat : Int)) by simp [asCells, List.getElem?_eq_getElem hj]] at this
  have e : (⟨g, 0, none⟩ : Addr).add j = ⟨g, j, none⟩ := by unfold Addr.add; split <;> simp_all
  rw [e]
  exact this

set_option maxHeartbeats 1000000 in
set_option maxRecDepth 100000 in
theorem keep_any (s : ByteArray) (w : World) (hs : s.size ≤ 2097152) :
    Calls Try.prog 7 #[.string s] w fun e w' => e = .returned (.string ⟨(s.data.toList.filter hx8).toArray⟩) ∧ Below w.heap.size w w' := by
  obtain ⟨i0, hi, hz0, hz1, hz2⟩ := info_parts Try.info5
  go_enter Try.func7, Try.ntmps7
  go_wp2_with (at_make; refine wpList_make_own _ rfl _ _ 26 rfl w.heap.size 5 i0 (.int .u8 0) 1 Try.underlying26 hi hz0 hz1 _ _ _ s.size rfl rfl (by omega) ?b2 ?b3 (Nat.le_refl _) ?_)
  case b2 => rw [hz2]; omega
  case b3 => unfold maxLen; omega
  intro w0 hown0 hgrow0
  go_wp2
  go_loopw [3, 4] (fun out sj wr => ∃ k : Nat, k ≤ s.size ∧ sj = .int .i64 k ∧ out = .slice (some ⟨w.heap.size, 0, none⟩) (keptK s k).length s.size ∧
      wr.ownsRow w.heap.size 5 1 (.slice (some ⟨w.heap.size, 0, none⟩) (keptK s k).length s.size) (keptK s k).length (asCells (keptK s k)) ∧ Below w.heap.size w wr)
    (fun _ sj _ => s.size - (intOf sj).toNat)
  case atStart => exact ⟨0, Nat.zero_le _, rfl, rfl, hown0, (Below.refl _ _).grown hgrow0 (Nat.le_refl _) (fun k h => by cases h)⟩
  case round =>
    obtain ⟨k, hk, rfl, rfl, hown, hnx⟩ := hrel
    have hlen := keptK_len s k
    by_cases hlt : k < s.size
    · by_cases hc : hx ((s[k]'hlt).toNat : Int) = true
      · have HK : Hid (keptK s (k + 1) = keptK s k ++ [s[k]]) := keptK_hit s k hlt hc
        go_wp2_with (first
          | (go_at_call 9; refine (isHex_any _ _).mono ?_; rintro e w' ⟨rfl, rfl⟩)
          | (at_builtin; refine wpList_append_fits _ rfl (.tmp 18) (.tmp 22) 26 rfl w.heap.size 5 i0 1 Try.underlying26 hi hz1 w.heap.size (keptK s k).length s.size _ rfl (hown.alloc _) ⟨wr.heap.size, 0, none⟩ 1 1 [.int .u8 ((s[k]'hlt).toNat : Int)] rfl rfl (cell_one_new _ _ _) (by intro u hu; simp at hu; subst hu; rfl) (by omega) ?_; intro w1 hown1 hgrow1))
        go_roundw
        case rel => 
          refine ⟨k + 1, by omega, by go_num, ?_, ?_, ?_⟩
          · rw [HK.out]; simp
          · rw [HK.out]; simpa [asCells] using hown1
          · exact (hnx.alloc hnx.size _).grown hgrow1 (by simp; have := hnx.size; omega) (fun k hk => by cases hk; exact Nat.le_refl _)
        case measure => simp [intOf]; omega
      · have hc' : hx ((s[k]'hlt).toNat : Int) = false := by simpa using hc
        have HK : Hid (keptK s (k + 1) = keptK s k) := keptK_miss s k hlt hc'
        clear hc
        go_wp2_with (go_at_call 9; refine (isHex_any _ _).mono ?_; rintro e w' ⟨rfl, rfl⟩)
        go_roundw
        case rel => exact ⟨k + 1, by omega, by go_num, by rw [HK.out], by rw [HK.out]; exact hown, hnx⟩
        case measure => simp [intOf]; omega
    · have hcv := conv_kept wr w.heap.size w.heap.size s.size (keptK s k) hown
      have HE : Hid (keptK s k = s.data.toList.filter hx8) := keptK_all s k hlt
      go_wp2
      go_ret
      exact ⟨by rw [← HE.out]; rfl, hnx⟩
end Go.Proofs.Qxb6619600a
