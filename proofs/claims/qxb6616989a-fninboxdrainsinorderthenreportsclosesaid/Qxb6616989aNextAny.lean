/-
  Seat b6616989a: (*inbox).next at every queue that the laws meet, and ZZinboxNext.
-/
import Derived.Test.Qxb6616989aNextWalk
namespace Go.Proofs.Qxb6616989a
open Go.RowKit Go.MuLone
attribute [local go_sem ↓] Go.wp_at_zero Go.wp_at_succ

theorem next_any (base B c1 c2 : Nat) (w : World) (v : Value) (ys : List (Addr × Int)) (held q : Int) (a : Addr) (cl ctx : Value) (h : IB base B c1 c2 w v ((a, q) :: ys) held cl)
    (hn2 : ys.length ≤ 1000000) (h1 : 0 ≤ held) (h2 : held ≤ 4611686018427387904) (q1 : 0 ≤ q) (q2 : q ≤ 1073741824) :
    Calls Try.prog 14 #[.pointer (some ⟨B, 0, none⟩), ctx] w fun e w' => e = .returned (.tuple #[.agg #[.nilIface, .iface 57 (.pointer (some a))], .nilIface]) ∧
      (∃ v', IB base B c1 c2 w' v' ys (held - q) cl) ∧ Frm base w w' := by
  have hne := h.ne
  rcases h.items with ⟨_, e⟩ | ⟨g, off, cap, cur, rfl, i1, i2, i3, i4, i5⟩
  · cases e
  · have hgB : g ≠ B := fun e => hne (by rw [← e]; rfl)
    simp only [List.length_cons] at i1 h
    by_cases hc : cap = 1
    · obtain rfl : ys = [] := List.length_eq_zero_iff.1 (by omega)
      subst hc
      exact (next_last base B c1 c2 w g off cur held q a cl ctx h hgB i2 i3 i4 i5 h1 h2 q1 q2).mono fun e w' ⟨he, hi, hf⟩ => ⟨he, ⟨_, hi⟩, hf⟩
    · exact (next_more base B c1 c2 w g off cap cur ys held q a cl ctx h hgB i2 i3 i1 i4 i5 hn2 h1 h2 q1 q2 (by omega)).mono fun e w' ⟨he, hi, hf⟩ => ⟨he, ⟨_, hi⟩, hf⟩

/-- The lock taken and given back. -/
theorem relock {base B c1 c2 : Nat} {w : World} {v : Value} {xs : List (Addr × Int)} {held : Int} {cl : Value} (h : IB base B c1 c2 w v xs held cl) :
    IB base B c1 c2 ((w.setCell ⟨B, 0, none⟩ (.int .i32 1)).setCell ⟨B, 0, none⟩ (.int .i32 0)) v xs held cl ∧ Frm base w ((w.setCell ⟨B, 0, none⟩ (.int .i32 1)).setCell ⟨B, 0, none⟩ (.int .i32 0)) ∧
      (w.setCell ⟨B, 0, none⟩ (.int .i32 1)).cell? ⟨B, 0, none⟩ = some (.int .i32 1) ∧ (w.setCell ⟨B, 0, none⟩ (.int .i32 1)).frozen? ⟨B, 0, none⟩ = false := by
  have b1 := heap_setCell_same w B 0 _ 44 (.int .i32 1) h.blk
  have b2 := heap_setCell_same _ B 0 _ 44 (.int .i32 0) b1
  have ho : ∀ k, k ≠ B → ((w.setCell ⟨B, 0, none⟩ (.int .i32 1)).setCell ⟨B, 0, none⟩ (.int .i32 0)).heap[k]? = w.heap[k]? := fun k hk => by
    rw [heap_setCell_other _ _ _ _ hk, heap_setCell_other _ _ _ _ hk]
  refine ⟨⟨b2, h.items.kept fun k cs hc => ho k (fun e => ?_), h.room.kept (ho c2 h.cne.2), h.hB, h.hc⟩, (frm_set h.blk h.hB 0 _).trans (frm_set b1 h.hB 0 _), by rw [cell_of_row _ B 0 _ _ _ b1]; rfl, frozen_of_row _ B 0 _ _ b1⟩
  subst e
  rw [h.blk] at hc
  simp at hc

theorem one_alloc_cell (X : World) (R : Obj) (a : Addr) (h : a.block < X.heap.size) : (X.alloc R).cell? a = X.cell? a := World.cell?_of_block (w := X) (Below.heap_alloc X R a.block h)
theorem one_alloc_frozen (X : World) (R : Obj) (a : Addr) (h : a.block < X.heap.size) : (X.alloc R).frozen? a = X.frozen? a := World.frozen?_of_block (w := X) (Below.heap_alloc X R a.block h)

set_option maxHeartbeats 2000000 in
theorem next_closed (base B c1 c2 : Nat) (w : World) (v : Value) (held : Int) (b : Addr) (ctx : Value) (h : IB base B c1 c2 w v [] held (.iface 57 (.pointer (some b)))) :
    Calls Try.prog 14 #[.pointer (some ⟨B, 0, none⟩), ctx] w fun e w' => e = .returned (.tuple #[.agg #[.nilIface, .nilIface], .iface 57 (.pointer (some b))]) ∧
      IB base B c1 c2 w' v [] held (.iface 57 (.pointer (some b))) ∧ Frm base w w' := by
  have hb0 : base ≤ w.heap.size := Nat.le_of_lt (Nat.lt_of_le_of_lt h.hB h.lt)
  obtain ⟨ao, cap, hv⟩ := h.items.form
  subst hv
  obtain ⟨k0, k2, k3, k4, k7, kf⟩ := h.cell
  have hlt := h.lt
  go_enter Try.func14, Try.ntmps14
  go_wp2_with fail
  refine wp_loop_rounds 1 ?_
  rw [rounds_succ]
  go_wp2_with fail
  refine (lock_free muLib ⟨B, 0, none⟩ _ ((World.cell?_of_block (Below.heap_alloc _ _ _ hlt)).trans k0) ((World.frozen?_of_block (Below.heap_alloc _ _ _ hlt)).trans (kf 0))).mono ?_
  rintro e w' ⟨rfl, rfl⟩
  go_wp2_with fail
  obtain ⟨P1, P2, P3, P4⟩ := relock h
  refine (unlock_held muLib ⟨B, 0, none⟩ _ ?_ ?_).mono ?_
  · exact (one_alloc_cell _ _ _ (by show B < _; simp [World.setCell]; omega)).trans P3
  · exact (one_alloc_frozen _ _ _ (by show B < _; simp [World.setCell]; omega)).trans P4
  rintro e w' ⟨rfl, rfl⟩
  go_wp2_with fail
  refine bodyPost_ret (v := .tuple #[.agg #[.nilIface, .nilIface], .iface 57 (.pointer (some b))]) (by simp [results, Try.results14, go_sem]) rfl ⟨rfl, P1.alloc _, P2.trans (frm_alloc base _ _ (by simp [World.setCell]; omega))⟩

theorem bg_any (w : World) : Calls Try.prog 15 #[] w fun e w' => e = .returned (.iface 66 (.agg #[])) ∧ w = w' := by
  have hbd : ∀ w : World, (Instr.build 66 #[]).run Try.prog w = .ok (.agg #[]) w := fun w => by kernel_rfl
  go_enter Try.func15, Try.ntmps15
  go_wp2_with fail
  go_ret
  exact ⟨rfl, rfl⟩

set_option maxHeartbeats 1000000 in
theorem zzNext_some (base B c1 c2 : Nat) (w : World) (v : Value) (ys : List (Addr × Int)) (held q : Int) (a : Addr) (cl : Value) (h : IB base B c1 c2 w v ((a, q) :: ys) held cl)
    (hn2 : ys.length ≤ 1000000) (h1 : 0 ≤ held) (h2 : held ≤ 4611686018427387904) (q1 : 0 ≤ q) (q2 : q ≤ 1073741824) :
    Calls Try.prog 9 #[.pointer (some ⟨B, 0, none⟩)] w fun e w' => e = .returned (.tuple #[.iface 57 (.pointer (some a)), .nilIface]) ∧ (∃ v', IB base B c1 c2 w' v' ys (held - q) cl) ∧ Frm base w w' := by
  go_enter Try.func9, Try.ntmps9
  go_wp2_with (go_at_call 15; refine (bg_any _).mono ?_; rintro e w' ⟨rfl, rfl⟩)
  refine (next_any base B c1 c2 w v ys held q a cl _ h hn2 h1 h2 q1 q2).mono ?_
  rintro e w1 ⟨rfl, ⟨v', hi⟩, hf⟩
  have hb1 : base ≤ w1.heap.size := Nat.le_of_lt (Nat.lt_of_le_of_lt hi.hB hi.lt)
  go_wp2_with fail
  go_ret2
  exact ⟨rfl, ⟨v', hi.alloc _⟩, hf.trans (frm_alloc base _ _ hb1)⟩

set_option maxHeartbeats 1000000 in
theorem zzNext_closed (base B c1 c2 : Nat) (w : World) (v : Value) (held : Int) (b : Addr) (h : IB base B c1 c2 w v [] held (.iface 57 (.pointer (some b)))) :
    Calls Try.prog 9 #[.pointer (some ⟨B, 0, none⟩)] w fun e w' => e = .returned (.tuple #[.nilIface, .iface 57 (.pointer (some b))]) ∧ IB base B c1 c2 w' v [] held (.iface 57 (.pointer (some b))) ∧ Frm base w w' := by
  go_enter Try.func9, Try.ntmps9
  go_wp2_with (go_at_call 15; refine (bg_any _).mono ?_; rintro e w' ⟨rfl, rfl⟩)
  refine (next_closed base B c1 c2 w v held b _ h).mono ?_
  rintro e w1 ⟨rfl, hi, hf⟩
  have hb1 : base ≤ w1.heap.size := Nat.le_of_lt (Nat.lt_of_le_of_lt hi.hB hi.lt)
  go_wp2_with fail
  go_ret2
  exact ⟨rfl, hi.alloc _, hf.trans (frm_alloc base _ _ hb1)⟩
end Go.Proofs.Qxb6616989a
