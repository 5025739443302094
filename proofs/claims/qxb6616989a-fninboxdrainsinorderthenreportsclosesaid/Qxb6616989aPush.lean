/-
  Seat b6616989a: ZZinboxPush.
-/
import Derived.Test.Qxb6616989aInbox
import Derived.Deep.AppendLies
namespace Go.Proofs.Qxb6616989a
open Go.RowKit
attribute [local go_sem ↓] Go.wp_at_zero Go.wp_at_succ

theorem Items.drew {base : Nat} {w : World} {v : Value} {xs : List (Addr × Int)} (h : Items base w v xs) : Items base w.drew v xs := h
theorem news3 (w : World) (E : Obj) (a : Addr) (q : Int) : ∀ j u, (ecell (a, q))[j]? = some u →
    ((w.alloc E).alloc (.cells #[.nilIface, .iface 57 (.pointer (some a)), .int .i64 q] 51)).drew.cell? ((⟨w.heap.size + 1, 0, none⟩ : Addr).add j) = some u := by
  have e : w.heap.size + 1 = (w.alloc E).heap.size := by simp
  rw [e]
  exact World.news_of_block (w := ((w.alloc E).alloc (.cells #[.nilIface, .iface 57 (.pointer (some a)), .int .i64 q] 51)).drew) (cs := #[.nilIface, .iface 57 (.pointer (some a)), .int .i64 q]) (t := 51) (fr := (0, 0)) (heap_alloc_new (w.alloc E) _)

theorem grown_undrew {w w1 : World} {row : Option Nat} (h : w.drew.grownBy w1 row) : w.grownBy w1 row := ⟨h.os, h.tape, h.output, h.size, h.block⟩

/-- Behind the append: the inbox's block still holds the elder slice; it is stored next. -/
theorem push_step {base B c1 c2 : Nat} {w w1 : World} {v : Value} {xs ys : List (Addr × Int)} {held : Int} {cl : Value} {v' : Value} (h : IB base B c1 c2 w v xs held cl) (hI : Items base w1 v' ys) (hg : w.grownBy w1 v.ownBlock) :
    IB base B c1 c2 (w1.setCell ⟨B, 2, none⟩ v') v' ys held cl ∧ w1.cell? ⟨B, 2, none⟩ = some v ∧ w1.frozen? ⟨B, 2, none⟩ = false ∧ Frm base w (w1.setCell ⟨B, 2, none⟩ v') := by
  have hb1 := (hg.block B h.lt (Ne.symm h.ne)).trans h.blk
  have hb0 : base ≤ w.heap.size := Nat.le_of_lt (Nat.lt_of_le_of_lt h.hB h.lt)
  refine ⟨⟨heap_setCell_same w1 B 2 _ 44 v' hb1, hI.kept fun k cs hc => heap_setCell_other _ _ _ _ (fun e => ?_), (h.room.kept (hg.block c2 h.room.lt (Ne.symm h.cne.1))).kept (heap_setCell_other _ _ _ _ h.cne.2), h.hB, h.hc⟩, ?_, frozen_of_row w1 B 2 _ _ hb1, ?_⟩
  · have e' : k = B := e
    subst e'
    rw [hb1] at hc
    simp at hc
  · rw [cell_of_row w1 B 2 _ _ _ hb1]; rfl
  · refine (Frm.of_grown hg hb0 (fun k hk => ?_)).trans (frm_set hb1 h.hB 2 v')
    obtain ⟨hk1, cs, hk2⟩ := h.items.own51 k hk
    refine ⟨hk1, fun cs' fr' hc => ?_⟩
    rw [hk2] at hc
    simp at hc

set_option maxHeartbeats 2000000 in
theorem push_any (base B c1 c2 : Nat) (w : World) (v : Value) (xs : List (Addr × Int)) (held size : Int) (cl : Value) (h : IB base B c1 c2 w v xs held cl) (hlen : xs.length ≤ 1000000)
    (hh1 : 0 ≤ held) (hh2 : held ≤ 4611686018427387904) (hs1 : 1 ≤ size) (hs2 : size ≤ 1073741824) :
    Calls Try.prog 7 #[.pointer (some ⟨B, 0, none⟩), .int .i64 size] w fun e w' => e = .returned (.tuple #[]) ∧ (∃ v' a, IB base B c1 c2 w' v' (xs ++ [(a, size)]) (held + size) cl) ∧ Frm base w w' := by
  have hb0 : base ≤ w.heap.size := Nat.le_of_lt (Nat.lt_of_le_of_lt h.hB h.lt)
  obtain ⟨_, cc2, cc3, _, _, ff⟩ := h.cell
  have f2 := ff 2
  have f3 := ff 3
  obtain ⟨ao0, cap0, hv⟩ := h.items.form
  subst hv
  have HI := fun o1 o2 => ((h.items.alloc o1).alloc o2).drew
  have HB := fun o1 o2 => (h.alloc o1).alloc o2
  have d1 := fun o1 => (h.alloc o1).cell.2.1
  have d2 := fun o1 o2 => ((h.alloc o1).alloc o2).cell.2.1
  clear ff
  go_enter Try.func7, Try.ntmps7
  go_wp2_with fail
  go_region_law ((first
    | (refine step_append_items (by rfl) _ _ (by rfl) base (.slice ao0 xs.length cap0) xs (⟨w.heap.size, 0, none⟩, size) (by rfl) (HI _ _) (by simp; omega) ⟨w.heap.size + 1, 0, none⟩ 1 (by rfl) (news3 w _ _ _) hlen ?_; intro ao cap w1 hI1 hg1; have R := push_step (HB _ _) hI1 (grown_undrew hg1); have q1 := R.2.1; have q2 := R.2.2.1)
    | (go_simp; go_at_call 13; refine (errNew_any _ _).mono ?_; rintro e w' ⟨rfl, rfl⟩)))
  all_goals
    have RB := R.1
    obtain ⟨_, _, r3, _, _, rf⟩ := RB.cell
    have rf3 := rf 3
    have RF := R.2.2.2
    clear rf R q1 q2 hI1 hg1 HI HB d1 d2
    go_wp2_with fail
    go_end0
    exact ⟨rfl, ⟨_, _, RB.set 3 _ rfl rfl⟩, (((frm_alloc base w _ hb0).trans (frm_alloc base _ _ (by simp; omega))).trans RF).trans (frm_set RB.blk h.hB 3 _)⟩
end Go.Proofs.Qxb6616989a
