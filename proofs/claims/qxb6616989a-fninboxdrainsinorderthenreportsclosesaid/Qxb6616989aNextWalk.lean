/-
  Seat b6616989a: the walk of (*inbox).next where an item lies in the queue.
-/
import Derived.Test.Qxb6616989aNext
namespace Go.Proofs.Qxb6616989a
open Go.RowKit Go.MuLone
attribute [local go_sem ↓] Go.wp_at_zero Go.wp_at_succ

theorem two_alloc_cell (X : World) (R F : Obj) (a : Addr) (h : a.block < X.heap.size) : ((X.alloc R).alloc F).drew.cell? a = X.cell? a :=
  World.cell?_of_block (w := X) (((Below.heap_alloc (X.alloc R) F a.block (by simp; omega))).trans (Below.heap_alloc X R a.block h))
theorem two_alloc_frozen (X : World) (R F : Obj) (a : Addr) (h : a.block < X.heap.size) : ((X.alloc R).alloc F).drew.frozen? a = X.frozen? a :=
  World.frozen?_of_block (w := X) (((Below.heap_alloc (X.alloc R) F a.block (by simp; omega))).trans (Below.heap_alloc X R a.block h))
theorem two_alloc_heap (X : World) (R F : Obj) (n : Nat) (h : X.heap.size = n) : ((X.alloc R).alloc F).drew.heap[n]? = some R ∧ ((X.alloc R).alloc F).drew.heap[n + 1]? = some F ∧ ((X.alloc R).alloc F).drew.heap.size = n + 2 := by
  subst h
  refine ⟨(Below.heap_alloc (X.alloc R) F _ (by simp)).trans (heap_alloc_new X R), ?_, ?_⟩
  · have e : X.heap.size + 1 = (X.alloc R).heap.size := by simp
    rw [e]
    exact heap_alloc_new (X.alloc R) F
  · show (((X.heap.push R).push F)).size = _
    simp

set_option maxHeartbeats 4000000 in
theorem next_more (base B c1 c2 : Nat) (w : World) (g off cap : Nat) (cur : Array Value) (ys : List (Addr × Int)) (held q : Int) (a : Addr) (cl ctx : Value)
    (h : IB base B c1 c2 w (.slice (some ⟨g, off, none⟩) (ys.length + 1) cap) ((a, q) :: ys) held cl)
    (hgB : g ≠ B) (hbase : base ≤ g) (hg : w.heap[g]? = some (.cells cur 51 (0, 0))) (hle : ys.length + 1 ≤ cap) (hfit : off + 3 * cap ≤ cur.size) (hcells : ∀ j u, (ecells ((a, q) :: ys))[j]? = some u → cur[off + j]? = some u)
    (hn2 : ys.length ≤ 1000000) (h1 : 0 ≤ held) (h2 : held ≤ 4611686018427387904) (q1 : 0 ≤ q) (q2 : q ≤ 1073741824) (hc2 : 1 < cap) :
    Calls Try.prog 14 #[.pointer (some ⟨B, 0, none⟩), ctx] w fun e w' => e = .returned (.tuple #[.agg #[.nilIface, .iface 57 (.pointer (some a))], .nilIface]) ∧
      IB base B c1 c2 w' (.slice (some ⟨g, off + 3, none⟩) ys.length (cap - 1)) ys (held - q) cl ∧ Frm base w w' := by
  have hb0 : base ≤ w.heap.size := Nat.le_of_lt (Nat.lt_of_le_of_lt h.hB h.lt)
  have HPOP : Hid (∀ X, X = popX w B g off (.slice (some ⟨g, off + 3, none⟩) ys.length (cap - 1)) (held - q) → _) := fun X hX => pop_IB h hgB hbase hg hle hfit hcells (off + 3) (.inr rfl) (held - q) X hX
  obtain ⟨k0, k2, k3, _, k7, kf⟩ := h.cell
  have hlt := h.lt
  have hglt : g < w.heap.size := lt_of_block hg
  have e0 : w.cell? ⟨g, off, none⟩ = some .nilIface := by rw [cell_of_row w g off _ _ _ hg]; exact hcells 0 _ (by simp [ecells, ecell])
  have e1 : w.cell? ⟨g, off + 1, none⟩ = some (.iface 57 (.pointer (some a))) := by rw [cell_of_row w g _ _ _ _ hg]; exact hcells 1 _ (by simp [ecells, ecell])
  have e2 : w.cell? ⟨g, off + 2, none⟩ = some (.int .i64 q) := by rw [cell_of_row w g _ _ _ _ hg]; exact hcells 2 _ (by simp [ecells, ecell])
  have ef : ∀ j, w.frozen? ⟨g, j, none⟩ = false := fun j => frozen_of_row w g j _ _ hg
  clear hcells hfit
  have hc1 : ¬ cap = 1 := by omega
  go_enter Try.func14, Try.ntmps14
  go_wp2_with fail
  refine wp_loop_rounds 1 ?_
  rw [rounds_succ]
  go_wp2_with fail
  refine (lock_free muLib ⟨B, 0, none⟩ _ ((World.cell?_of_block (Below.heap_alloc _ _ _ hlt)).trans k0) ((World.frozen?_of_block (Below.heap_alloc _ _ _ hlt)).trans (kf 0))).mono ?_
  rintro e w' ⟨rfl, rfl⟩
  go_wp2_with fail
  go_region
  go_wp2_with fail
  obtain ⟨X, hX⟩ : ∃ X, X = (((((w.setCell ⟨B, 0, none⟩ (.int .i32 1)).setCell ⟨g, off, none⟩ .nilIface).setCell ⟨g, off + 1, none⟩ .nilIface).setCell ⟨g, off + 2, none⟩ (.int .i64 0)).setCell ⟨B, 2, none⟩ (.slice (some ⟨g, off + 3, none⟩) ys.length (cap - 1))).setCell ⟨B, 3, none⟩ (.int .i64 (held - q)) := ⟨_, rfl⟩
  rw [← hX]
  obtain ⟨P1, P2, P3, P4, P5⟩ := HPOP.out X hX
  clear hX HPOP
  refine (unlock_held muLib ⟨B, 0, none⟩ _ ?_ ?_).mono ?_
  · exact (two_alloc_cell X _ _ _ (by show B < _; omega)).trans P3
  · exact (two_alloc_frozen X _ _ _ (by show B < _; omega)).trans P4
  rintro e w' ⟨rfl, rfl⟩
  have x7 : X.cell? ⟨B, 7, none⟩ = some (.chan (some c2)) := by
    have := P1.cell.2.2.2.2.1
    rw [World.cell?_setCell_other _ _ _ _ (by simp)] at this
    exact this
  have IB6 := fun R F => ((P1.alloc R).alloc F).drew
  have d7 := fun R F => (IB6 R F).cell.2.2.2.2.1
  clear k0 k2 k3 k7 kf e0 e1 e2 ef
  go_wp2_with fail
  refine (wake_any c2 _ (IB6 _ _).room).mono ?_
  rintro e w7 ⟨rfl, hch, hg7⟩
  obtain ⟨I7, F7⟩ := (IB6 _ _).woke hch hg7
  obtain ⟨t1, t2, t3⟩ := two_alloc_heap (X.setCell ⟨B, 0, none⟩ (.int .i32 0)) (.cells #[.nilIface, .nilIface] 49) (.cells #[.nilIface, .iface 57 (.pointer (some a)), .int .i64 q] 51) w.heap.size (by simp [World.setCell]; exact P5)
  have hclt := h.room.lt
  have r1 := (hg7.block w.heap.size (by rw [t3]; omega) (by simp; omega)).trans t1
  have r2 := (hg7.block (w.heap.size + 1) (by rw [t3]; omega) (by simp; omega)).trans t2
  have rr0 : w7.cell? ⟨w.heap.size, 0, none⟩ = some .nilIface := by rw [cell_of_row w7 _ 0 _ _ _ r1]; rfl
  have rr1 : w7.cell? ⟨w.heap.size, 1, none⟩ = some .nilIface := by rw [cell_of_row w7 _ 1 _ _ _ r1]; rfl
  have s0 : w7.cell? ⟨w.heap.size + 1, 0, none⟩ = some .nilIface := by rw [cell_of_row w7 _ 0 _ _ _ r2]; rfl
  have s1 : w7.cell? ⟨w.heap.size + 1, 1, none⟩ = some (.iface 57 (.pointer (some a))) := by rw [cell_of_row w7 _ 1 _ _ _ r2]; rfl
  have rf0 := frozen_of_row w7 w.heap.size 0 _ _ r1
  have rf1 := frozen_of_row w7 w.heap.size 1 _ _ r1
  have r1' := heap_setCell_same w7 w.heap.size 0 _ 49 .nilIface r1
  have IF := (I7.other r1 (by omega) (by omega) 0 .nilIface).other r1' (by omega) (by omega) 1 (.iface 57 (.pointer (some a)))
  have FF := (((P2.trans ((frm_alloc base _ (.cells #[.nilIface, .nilIface] 49) (by simp [World.setCell]; omega)).trans (frm_alloc base _ (.cells #[.nilIface, .iface 57 (.pointer (some a)), .int .i64 q] 51) (by simp [World.setCell]; omega)))).drew.trans F7).trans (frm_setT r1 (by omega) hb0 0 .nilIface)).trans (frm_setT r1' (by omega) hb0 1 (.iface 57 (.pointer (some a))))
  clear hch hg7 I7 F7 t1 t2 t3 IB6 d7 x7 P1 P2 P3 P4 P5 r1 r2 r1'
  go_wp2_with fail
  refine bodyPost_ret (v := .tuple #[.agg #[.nilIface, .iface 57 (.pointer (some a))], .nilIface]) (by simp [results, Try.results14, go_sem, rr0, rr1]) rfl ⟨rfl, IF, FF⟩

set_option maxHeartbeats 4000000 in
theorem next_last (base B c1 c2 : Nat) (w : World) (g off : Nat) (cur : Array Value) (held q : Int) (a : Addr) (cl ctx : Value)
    (h : IB base B c1 c2 w (.slice (some ⟨g, off, none⟩) 1 1) [(a, q)] held cl)
    (hgB : g ≠ B) (hbase : base ≤ g) (hg : w.heap[g]? = some (.cells cur 51 (0, 0))) (hfit : off + 3 * 1 ≤ cur.size) (hcells : ∀ j u, (ecells [(a, q)])[j]? = some u → cur[off + j]? = some u)
    (h1 : 0 ≤ held) (h2 : held ≤ 4611686018427387904) (q1 : 0 ≤ q) (q2 : q ≤ 1073741824) :
    Calls Try.prog 14 #[.pointer (some ⟨B, 0, none⟩), ctx] w fun e w' => e = .returned (.tuple #[.agg #[.nilIface, .iface 57 (.pointer (some a))], .nilIface]) ∧
      IB base B c1 c2 w' (.slice (some ⟨g, off, none⟩) 0 0) [] (held - q) cl ∧ Frm base w w' := by
  have hb0 : base ≤ w.heap.size := Nat.le_of_lt (Nat.lt_of_le_of_lt h.hB h.lt)
  have HPOP : Hid (∀ X, X = popX w B g off (.slice (some ⟨g, off, none⟩) 0 0) (held - q) → _) := fun X hX => by
    exact @pop_IB base B c1 c2 w g off 1 cur a q [] held cl h hgB hbase hg (by simp) hfit hcells off (.inl ⟨rfl, rfl⟩) (held - q) X hX
  obtain ⟨k0, k2, k3, _, k7, kf⟩ := h.cell
  have hlt := h.lt
  have hglt : g < w.heap.size := lt_of_block hg
  have e0 : w.cell? ⟨g, off, none⟩ = some .nilIface := by rw [cell_of_row w g off _ _ _ hg]; exact hcells 0 _ (by simp [ecells, ecell])
  have e1 : w.cell? ⟨g, off + 1, none⟩ = some (.iface 57 (.pointer (some a))) := by rw [cell_of_row w g _ _ _ _ hg]; exact hcells 1 _ (by simp [ecells, ecell])
  have e2 : w.cell? ⟨g, off + 2, none⟩ = some (.int .i64 q) := by rw [cell_of_row w g _ _ _ _ hg]; exact hcells 2 _ (by simp [ecells, ecell])
  have ef : ∀ j, w.frozen? ⟨g, j, none⟩ = false := fun j => frozen_of_row w g j _ _ hg
  clear hcells hfit
  go_enter Try.func14, Try.ntmps14
  go_wp2_with fail
  refine wp_loop_rounds 1 ?_
  rw [rounds_succ]
  go_wp2_with fail
  refine (lock_free muLib ⟨B, 0, none⟩ _ ((World.cell?_of_block (Below.heap_alloc _ _ _ hlt)).trans k0) ((World.frozen?_of_block (Below.heap_alloc _ _ _ hlt)).trans (kf 0))).mono ?_
  rintro e w' ⟨rfl, rfl⟩
  go_wp2_with fail
  go_region
  go_wp2_with fail
  obtain ⟨X, hX⟩ : ∃ X, X = (((((w.setCell ⟨B, 0, none⟩ (.int .i32 1)).setCell ⟨g, off, none⟩ .nilIface).setCell ⟨g, off + 1, none⟩ .nilIface).setCell ⟨g, off + 2, none⟩ (.int .i64 0)).setCell ⟨B, 2, none⟩ (.slice (some ⟨g, off, none⟩) 0 0)).setCell ⟨B, 3, none⟩ (.int .i64 (held - q)) := ⟨_, rfl⟩
  rw [← hX]
  obtain ⟨P1, P2, P3, P4, P5⟩ := HPOP.out X hX
  clear hX HPOP
  refine (unlock_held muLib ⟨B, 0, none⟩ _ ?_ ?_).mono ?_
  · exact (two_alloc_cell X _ _ _ (by show B < _; omega)).trans P3
  · exact (two_alloc_frozen X _ _ _ (by show B < _; omega)).trans P4
  rintro e w' ⟨rfl, rfl⟩
  have x7 : X.cell? ⟨B, 7, none⟩ = some (.chan (some c2)) := by
    have := P1.cell.2.2.2.2.1
    rw [World.cell?_setCell_other _ _ _ _ (by simp)] at this
    exact this
  have IB6 := fun R F => ((P1.alloc R).alloc F).drew
  have d7 := fun R F => (IB6 R F).cell.2.2.2.2.1
  clear k0 k2 k3 k7 kf e0 e1 e2 ef
  go_wp2_with fail
  refine (wake_any c2 _ (IB6 _ _).room).mono ?_
  rintro e w7 ⟨rfl, hch, hg7⟩
  obtain ⟨I7, F7⟩ := (IB6 _ _).woke hch hg7
  obtain ⟨t1, t2, t3⟩ := two_alloc_heap (X.setCell ⟨B, 0, none⟩ (.int .i32 0)) (.cells #[.nilIface, .nilIface] 49) (.cells #[.nilIface, .iface 57 (.pointer (some a)), .int .i64 q] 51) w.heap.size (by simp [World.setCell]; exact P5)
  have hclt := h.room.lt
  have r1 := (hg7.block w.heap.size (by rw [t3]; omega) (by simp; omega)).trans t1
  have r2 := (hg7.block (w.heap.size + 1) (by rw [t3]; omega) (by simp; omega)).trans t2
  have rr0 : w7.cell? ⟨w.heap.size, 0, none⟩ = some .nilIface := by rw [cell_of_row w7 _ 0 _ _ _ r1]; rfl
  have rr1 : w7.cell? ⟨w.heap.size, 1, none⟩ = some .nilIface := by rw [cell_of_row w7 _ 1 _ _ _ r1]; rfl
  have s0 : w7.cell? ⟨w.heap.size + 1, 0, none⟩ = some .nilIface := by rw [cell_of_row w7 _ 0 _ _ _ r2]; rfl
  have s1 : w7.cell? ⟨w.heap.size + 1, 1, none⟩ = some (.iface 57 (.pointer (some a))) := by rw [cell_of_row w7 _ 1 _ _ _ r2]; rfl
  have rf0 := frozen_of_row w7 w.heap.size 0 _ _ r1
  have rf1 := frozen_of_row w7 w.heap.size 1 _ _ r1
  have r1' := heap_setCell_same w7 w.heap.size 0 _ 49 .nilIface r1
  have IF := (I7.other r1 (by omega) (by omega) 0 .nilIface).other r1' (by omega) (by omega) 1 (.iface 57 (.pointer (some a)))
  have FF := (((P2.trans ((frm_alloc base _ (.cells #[.nilIface, .nilIface] 49) (by simp [World.setCell]; omega)).trans (frm_alloc base _ (.cells #[.nilIface, .iface 57 (.pointer (some a)), .int .i64 q] 51) (by simp [World.setCell]; omega)))).drew.trans F7).trans (frm_setT r1 (by omega) hb0 0 .nilIface)).trans (frm_setT r1' (by omega) hb0 1 (.iface 57 (.pointer (some a))))
  clear hch hg7 I7 F7 t1 t2 t3 IB6 d7 x7 P1 P2 P3 P4 P5 r1 r2 r1'
  go_wp2_with fail
  refine bodyPost_ret (v := .tuple #[.agg #[.nilIface, .iface 57 (.pointer (some a))], .nilIface]) (by simp [results, Try.results14, go_sem, rr0, rr1]) rfl ⟨rfl, IF, FF⟩
end Go.Proofs.Qxb6616989a
