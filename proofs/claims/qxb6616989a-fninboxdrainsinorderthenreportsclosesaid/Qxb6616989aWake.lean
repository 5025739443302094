/-
  Seat b6616989a: wake: a token is left in a channel with room for one, or nothing is done.
-/
import Derived.Test.Qxb6616989aRows
import Derived.Conc.LoneSelect
import Derived.KernelRfl
import Derived.Laws.Rows
namespace Go.Proofs.Qxb6616989a
open Go.Conc Go.RowKit

set_option maxRecDepth 100000 in
theorem wake_room (c s r : Nat) (tm : Bool) (w : World) (hc : w.heap[c]? = some (.chan 1 #[] false s r tm)) :
    Calls Try.prog 18 #[.chan (some c)] w fun e w' => e = .returned (.tuple #[]) ∧ w' = w.setChan c 1 #[.agg #[]] false (s + 1) r tm := by
  refine calls_of_loneTo fun cs => ?_
  have e : Frame.enter Try.prog 18 #[.chan (some c)] .normal = (base 18).at ⟨#[.chan (some c), undef, undef, undef, undef, undef, undef], []⟩ [.code (Try.f18.body.getD .skip)] := by
    simp [Frame.enter, Frame.at, Try.func18, base, Try.f18]
  rw [e]
  have hbd : ∀ w : World, (Instr.build 35 #[]).run Try.prog w = .ok (.agg #[]) w := fun w => by kernel_rfl
  refine LoneTo.goes (n := 20) ?_
  simp only [Try.f18, Option.getD_some]
  s_c stepG_seq
  s_c stepG_seq
  s_reg
  s_op
  s_c stepG_region_end
  s_reg
  s_op
  s_c stepG_region_end
  s_c stepG_seq
  s_reg
  s_stop
  refine LoneTo.step (step_lone_select_send_room (c := c) (cap := 1) (buf := #[]) (s := s) (r := r) (tm := tm) (v := .agg #[]) (z' := .agg #[]) (stepG_comm (cases := #[scase c (.agg #[]) (.agg #[])]) (blocking := false) (shape := .select) (w' := w) rfl rfl (by decide) (by simp [go_sem, execOp, scase, Act.eval])) hc (by simp)) ?_
  rw [Frame.finish_at]
  walk_nrm
  refine LoneTo.goes (n := 20) ?_
  s_op
  s_op
  s_c stepG_region_end
  s_c stepG_block
  s_cond true
  s_c stepG_skip
  s_c stepG_inBlock
  s_c stepG_end
  s_stop
  exact LoneTo.done ⟨.returned (.tuple #[]), _, rfl, ⟨rfl, rfl⟩, rfl, rfl, rfl, rfl, _, Try.func18, by simp [results, Try.f18]⟩

set_option maxRecDepth 100000 in
theorem wake_full (c s r : Nat) (buf : Array Value) (tm : Bool) (w : World) (hc : w.heap[c]? = some (.chan 1 buf false s r tm)) (hb : 1 ≤ buf.size) :
    Calls Try.prog 18 #[.chan (some c)] w fun e w' => e = .returned (.tuple #[]) ∧ w' = w := by
  refine calls_of_loneTo fun cs => ?_
  have e : Frame.enter Try.prog 18 #[.chan (some c)] .normal = (base 18).at ⟨#[.chan (some c), undef, undef, undef, undef, undef, undef], []⟩ [.code (Try.f18.body.getD .skip)] := by
    simp [Frame.enter, Frame.at, Try.func18, base, Try.f18]
  rw [e]
  have hbd : ∀ w : World, (Instr.build 35 #[]).run Try.prog w = .ok (.agg #[]) w := fun w => by kernel_rfl
  refine LoneTo.goes (n := 20) ?_
  simp only [Try.f18, Option.getD_some]
  s_c stepG_seq
  s_c stepG_seq
  s_reg
  s_op
  s_c stepG_region_end
  s_reg
  s_op
  s_c stepG_region_end
  s_c stepG_seq
  s_reg
  s_stop
  refine LoneTo.step (step_lone_select_send_full (c := c) (cap := 1) (buf := buf) (s := s) (r := r) (tm := tm) (v := .agg #[]) (z' := .agg #[]) (stepG_comm (cases := #[scase c (.agg #[]) (.agg #[])]) (blocking := false) (shape := .select) (w' := w) rfl rfl (by decide) (by simp [go_sem, execOp, scase, Act.eval])) hc hb) ?_
  rw [Frame.finish_at]
  walk_nrm
  refine LoneTo.goes (n := 20) ?_
  s_op
  s_op
  s_c stepG_region_end
  s_c stepG_block
  s_cond false
  s_c stepG_skip
  s_c stepG_inBlock
  s_c stepG_end
  s_stop
  exact LoneTo.done ⟨.returned (.tuple #[]), _, rfl, ⟨rfl, rfl⟩, rfl, rfl, rfl, rfl, _, Try.func18, by simp [results, Try.f18]⟩

/-- The channel c with room for one, open. -/
def Chan1 (w : World) (c : Nat) : Prop := ∃ buf s r tm, w.heap[c]? = some (.chan 1 buf false s r tm)

theorem wake_any (c : Nat) (w : World) (hc : Chan1 w c) :
    Calls Try.prog 18 #[.chan (some c)] w fun e w' => e = .returned (.tuple #[]) ∧ Chan1 w' c ∧ w.grownBy w' (some c) := by
  obtain ⟨buf, s, r, tm, hc⟩ := hc
  have hlt : c < w.heap.size := (Array.getElem?_eq_some_iff.1 hc).1
  by_cases hb : 1 ≤ buf.size
  · exact (wake_full c s r buf tm w hc hb).mono fun e w' ⟨he, hw⟩ => ⟨he, by rw [hw]; exact ⟨_, _, _, _, hc⟩, by rw [hw]; exact ⟨rfl, rfl, rfl, Nat.le_refl _, fun _ _ _ => rfl⟩⟩
  · have : buf = #[] := Array.eq_empty_of_size_eq_zero (by omega)
    subst this
    exact (wake_room c s r tm w hc).mono fun e w' ⟨he, hw⟩ => ⟨he, by rw [hw]; exact ⟨_, _, _, _, heap_setChan w c 1 _ false _ _ _ hlt⟩, by
      rw [hw]
      exact ⟨rfl, rfl, rfl, by simp [World.setChan], fun k _ hk => by
        simp only [World.setChan]
        rw [Array.getElem?_setIfInBounds_ne (fun e => hk (by rw [e]))]⟩⟩
end Go.Proofs.Qxb6616989a
