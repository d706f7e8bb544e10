import Derived.Test.YbulkhczuB1
import Derived.BigRegion
namespace Go.Proofs.Ybulkhczu
open Go.RowKit Go.MuLone
open Go.ChangeMaps (setBlock)

theorem del_none (W : World) (ty : TypeId) (b : Nat) : (Builtin.delete_ #[69, 58] ty #[.map none, .pointer (some ⟨b, 0, none⟩)]).run Yba.prog W = .ok (.tuple #[]) W := by
  simp [Builtin.delete_, run_underlying Yba.underlying69, run_checkKey_ptr Yba.underlying58]

/-- What 'unwatch' does. -/
def Unwatched (sb r : Nat) (mg ho en : Value) (mo : Option Nat) (f : List (Nat × Value)) (w w' : World) : Prop :=
  w'.heap[sb]? = some (.cells (stCells mg ho 0 en mo) 71 (0, 0)) ∧ WN w' mo (delF r f) ∧ Fr (sb :: mo.toList) w w'

set_option maxRecDepth 100000 in
set_option maxHeartbeats 1600000 in
theorem unwatch_none (sb r : Nat) (mg ho en : Value) (w : World)
    (hst : w.heap[sb]? = some (.cells (stCells mg ho 0 en none) 71 (0, 0))) :
    Calls Yba.prog 9 #[.pointer (some ⟨sb, 0, none⟩), .pointer (some ⟨r, 0, none⟩)] w fun e w' => e = .returned (.tuple #[]) ∧ Unwatched sb r mg ho en none [] w w' := by
  have hd := del_none
  go_enter_defers Yba.func9, Yba.ntmps9
  go_wp2_with (go_at_call 12; refine (lock_st hst).mono ?_; rintro e w1 ⟨rfl, hst1, hf1, hs1⟩; obtain ⟨c2, c7, z2, z7⟩ := st_cell hst1)
  refine leaves_cons (f := 8) (args := #[.pointer (some ⟨sb, 2, none⟩)]) (by simp) (by simp [go_sem]) ?_
  refine (unlock_def_st hst1 .returning).mono ?_
  rintro e u' w'' ⟨rfl, rfl, hst5, hf5, _⟩
  exact ⟨_, results_none rfl _ _ _, rfl, hst5, ⟨fun m hm => (by cases hm), fun _ => rfl⟩, (hf1.trans hf5).mono (by simp)⟩

set_option maxRecDepth 100000 in
set_option maxHeartbeats 1600000 in
theorem unwatch_some (sb r m : Nat) (mg ho en : Value) (f : List (Nat × Value)) (w : World)
    (hst : w.heap[sb]? = some (.cells (stCells mg ho 0 en (some m)) 71 (0, 0))) (hpm : PMap w m f) (hrc : IsCells w r) :
    Calls Yba.prog 9 #[.pointer (some ⟨sb, 0, none⟩), .pointer (some ⟨r, 0, none⟩)] w fun e w' => e = .returned (.tuple #[]) ∧ Unwatched sb r mg ho en (some m) f w w' := by
  obtain ⟨j63, hj63, hs63⟩ := info63
  have hsm : sb ≠ m := hpm.ne (blk_isCells hst)
  go_enter_defers Yba.func9, Yba.ntmps9
  go_wp2_with (go_at_call 12; refine (lock_st hst).mono ?_; rintro e w1 ⟨rfl, hst1, hf1, hs1⟩; obtain ⟨c2, c7, z2, z7⟩ := st_cell hst1; have hpm1 := hpm.fr hf1 (by simpa using Ne.symm hsm); obtain ⟨es3, k3, hu3, hp3, hc3, hz3⟩ := hpm1.del Yba.underlying69 Yba.underlying58 hj63 hs63 (hf1.cells _ hrc) 0)
  have hst3 : (setBlock w1 m (.map es3 k3)).heap[sb]? = some (.cells (stCells mg ho 1 en (some m)) 71 (0, 0)) := by rw [heap_setBlock_ne hsm]; exact hst1
  refine leaves_cons (f := 8) (args := #[.pointer (some ⟨sb, 2, none⟩)]) (by simp) (by simp [go_sem]) ?_
  refine (unlock_def_st hst3 .returning).mono ?_
  rintro e u' w'' ⟨rfl, rfl, hst5, hf5, _⟩
  have hf3 : Fr [m] w1 (setBlock w1 m (.map es3 k3)) := (Fr.refl _ _).setMap (by simp) hpm1 es3 k3
  refine ⟨_, results_none rfl _ _ _, rfl, hst5, ⟨fun m' hm => ?_, fun hm => (by cases hm)⟩, ?_⟩
  · cases hm
    exact (hp3 w1 rfl).fr hf5 (by simpa using Ne.symm hsm)
  · exact ((hf1.mono (by simp)).trans (hf3.mono (by simp))).trans (hf5.mono (by simp))

theorem unwatch_any (sb r : Nat) (mo : Option Nat) (mg ho en : Value) (f : List (Nat × Value)) (w : World)
    (hst : w.heap[sb]? = some (.cells (stCells mg ho 0 en mo) 71 (0, 0))) (hwn : WN w mo f) (hrc : IsCells w r) :
    Calls Yba.prog 9 #[.pointer (some ⟨sb, 0, none⟩), .pointer (some ⟨r, 0, none⟩)] w fun e w' => e = .returned (.tuple #[]) ∧ Unwatched sb r mg ho en mo f w w' := by
  cases mo with
  | none => rw [hwn.2 rfl]; exact unwatch_none sb r mg ho en w hst
  | some m => exact unwatch_some sb r m mg ho en f w hst (hwn.1 m rfl) hrc

theorem len_chan {W : World} {c : Nat} (h : W.heap[c]? = some (.chan 1 #[] false 0 0 false)) : (Builtin.len_ #[41] 3 #[.chan (some c)]).run Yba.prog W = .ok (.int .i64 0) W := by
  have hg : (getObj c).run Yba.prog W = .ok (.chan 1 #[] false 0 0 false) W := by simp [getObj, Sem.run, h]
  simp [Builtin.len_, run_underlying Yba.underlying41, hg, goInt]

theorem neq_chan_nil (W : World) (r : Option Nat) : (binOp .neq 41 (.chan r) (.chan none)).run Yba.prog W = .ok (.bool (!(r == none))) W := by
  have h : ∀ d : Nat, (Op.equalIn (d + 1) 41 (.chan r) (.chan none)).run Yba.prog W = .ok (r == none) W := fun d => by
    simp [Op.equalIn, run_underlying Yba.underlying41]
  simp only [binOp]
  simp [Op.equal, Op.maxDepth, h 9999]

set_option maxRecDepth 100000 in
set_option maxHeartbeats 1600000 in
theorem pristine_any (r m c : Nat) (w : World) (hrw : w.heap[r]? = some (.cells (rwCells m c 0 0) 63 (0, 0))) (hm : PMap w m []) (hc : w.heap[c]? = some (.chan 1 #[] false 0 0 false)) :
    Calls Yba.prog 11 #[.pointer (some ⟨r, 0, none⟩)] w fun e w' => e = .returned (.bool true) ∧ w' = w := by
  have c0 : w.cell? ⟨r, 0, none⟩ = some (.map (some m)) := cell_of_blk hrw rfl
  have c1 : w.cell? ⟨r, 1, none⟩ = some (.int .i64 0) := cell_of_blk hrw rfl
  have c2 : w.cell? ⟨r, 2, none⟩ = some (.int .i64 0) := cell_of_blk hrw rfl
  have c3 : w.cell? ⟨r, 3, none⟩ = some (.slice none 0 0) := cell_of_blk hrw rfl
  have c4 : w.cell? ⟨r, 4, none⟩ = some (.int .i64 0) := cell_of_blk hrw rfl
  have c5 : w.cell? ⟨r, 5, none⟩ = some (.chan (some c)) := cell_of_blk hrw rfl
  have hl := hm.len Yba.underlying60 3 w rfl
  have hlc := len_chan hc
  have hq : ∀ (w : World) (r : Option Nat), (binOp .neq 60 (.map r) (.map none)).run Yba.prog w = .ok (.bool (!r.isNone)) w := fun w r => run_neq_map_nil w _ _ _ r Yba.underlying60
  have hqs := fun (W : World) (a : Option Addr) (l c : Nat) => Lib.run_eql_slice_nil (P := Yba.prog) W 61 9 a l c 0 0 Yba.underlying61
  have hqc := neq_chan_nil
  go_enter Yba.func11, Yba.ntmps11
  go_wp2
  go_ret
  exact ⟨rfl, rfl⟩
end Go.Proofs.Ybulkhczu
