import Derived.Test.YbulkhczuCalls
import Derived.Test.YbulkhczuGhost
namespace Go.Proofs.Ybulkhczu
open Go.RowKit Go.MuLone
open Go.ChangeMaps (setBlock)

/-- The map of the store's watches: nil and no entry; or a map with the entries f. -/
def WN (w : World) (mo : Option Nat) (f : List (Nat × Value)) : Prop := (∀ m, mo = some m → PMap w m f) ∧ (mo = none → f = [])

/-- What 'watch' with no session does. -/
def WatchedNil (sb r : Nat) (mg ho en : Value) (mo : Option Nat) (f : List (Nat × Value)) (w w' : World) : Prop :=
  ∃ m, (mo = some m ∨ mo = none ∧ m = w.heap.size) ∧ w'.heap[sb]? = some (.cells (stCells mg ho 0 en (some m)) 71 (0, 0)) ∧ PMap w' m (updF r (.bool true) f) ∧ Fr [sb, m] w w'

set_option maxRecDepth 100000 in
set_option maxHeartbeats 1600000 in
theorem watch_nil (sb r : Nat) (mo : Option Nat) (mg ho en : Value) (f : List (Nat × Value)) (w : World)
    (hst : w.heap[sb]? = some (.cells (stCells mg ho 0 en mo) 71 (0, 0))) (hwn : WN w mo f) (hrc : IsCells w r) :
    Calls Yba.prog 6 #[.pointer (some ⟨sb, 0, none⟩), .pointer (some ⟨r, 0, none⟩), .slice none 0 0] w fun e w' => e = .returned (.tuple #[]) ∧ WatchedNil sb r mg ho en mo f w w' := by
  have hmm := @run_makeMap Yba.prog
  have hq : ∀ (w : World) (r : Option Nat), (binOp .eql 69 (.map r) (.map none)).run Yba.prog w = .ok (.bool r.isNone) w := fun w r => run_eql_map_nil w _ _ _ r Yba.underlying69
  obtain ⟨j63, hj63, hs63⟩ := info63
  go_enter_defers Yba.func6, Yba.ntmps6
  go_upto_if 19 with (go_at_call 12; refine (lock_st hst).mono ?_; rintro e w1 ⟨rfl, hst1, hf1, hs1⟩; obtain ⟨c2, c7, z2, z7⟩ := st_cell hst1)
  clear c2 z2
  have hrc1 := hf1.cells _ hrc
  have hmo1 : Hid (∀ m, mo = some m → PMap w1 m f) := fun m hm => (hwn.1 m hm).fr hf1 (fun hx => by simp at hx; exact (hwn.1 m hm).ne (blk_isCells hst) hx.symm)
  have hsl : sb < w1.heap.size := lt_of_block hst1
  have hs1' : Hid (w1.heap.size = w.heap.size) := hs1
  have hmn' : NoneNil mo f := hwn.2
  clear hs1
  go_cut [] from 8 (fun w' => WatchMade sb w.heap.size.succ mg ho en mo f w w1 w')
  case first =>
    cases mo with
    | none =>
      go_wp2
      go_meet
      case rel =>
        obtain ⟨m, a1, a2, a3, _, a5⟩ := watch_made (lm := 0) (sb := sb) (mg := mg) (ho := ho) (en := en) (f := f) (w := w) (w1 := w1) (by have := lt_of_block hst; omega) hs1'.out hst1 hmn'
        refine ⟨m, a1, a2, a3, ?_, a5⟩
        rcases a1 with a1 | ⟨_, a1⟩
        · cases a1
        · rw [a1]; exact Nat.ne_of_lt (Nat.lt_succ_self _)
    | some m =>
      go_wp2
      go_meet
      case rel => exact ⟨m, Or.inl rfl, hst1, hmo1.out m rfl, fun e => by have := (hwn.1 m rfl).lt; rw [e] at this; omega, Fr.refl _ _⟩
  case rest =>
    obtain ⟨m, hm, hst2, hpm, _, hf2⟩ := hcut
    obtain ⟨c2, c7', z2, z7'⟩ := st_cell hst2
    clear c7 z7 hst1 c2 z2 z7'
    have hrc2 := hf2.cells _ hrc1
    obtain ⟨es3, k3, hu3, hp3, hc3, hz3⟩ := hpm.upd Yba.underlying69 Yba.underlying58 hj63 hs63 hrc2 (.bool true)
    go_wp2_with fail
    have hsm : sb ≠ m := hpm.ne (blk_isCells hst2)
    have hf3 : Fr [m] wc (setBlock wc m (.map es3 k3)) := (Fr.refl _ _).setMap (by simp) hpm es3 k3
    have hst3 : (setBlock wc m (.map es3 k3)).heap[sb]? = some (.cells (stCells mg ho 1 en (some m)) 71 (0, 0)) := by rw [heap_setBlock_ne hsm]; exact hst2
    have hp3' := hp3 wc rfl
    have hfa : Fr [sb, m] w (setBlock wc m (.map es3 k3)) := ((hf1.mono (by simp)).trans (hf2.mono (by simp))).trans (hf3.mono (by simp))
    clear hu3 hp3 hc3 hz3 hst2 hpm c7' hrc2 hrc1 hsl hf1 hf2 hmo1 hst hq hmm hf3
    generalize setBlock wc m (.map es3 k3) = W3 at *
    refine wp_loop_rounds 1 ?_
    rw [rounds_succ]
    go_wp2_with fail
    refine leaves_cons (f := 8) (args := #[.pointer (some ⟨sb, 2, none⟩)]) (by simp) (by simp [go_sem]) ?_
    refine (unlock_def_st hst3 .returning).mono ?_
    rintro e u' w'' ⟨rfl, rfl, hst5, hf5, _⟩
    refine ⟨_, results_none rfl _ _ _, rfl, m, hm, hst5, hp3'.fr hf5 ?_, hfa.trans (hf5.mono (by simp))⟩
    simpa using Ne.symm hsm
end Go.Proofs.Ybulkhczu
