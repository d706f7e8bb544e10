import Derived.Test.YbulkhczuA2
namespace Go.Proofs.Ybulkhczu
open Go.RowKit
open Go.ChangeMaps (setBlock)

/-- Is session i among the first k picks? -/
def pickedB (idx : Nat → Nat) (k i : Nat) : Bool := (List.range k).any (fun j => idx j == i)

theorem picked_succ (idx : Nat → Nat) (k i : Nat) : pickedB idx (k + 1) i = (pickedB idx k i || (idx k == i)) := by
  unfold pickedB
  rw [List.range_succ, List.any_append]
  simp

/-- The pointers to the picked sessions, in order. -/
def argL (B : Nat) (idx : Nat → Nat) (k : Nat) : List Value := (List.range k).map (fun j => .pointer (some ⟨B + 1 + idx j, 0, none⟩))

theorem argL_succ (B : Nat) (idx : Nat → Nat) (k : Nat) : argL B idx (k + 1) = argL B idx k ++ [.pointer (some ⟨B + 1 + idx k, 0, none⟩)] := by
  unfold argL; rw [List.range_succ, List.map_append]; rfl

structure P3 (B L n : Nat) (st : Nat → Bool) (code : Nat → Int) (aw re : Int) (idx : Nat → Nat) (len1 k : Nat) (w wr : World) : Prop where
  eL : L = B + 2 + n
  size : L + 6 ≤ wr.heap.size
  row : wr.heap[B]? = some (.cells (rowF n (ssV B n)) 26 (0, 0))
  sess : ∀ i, i < n → wr.heap[B + 1 + i]? = some (.cells (sessCells (st i)) 30 (0, 0))
  peer : wr.heap[B + 1 + n]? = some (.cells peerCells 57 (0, 0))
  left : ∃ f, PMap wr L f ∧ Gm f (GL B n code n)
  chan : wr.heap[L + 1]? = some (.chan 1 #[] false 0 0 false)
  rw : wr.heap[L + 2]? = some (.cells (rwCells L (L + 1) aw re) 63 (0, 0))
  codes : wr.heap[L + 3]? = some (.cells (rowF n (codeV code n)) 3 (0, 0))
  arg : wr.ownsRow (L + 4) 26 1 (.slice (some ⟨L + 4, 0, none⟩) k len1) k (argL B idx k)
  picked : wr.heap[L + 5]? = some (.cells (rowF n (fun i => .bool (pickedB idx k i))) 4 (0, 0))
  bel : Below B w wr

theorem run_make_room {P : Program} {t e : TypeId} {i : TypeInfo} {z : Value} (ht : P.underlying t = some (.slice e)) (hi : P.info? e = some i) (hz : i.zero = some z) (hc : z.cells = #[z]) (h1 : i.size = 1) (n : Nat) (hb : i.bytes * n ≤ 281474976710656) (hn : n ≤ 9223372036854775807) (w : World) :
    (Instr.makeSlice t (.int .i64 0) (.int .i64 n)).run P w = .ok (.slice (some ⟨w.heap.size, 0, none⟩) 0 n) (w.alloc (.cells (rowF n (fun _ => z)) e)) := by
  have hb' : (i.bytes : Int) * (n : Int) ≤ 281474976710656 := by have h := Int.ofNat_le.2 hb; rw [Int.natCast_mul] at h; exact h
  have := run_make (P := P) w t e i z ht hi hz .i64 .i64 0 (n : Int) (by omega) (by omega) hb' (by omega)
  rw [this, hc, h1]
  simp [made_row]

theorem P3.start {B L n : Nat} {st : Nat → Bool} {code : Nat → Int} {aw re : Int} {idx : Nat → Nat} {len1 : Nat} {w wr : World} (hl : len1 ≤ 1048576) (h : P2 B L n st code aw re n n w wr) :
    P3 B L n st code aw re idx len1 0 w ((wr.alloc (.cells (rowF len1 (fun _ => .pointer none)) 26)).alloc (.cells (rowF n (fun _ => .bool false)) 4)) := by
  have eL := h.eL
  have hs := h.size
  have f1 : Fr [] wr ((wr.alloc (.cells (rowF len1 (fun _ => .pointer none)) 26)).alloc (.cells (rowF n (fun _ => .bool false)) 4)) := ((Fr.refl _ _).alloc _).alloc _
  have b1 := blk_new wr (.cells (rowF len1 (fun _ => .pointer none)) 26)
  have b2 := blk_new (wr.alloc (.cells (rowF len1 (fun _ => .pointer none)) 26)) (.cells (rowF n (fun _ => .bool false)) 4)
  rw [show (wr.alloc (.cells (rowF len1 (fun _ => .pointer none)) 26)).heap.size = L + 5 by simp [hs]] at b2
  rw [hs] at b1
  have b1' := (Fr.alloc (Fr.refl [] _) (.cells (rowF n (fun _ => .bool false)) 4)).block b1 (by simp)
  obtain ⟨f, hf, hg⟩ := h.left
  refine ⟨eL, by simp [hs], f1.block h.row (by simp), fun i hi => f1.block (h.sess i hi) (by simp), f1.block h.peer (by simp), ⟨f, hf.fr f1 (by simp), hg⟩, f1.block h.chan (by simp), f1.block h.rw (by simp), f1.block h.codes (by simp), ?_, ?_, h.bel.trans (f1.below (by omega) (by simp))⟩
  · exact ⟨rfl, Or.inr ⟨L + 4, len1, _, rfl, Nat.le_refl _, b1', Nat.zero_le _, by unfold maxLen; omega, by simp [rowF], by simp [argL]⟩⟩
  · rw [b2]; rfl

theorem P3.step {B L n : Nat} {st : Nat → Bool} {code : Nat → Int} {aw re : Int} {idx : Nat → Nat} {len1 k : Nat} {w wr w1 : World} {o : Obj} (h : P3 B L n st code aw re idx len1 k w wr)
    (hown : w1.ownsRow (L + 4) 26 1 (.slice (some ⟨L + 4, 0, none⟩) (k + 1) len1) (k + 1) (argL B idx k ++ [.pointer (some ⟨B + 1 + idx k, 0, none⟩)])) (hg : (wr.alloc o).grownBy w1 (some (L + 4))) :
    P3 B L n st code aw re idx len1 (k + 1) w (w1.setCell ⟨L + 5, idx k, none⟩ (.bool true)) := by
  have eL := h.eL
  have hs := h.size
  have hcells : ∀ j, IsCells (wr.alloc o) j → IsCells w1 j := by
    intro j hj
    by_cases hj4 : j = L + 4
    · subst hj4
      rcases hown.2 with ⟨h1, _⟩ | ⟨g, cap, cur, h1, _, h2, _⟩
      · cases h1
      · simp at h1
        obtain ⟨rfl, _⟩ := h1
        exact ⟨_, _, h2⟩
    · obtain ⟨c, t, hc⟩ := hj
      exact ⟨c, t, by rw [hg.block j (lt_of_block hc) (by simpa using hj4)]; exact hc⟩
  have f0 : Fr [L + 4] (wr.alloc o) w1 := ⟨hg.os, hg.tape, hg.output, hg.size, fun j hj hn => hg.block j hj (by simpa using hn), hcells⟩
  have f1 : Fr [L + 4, L + 5] wr (w1.setCell ⟨L + 5, idx k, none⟩ (.bool true)) := (((Fr.refl _ _).alloc o).trans (f0.mono (by simp))).setCell (by simp) _
  obtain ⟨f, hf, hgm⟩ := h.left
  have hp1 : w1.heap[L + 5]? = some (.cells (rowF n (fun i => .bool (pickedB idx k i))) 4 (0, 0)) :=
    f0.block (by rw [Below.heap_alloc _ _ _ (by omega)]; exact h.picked) (by simp)
  refine ⟨eL, by have := f1.size; omega, f1.block h.row (by simp; omega), fun i hi => f1.block (h.sess i hi) (by simp; omega), f1.block h.peer (by simp; omega), ⟨f, hf.fr f1 (by simp), hgm⟩, f1.block h.chan (by simp), f1.block h.rw (by simp), f1.block h.codes (by simp), ?_, ?_, h.bel.trans (f1.below (by omega) (by simp; omega))⟩
  · rw [argL_succ]
    exact ownsRow_setCell_other hown (by simp [Value.ownBlock]) _
  · rw [blk_setCell hp1, rowF_set]
    congr 2
    apply rowF_congr
    intro i _
    rw [picked_succ]
    by_cases hi : i = idx k
    · subst hi; simp
    · simp [hi, Ne.symm hi]

theorem P3.pick_cell {B L n : Nat} {st : Nat → Bool} {code : Nat → Int} {aw re : Int} {idx : Nat → Nat} {len1 k : Nat} {w wr w1 : World} {o : Obj} (h : P3 B L n st code aw re idx len1 k w wr)
    (hg : (wr.alloc o).grownBy w1 (some (L + 4))) {J : Nat} (hJ : J < n) : w1.cell? ⟨L + 4 + 1, J, none⟩ = some (.bool (pickedB idx k J)) ∧ w1.frozen? ⟨L + 4 + 1, J, none⟩ = false := by
  have hs := h.size
  have hp1 : w1.heap[L + 5]? = some (.cells (rowF n (fun i => .bool (pickedB idx k i))) 4 (0, 0)) := by
    rw [hg.block (L + 5) (by simp; omega) (by simp), Below.heap_alloc _ _ _ (by omega)]; exact h.picked
  exact ⟨cell_of_blk hp1 (rowF_get hJ), free_of_blk hp1 J⟩

theorem one_ptr (a : Option Addr) : ∀ u ∈ [Value.pointer a], u.oneCell' = true := by
  intro u hu
  simp at hu
  subst hu
  rfl

/-- Behind the loop over the picks. -/
def CutA (B L n : Nat) (st : Nat → Bool) (code : Nat → Int) (aw re : Int) (idx : Nat → Nat) (len1 : Nat) (w : World) (v : Value) (w' : World) : Prop :=
  ∃ Ln, Ln ≤ len1 ∧ (∀ j, j < Ln → idx j < n) ∧ v = .slice (some ⟨L + 4, 0, none⟩) Ln len1 ∧ P3 B L n st code aw re idx len1 Ln w w'

end Go.Proofs.Ybulkhczu
