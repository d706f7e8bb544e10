import Derived.Test.YbulkhczuA2b
import Derived.Laws.CopyOwn
namespace Go.Proofs.Ybulkhczu
open Go.RowKit
open Go.ChangeMaps (setBlock)

/-- What stays from the loops on, but for the map 'left'. -/
structure PB (B L n : Nat) (st : Nat → Bool) (code : Nat → Int) (aw re : Int) (idx : Nat → Nat) (len1 k : Nat) (w wr : World) : Prop where
  eL : L = B + 2 + n
  size : L + 6 ≤ wr.heap.size
  row : wr.heap[B]? = some (.cells (rowF n (ssV B n)) 26 (0, 0))
  sess : ∀ i, i < n → wr.heap[B + 1 + i]? = some (.cells (sessCells (st i)) 30 (0, 0))
  peer : wr.heap[B + 1 + n]? = some (.cells peerCells 57 (0, 0))
  chan : wr.heap[L + 1]? = some (.chan 1 #[] false 0 0 false)
  rw : wr.heap[L + 2]? = some (.cells (rwCells L (L + 1) aw re) 63 (0, 0))
  codes : wr.heap[L + 3]? = some (.cells (rowF n (codeV code n)) 3 (0, 0))
  arg : wr.ownsRow (L + 4) 26 1 (.slice (some ⟨L + 4, 0, none⟩) k len1) k (argL B idx k)
  picked : wr.heap[L + 5]? = some (.cells (rowF n (fun i => .bool (pickedB idx k i))) 4 (0, 0))
  bel : Below B w wr

section
variable {B L n : Nat} {st : Nat → Bool} {code : Nat → Int} {aw re : Int} {idx : Nat → Nat} {len1 k : Nat} {w wr wr' : World}

theorem P3.base (h : P3 B L n st code aw re idx len1 k w wr) : PB B L n st code aw re idx len1 k w wr :=
  ⟨h.eL, h.size, h.row, h.sess, h.peer, h.chan, h.rw, h.codes, h.arg, h.picked, h.bel⟩

theorem PB.fr (h : PB B L n st code aw re idx len1 k w wr) {S : List Nat} (f : Fr S wr wr') (hS : ∀ s ∈ S, s = L ∨ L + 6 ≤ s) : PB B L n st code aw re idx len1 k w wr' := by
  have eL := h.eL
  have hn : ∀ b, b < L + 6 → b ≠ L → b ∉ S := fun b hb hbL hm => by rcases hS b hm with h1 | h1 <;> omega
  refine ⟨eL, Nat.le_trans h.size f.size, f.block h.row (hn _ (by omega) (by omega)), fun i hi => f.block (h.sess i hi) (hn _ (by omega) (by omega)), f.block h.peer (hn _ (by omega) (by omega)), f.block h.chan (hn _ (by omega) (by omega)), f.block h.rw (hn _ (by omega) (by omega)), f.block h.codes (hn _ (by omega) (by omega)), ?_, f.block h.picked (hn _ (by omega) (by omega)), h.bel.trans (f.below (by have := h.size; omega) (fun s hs => by rcases hS s hs with h1 | h1 <;> omega))⟩
  obtain ⟨h1, h2⟩ := h.arg
  refine ⟨h1, ?_⟩
  rcases h2 with h2 | ⟨g, cap, cur, e1, e2, e3, e4⟩
  · exact Or.inl h2
  · refine Or.inr ⟨g, cap, cur, e1, e2, f.block e3 ?_, e4⟩
    simp at e1
    obtain ⟨rfl, _⟩ := e1
    exact hn _ (by omega) (by omega)

theorem argL_get (B : Nat) (idx : Nat → Nat) (k : Nat) {j : Nat} (hj : j < k) : (argL B idx k)[j]? = some (.pointer (some ⟨B + 1 + idx j, 0, none⟩)) := by
  simp [argL, hj]

theorem PB.argCell (h : PB B L n st code aw re idx len1 k w wr) {j : Nat} (hj : j < k) : wr.cell? ⟨L + 4, j, none⟩ = some (.pointer (some ⟨B + 1 + idx j, 0, none⟩)) := by
  rw [h.arg.cellAt j (by omega), argL_get B idx k hj]

theorem PB.isCells4 (h : PB B L n st code aw re idx len1 k w wr) : IsCells wr (L + 4) := by
  rcases h.arg.2 with ⟨h1, _⟩ | ⟨g, cap, cur, e1, e2, e3, e4⟩
  · cases h1
  · simp at e1
    obtain ⟨rfl, _⟩ := e1
    exact ⟨_, _, e3⟩

/-- 'copy(argCopy, arg)': what the row of the copy holds. -/
theorem copied_row (B : Nat) (idx : Nat → Nat) (k : Nat) : splice (rowF k (fun _ => .pointer none)).toList 0 (argL B idx k) = argL B idx k := by
  simp [splice, rowF, argL]

theorem copy_src (h : PB B L n st code aw re idx len1 k w wr) {W : World} (hb : Below wr.heap.size wr W) (g : Nat) :
    0 < (argL B idx k).length → some (⟨g, 0, none⟩ : Addr) = some ⟨g, 0, none⟩ ∧ ∃ ad, some (⟨L + 4, 0, none⟩ : Addr) = some ad ∧ ∀ j v, (argL B idx k)[j]? = some v → W.cell? (ad.add j) = some v := by
  intro _
  refine ⟨rfl, _, rfl, fun j v hj => ?_⟩
  have hjk : j < k := by
    rcases Nat.lt_or_ge j k with h' | h'
    · exact h'
    · simp [argL, h'] at hj
  rw [argL_get B idx k hjk] at hj
  have hc := h.argCell hjk
  have hs := h.size
  rw [show (⟨L + 4, 0, none⟩ : Addr).add j = ⟨L + 4, j, none⟩ from by by_cases h0 : j = 0 <;> simp [Addr.add, h0], hb.cell (p := ⟨L + 4, j, none⟩) (by simp; omega), hc]
  exact hj

theorem one_args (B : Nat) (idx : Nat → Nat) (k : Nat) : ∀ u ∈ argL B idx k, u.oneCell' = true := by
  intro u hu
  simp only [argL, List.mem_map] at hu
  obtain ⟨j, _, rfl⟩ := hu
  rfl

theorem below_fr {w w' : World} (h : Below w.heap.size w w') : Fr [] w w' :=
  ⟨h.os, h.tape, h.output, h.size, fun k hk _ => h.block k hk, fun k hk => by
    obtain ⟨c, t, hc⟩ := hk
    exact ⟨c, t, by rw [h.block k (lt_of_block hc)]; exact hc⟩⟩

/-- The map of the store's watches as it is handed to 'watch'. -/
def WM (w : World) (mo : Option Nat) (f : List (Nat × Value)) : Prop := (∀ m, mo = some m → PMap w m f) ∧ (mo = none → f = [])

structure P4 (B L n : Nat) (st : Nat → Bool) (code : Nat → Int) (aw re : Int) (idx : Nat → Nat) (len1 k H N : Nat) (mo : Option Nat) (lk : Int) (w wr : World) : Prop where
  pb : PB B L n st code aw re idx len1 k w wr
  hH : L + 6 ≤ H
  hN : H < N
  size : N + 4 ≤ wr.heap.size
  copy : wr.heap[H]? = some (.cells (argL B idx k).toArray 26 (0, 0))
  oleft : PMap wr N []
  ochan : wr.heap[N + 1]? = some (.chan 1 #[] false 0 0 false)
  orw : wr.heap[N + 2]? = some (.cells (rwCells N (N + 1) 0 0) 63 (0, 0))
  sto : wr.heap[N + 3]? = some (.cells (stCells (.int .i64 3) (.string ⟨#[104]⟩) lk (.int .i64 0) mo) 71 (0, 0))

theorem P4.fr {H N : Nat} {mo mo' : Option Nat} {lk lk' : Int} (h : P4 B L n st code aw re idx len1 k H N mo lk w wr) {S : List Nat} (f : Fr S wr wr') (hS : ∀ s ∈ S, s = L ∨ N + 3 ≤ s)
    (hst : wr'.heap[N + 3]? = some (.cells (stCells (.int .i64 3) (.string ⟨#[104]⟩) lk' (.int .i64 0) mo') 71 (0, 0))) : P4 B L n st code aw re idx len1 k H N mo' lk' w wr' := by
  have hH := h.hH
  have hN := h.hN
  have hn : ∀ b, L < b → b < N + 3 → b ∉ S := fun b h1 h2 hm => by rcases hS b hm with h3 | h3 <;> omega
  exact ⟨h.pb.fr f (fun s hs => by rcases hS s hs with h1 | h1; exact Or.inl h1; exact Or.inr (by omega)), hH, hN, Nat.le_trans h.size f.size, f.block h.copy (hn _ (by omega) (by omega)), h.oleft.fr f (hn _ (by omega) (by omega)), f.block h.ochan (hn _ (by omega) (by omega)), f.block h.orw (hn _ (by omega) (by omega)), hst⟩

theorem P4.drewN {H N : Nat} {mo : Option Nat} {lk : Int} (h : P4 B L n st code aw re idx len1 k H N mo lk w wr) (q : Nat) : P4 B L n st code aw re idx len1 k H N mo lk w (wr.drewN q) :=
  h.fr (S := []) ((Fr.refl _ _).drewN q) (by simp) h.sto

theorem P4.start {H N : Nat} {wc w5 w6 : World} (hB : PB B L n st code aw re idx len1 k w wc) (hH : H = wc.heap.size) (hB5 : Below H wc w5) (hG5 : w5.heap[H]? = some (.cells (splice (rowF k (fun _ => .pointer none)).toList 0 (argL B idx k)).toArray 26 (0, 0)))
    (hN : N = w5.heap.size) (hs6 : w6.heap.size = N + 3) (hf6 : Fr [] w5 w6) (hm6 : PMap w6 N []) (hch6 : w6.heap[N + 1]? = some (.chan 1 #[] false 0 0 false)) (hrw6 : w6.heap[N + 2]? = some (.cells (rwCells N (N + 1) 0 0) 63 (0, 0))) :
    P4 B L n st code aw re idx len1 k H N none 0 w (w6.alloc (.cells (stCells (.int .i64 3) (.string ⟨#[104]⟩) 0 (.int .i64 0) none) 71)) ∧ Fr [] wc (w6.alloc (.cells (stCells (.int .i64 3) (.string ⟨#[104]⟩) 0 (.int .i64 0) none) 71)) := by
  rw [copied_row] at hG5
  have hs := hB.size
  have hHN : H < N := by rw [hN]; exact lt_of_block hG5
  have f5 : Fr [] wc w5 := below_fr (hH ▸ hB5)
  have f7 : Fr [] w6 (w6.alloc (.cells (stCells (.int .i64 3) (.string ⟨#[104]⟩) 0 (.int .i64 0) none) 71)) := (Fr.refl _ _).alloc _
  have fa := (f5.trans hf6).trans f7
  have hst := blk_new w6 (.cells (stCells (.int .i64 3) (.string ⟨#[104]⟩) 0 (.int .i64 0) none) 71)
  rw [hs6] at hst
  exact ⟨⟨hB.fr fa (by simp), by omega, hHN, by simp [hs6], (hf6.trans f7).block hG5 (by simp), hm6.fr f7 (by simp), f7.block hch6 (by simp), f7.block hrw6 (by simp), hst⟩, fa⟩

/-- Behind the choice of the store's watches. -/
def CutS (B L n : Nat) (st : Nat → Bool) (code : Nat → Int) (aw re : Int) (idx : Nat → Nat) (len1 k H N : Nat) (f1 : List (Nat × Value)) (sel : Int) (w w' : World) : Prop :=
  ∃ mo f0, P4 B L n st code aw re idx len1 k H N mo 0 w w' ∧ PMap w' L f1 ∧ WM w' mo f0 ∧ (mo = none ∨ mo = some (N + 4)) ∧ f0 = if sel = 2 then [(N + 2, .bool true)] else []

theorem cutS_none {H N : Nat} {f1 : List (Nat × Value)} {sel : Int} (h : P4 B L n st code aw re idx len1 k H N none 0 w wr) (hf : PMap wr L f1) (hs : sel ≠ 2) : CutS B L n st code aw re idx len1 k H N f1 sel w wr :=
  ⟨none, [], h, hf, ⟨fun m hm => (by cases hm), fun _ => rfl⟩, Or.inl rfl, (if_neg hs).symm⟩

theorem cutS_one {H N : Nat} {f1 : List (Nat × Value)} {sel : Int} (h : P4 B L n st code aw re idx len1 k H N none 0 w wr) (hf : PMap wr L f1) (hs : sel ≠ 2) (hz : wr.heap.size = N + 4) :
    CutS B L n st code aw re idx len1 k H N f1 sel w ((wr.setCell ⟨N + 3, 7, none⟩ (.map (some (N + 4)))).alloc (.map #[] 0)) := by
  have f : Fr [N + 3] wr ((wr.setCell ⟨N + 3, 7, none⟩ (.map (some (N + 4)))).alloc (.map #[] 0)) := ((Fr.refl _ _).setCell (by simp) _).alloc _
  have hp := pmap_new (wr.setCell ⟨N + 3, 7, none⟩ (.map (some (N + 4))))
  rw [size_setCell, hz] at hp
  have hH := h.hH
  have hN := h.hN
  refine ⟨some (N + 4), [], h.fr f (by simp) ?_, hf.fr f (by simp; omega), ⟨fun m hm => (by cases hm; exact hp), fun hm => (by cases hm)⟩, Or.inr rfl, (if_neg hs).symm⟩
  rw [Below.heap_alloc _ _ _ (by rw [size_setCell]; omega)]
  exact st_set7 h.sto

theorem cutS_two {H N : Nat} {f1 : List (Nat × Value)} {sel : Int} (h : P4 B L n st code aw re idx len1 k H N none 0 w wr) (hf : PMap wr L f1) (hs : sel = 2) (hz : wr.heap.size = N + 4) {es : Array MapEntry} {c : Nat}
    (hp : PMap (setBlock (wr.alloc (.map #[] 0)) (N + 4) (.map es c)) (N + 4) (updF (N + 2) (.bool true) [])) :
    CutS B L n st code aw re idx len1 k H N f1 sel w ((setBlock (wr.alloc (.map #[] 0)) (N + 4) (.map es c)).setCell ⟨N + 3, 7, none⟩ (.map (some (N + 4)))) := by
  have hm0 : PMap (wr.alloc (.map #[] 0)) (N + 4) [] := by have := pmap_new wr; rw [hz] at this; exact this
  have f0 : Fr [N + 3, N + 4] wr (setBlock (wr.alloc (.map #[] 0)) (N + 4) (.map es c)) := ((Fr.refl _ _).alloc _).setMap (by simp) hm0 es c
  have f : Fr [N + 3, N + 4] wr ((setBlock (wr.alloc (.map #[] 0)) (N + 4) (.map es c)).setCell ⟨N + 3, 7, none⟩ (.map (some (N + 4)))) := f0.setCell (by simp) _
  have f2 : Fr [N + 3] (setBlock (wr.alloc (.map #[] 0)) (N + 4) (.map es c)) ((setBlock (wr.alloc (.map #[] 0)) (N + 4) (.map es c)).setCell ⟨N + 3, 7, none⟩ (.map (some (N + 4)))) := (Fr.refl _ _).setCell (by simp) _
  have hH := h.hH
  have hN := h.hN
  refine ⟨some (N + 4), [(N + 2, .bool true)], h.fr f (by simp) ?_, hf.fr f (by simp; omega), ⟨fun m hm => (by cases hm; exact hp.fr f2 (by simp)), fun hm => (by cases hm)⟩, Or.inr rfl, (if_pos hs).symm⟩
  refine st_set7 (mo := none) ?_
  rw [heap_setBlock_ne (by omega), Below.heap_alloc _ _ _ (by omega)]
  exact h.sto
end
end Go.Proofs.Ybulkhczu
