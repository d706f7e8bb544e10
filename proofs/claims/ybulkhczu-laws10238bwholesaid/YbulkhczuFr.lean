import Derived.Test.YbulkhczuPMap
namespace Go.Proofs.Ybulkhczu
open Go.RowKit
open Go.ChangeMaps (setBlock)

/-- w' is w with new blocks, and with writes to the blocks of S alone; what held cells holds cells. -/
structure Fr (S : List Nat) (w w' : World) : Prop where
  os : w'.os = w.os
  tape : w'.tape = w.tape
  output : w'.output = w.output
  size : w.heap.size ≤ w'.heap.size
  kept : ∀ k, k < w.heap.size → k ∉ S → w'.heap[k]? = w.heap[k]?
  cells : ∀ k, IsCells w k → IsCells w' k

theorem isCells_lt {w : World} {k : Nat} (h : IsCells w k) : k < w.heap.size := by
  obtain ⟨c, t, h⟩ := h; exact lt_of_block h

theorem Fr.refl (S : List Nat) (w : World) : Fr S w w := ⟨rfl, rfl, rfl, Nat.le_refl _, fun _ _ _ => rfl, fun _ h => h⟩

theorem Fr.trans {S : List Nat} {a b c : World} (h : Fr S a b) (k : Fr S b c) : Fr S a c :=
  ⟨k.os.trans h.os, k.tape.trans h.tape, k.output.trans h.output, Nat.le_trans h.size k.size, fun i hi hs => (k.kept i (Nat.lt_of_lt_of_le hi h.size) hs).trans (h.kept i hi hs), fun i hi => k.cells i (h.cells i hi)⟩

theorem Fr.mono {S S' : List Nat} {a b : World} (h : Fr S a b) (hs : ∀ k ∈ S, k ∈ S') : Fr S' a b :=
  ⟨h.os, h.tape, h.output, h.size, fun i hi hn => h.kept i hi (fun hm => hn (hs i hm)), h.cells⟩

/-- What lies in new blocks may be written too. -/
theorem Fr.less {S S' : List Nat} {a b : World} (h : Fr S a b) (hs : ∀ k ∈ S, k ∈ S' ∨ a.heap.size ≤ k) : Fr S' a b :=
  ⟨h.os, h.tape, h.output, h.size, fun i hi hn => h.kept i hi (fun hm => by rcases hs i hm with h1 | h1; exact hn h1; omega), h.cells⟩

theorem Fr.below {S : List Nat} {B : Nat} {a b : World} (h : Fr S a b) (hB : B ≤ a.heap.size) (hs : ∀ k ∈ S, B ≤ k) : Below B a b :=
  ⟨h.os, h.tape, h.output, h.size, fun k hk => h.kept k (by omega) (fun hm => by have := hs k hm; omega)⟩

theorem isCells_push {w : World} {o : Obj} {k : Nat} (h : IsCells w k) : IsCells (w.alloc o) k := by
  have := isCells_lt h
  obtain ⟨c, t, h⟩ := h
  exact ⟨c, t, by rw [Below.heap_alloc _ _ _ this]; exact h⟩

theorem Fr.alloc {S : List Nat} {a w : World} (h : Fr S a w) (o : Obj) : Fr S a (w.alloc o) :=
  h.trans ⟨rfl, rfl, rfl, by simp, fun k hk _ => Below.heap_alloc _ _ _ hk, fun _ hk => isCells_push hk⟩

theorem Fr.drewN {S : List Nat} {a w : World} (h : Fr S a w) (n : Nat) : Fr S a (w.drewN n) :=
  h.trans ⟨rfl, rfl, rfl, Nat.le_refl _, fun _ _ _ => rfl, fun _ hk => hk⟩

theorem Fr.drew {S : List Nat} {a w : World} (h : Fr S a w) : Fr S a w.drew := h.drewN 1

theorem blk_setCell {w : World} {b i : Nat} {c : Array Value} {t : TypeId} {fz : Nat × Nat} (h : w.heap[b]? = some (.cells c t fz)) (v : Value) : (w.setCell ⟨b, i, none⟩ v).heap[b]? = some (.cells (c.setIfInBounds i v) t fz) := by
  simp [World.setCell, Array.getElem?_modify, h]

theorem isCells_setCell {w : World} {a : Addr} {v : Value} {k : Nat} (h : IsCells w k) : IsCells (w.setCell a v) k := by
  by_cases hk : k = a.block
  · subst hk
    obtain ⟨c, t, h⟩ := h
    refine ⟨if a.spot.isSome then c else c.setIfInBounds a.off v, t, ?_⟩
    simp [World.setCell, Array.getElem?_modify, h]
  · obtain ⟨c, t, h⟩ := h
    exact ⟨c, t, by rw [Below.heap_setCell _ _ _ _ hk]; exact h⟩

theorem Fr.setCell {S : List Nat} {a w : World} (h : Fr S a w) {p : Addr} (hp : p.block ∈ S) (v : Value) : Fr S a (w.setCell p v) :=
  h.trans ⟨rfl, rfl, rfl, by simp [World.setCell], fun k _ hs => Below.heap_setCell _ _ _ _ (fun e => hs (e ▸ hp)), fun _ hk => isCells_setCell hk⟩

theorem Fr.setMap {S : List Nat} {a w : World} (h : Fr S a w) {m : Nat} (hp : m ∈ S) {f : List (Nat × Value)} (hm : PMap w m f) (es : Array MapEntry) (c : Nat) : Fr S a (setBlock w m (.map es c)) := by
  obtain ⟨es0, c0, hm, _⟩ := hm
  exact h.trans ⟨rfl, rfl, rfl, by simp [setBlock], fun k _ hs => heap_setBlock_ne (fun e => hs (e ▸ hp)), fun _ hk => isCells_setBlock hm hk⟩

theorem Fr.cell {S : List Nat} {w w' : World} (h : Fr S w w') {p : Addr} {v : Value} (hc : w.cell? p = some v) (hs : p.block ∉ S) : w'.cell? p = some v := by
  have hlt : p.block < w.heap.size := by
    rcases Nat.lt_or_ge p.block w.heap.size with h' | h'
    · exact h'
    · unfold World.cell? at hc; simp [Array.getElem?_eq_none h'] at hc
  rw [World.cell?_of_block (w := w) (h.kept p.block hlt hs)]; exact hc

theorem Fr.block {S : List Nat} {w w' : World} (h : Fr S w w') {b : Nat} {o : Obj} (hc : w.heap[b]? = some o) (hs : b ∉ S) : w'.heap[b]? = some o := by
  rw [h.kept b (lt_of_block hc) hs]; exact hc

theorem PMap.fr {S : List Nat} {w w' : World} {m : Nat} {f : List (Nat × Value)} (hm : PMap w m f) (h : Fr S w w') (hs : m ∉ S) : PMap w' m f := by
  obtain ⟨es, c, hm, he⟩ := hm
  exact ⟨es, c, h.block hm hs, he.1, fun p hp => h.cells _ (he.2 p hp)⟩

/-- A map block holds no cells. -/
theorem PMap.ne {w : World} {m k : Nat} {f : List (Nat × Value)} (hm : PMap w m f) (hk : IsCells w k) : k ≠ m := by
  rintro rfl
  obtain ⟨es, c, hm, _⟩ := hm
  obtain ⟨q, t, hq⟩ := hk
  rw [hm] at hq; cases hq

theorem PMap.lt {w : World} {m : Nat} {f : List (Nat × Value)} (hm : PMap w m f) : m < w.heap.size := by
  obtain ⟨es, c, hm, _⟩ := hm; exact lt_of_block hm

theorem cell_of_blk {w : World} {b i : Nat} {c : Array Value} {t : TypeId} {fz : Nat × Nat} {v : Value} (h : w.heap[b]? = some (.cells c t fz)) (hi : c[i]? = some v) : w.cell? ⟨b, i, none⟩ = some v := by
  simp [World.cell?, h, hi]
theorem free_of_blk {w : World} {b : Nat} {c : Array Value} {t : TypeId} (h : w.heap[b]? = some (.cells c t (0, 0))) (i : Nat) : w.frozen? ⟨b, i, none⟩ = false := by
  simp [World.frozen?, h]
theorem blk_isCells {w : World} {b : Nat} {c : Array Value} {t : TypeId} (h : w.heap[b]? = some (.cells c t (0, 0))) : IsCells w b := ⟨c, t, h⟩

theorem blk_new (w : World) (o : Obj) : (w.alloc o).heap[w.heap.size]? = some o := by
  show (w.heap.push o)[w.heap.size]? = _
  simp

theorem pmap_new (w : World) : PMap (w.alloc (.map #[] 0)) w.heap.size [] := ⟨#[], 0, blk_new _ _, rfl, fun _ h => by cases h⟩
end Go.Proofs.Ybulkhczu
