import Derived.Test.YbulkhdaiLocks
namespace Go.Proofs.Ybulkhdai
open Go.RowKit

/-- A slice of tool calls: where there is one, each is three strings in a row. -/
def RdT (w : World) (a : Option Addr) (len : Nat) (T : Nat → Nat → ByteArray) : Prop :=
  0 < len → ∃ b o, a = some ⟨b, o, none⟩ ∧ ∀ j, j < len → ∀ c, c < 3 → w.cell? ⟨b, o + j * 3 + c, none⟩ = some (.string (T j c))

set_option maxRecDepth 100000 in
set_option maxHeartbeats 800000 in
theorem eq_some (b o b' o' len cap cap' : Nat) (T : Nat → Nat → ByteArray) (w : World) (hl : len ≤ 140737488351232)
    (hc : ∀ j, j < len → ∀ c, c < 3 → w.cell? ⟨b, o + j * 3 + c, none⟩ = some (.string (T j c)))
    (hc' : ∀ j, j < len → ∀ c, c < 3 → w.cell? ⟨b', o' + j * 3 + c, none⟩ = some (.string (T j c))) :
    Calls Yba.prog 14 #[.slice (some ⟨b, o, none⟩) len cap, .slice (some ⟨b', o', none⟩) len cap'] w fun e w' => e = .returned (.bool true) ∧ ∃ q, w' = w.drewN q := by
  go_enter Yba.func14, Yba.ntmps14
  go_wp2_with fail
  go_loopw [13] (fun i wr => ∃ k q : Nat, k ≤ len ∧ i = .int .i64 k ∧ wr = w.drewN q) (fun i _ => len - (intOf i).toNat)
  case atStart => exact ⟨0, 0, by omega, rfl, rfl⟩
  case round =>
    obtain ⟨k, q, hk, rfl, rfl⟩ := hrel
    by_cases hlt : k < len
    · have c0 := hc k hlt 0 (by omega)
      have c1 := hc k hlt 1 (by omega)
      have c2 := hc k hlt 2 (by omega)
      have d0 := hc' k hlt 0 (by omega)
      have d1 := hc' k hlt 1 (by omega)
      have d2 := hc' k hlt 2 (by omega)
      simp only [Nat.add_zero] at c0 d0
      go_wp2
      go_region
      go_wp2
      go_roundw
      case rel => exact ⟨k + 1, _, by omega, by go_num, rfl⟩
      case measure => simp [intOf]; omega
    · go_wp2
      go_ret
      exact ⟨rfl, _, rfl⟩

set_option maxRecDepth 100000 in
set_option maxHeartbeats 800000 in
theorem eq_none (a a' : Option Addr) (cap cap' : Nat) (w : World) :
    Calls Yba.prog 14 #[.slice a 0 cap, .slice a' 0 cap'] w fun e w' => e = .returned (.bool true) ∧ ∃ q, w' = w.drewN q := by
  go_enter Yba.func14, Yba.ntmps14
  go_wp2_with fail
  refine wp_loop_rounds 1 ?_
  rw [rounds_succ]
  go_wp2
  go_ret
  exact ⟨rfl, 0, rfl⟩

theorem eq_any (a a' : Option Addr) (len cap cap' : Nat) (T : Nat → Nat → ByteArray) (w : World) (hl : len ≤ 140737488351232) (h : RdT w a len T) (h' : RdT w a' len T) :
    Calls Yba.prog 14 #[.slice a len cap, .slice a' len cap'] w fun e w' => e = .returned (.bool true) ∧ ∃ q, w' = w.drewN q := by
  by_cases h0 : 0 < len
  · obtain ⟨b, o, rfl, hc⟩ := h h0
    obtain ⟨b', o', rfl, hc'⟩ := h' h0
    exact eq_some b o b' o' len cap cap' T w hl hc hc'
  · obtain rfl : len = 0 := by omega
    exact eq_none a a' cap cap' w

/-- w' is w with new blocks, and with writes to the blocks of S alone. -/
structure Fr (S : List Nat) (w w' : World) : Prop where
  os : w'.os = w.os
  tape : w'.tape = w.tape
  output : w'.output = w.output
  size : w.heap.size ≤ w'.heap.size
  kept : ∀ k, k < w.heap.size → k ∉ S → w'.heap[k]? = w.heap[k]?

theorem Fr.refl (S : List Nat) (w : World) : Fr S w w := ⟨rfl, rfl, rfl, Nat.le_refl _, fun _ _ _ => rfl⟩
theorem Fr.trans {S : List Nat} {a b c : World} (h : Fr S a b) (k : Fr S b c) : Fr S a c :=
  ⟨k.os.trans h.os, k.tape.trans h.tape, k.output.trans h.output, Nat.le_trans h.size k.size, fun i hi hs => (k.kept i (Nat.lt_of_lt_of_le hi h.size) hs).trans (h.kept i hi hs)⟩
theorem Fr.mono {S S' : List Nat} {a b : World} (h : Fr S a b) (hs : ∀ k ∈ S, k ∈ S') : Fr S' a b :=
  ⟨h.os, h.tape, h.output, h.size, fun i hi hn => h.kept i hi (fun hm => hn (hs i hm))⟩
/-- Writes to blocks that were not there before need not be named. -/
theorem Fr.less {S S' : List Nat} {a b : World} (h : Fr S a b) (hs : ∀ k ∈ S, k ∈ S' ∨ a.heap.size ≤ k) : Fr S' a b :=
  ⟨h.os, h.tape, h.output, h.size, fun i hi hn => h.kept i hi (fun hm => by rcases hs i hm with h1 | h1; exact hn h1; omega)⟩
theorem Fr.below {S : List Nat} {B : Nat} {a b : World} (h : Fr S a b) (hB : B ≤ a.heap.size) (hs : ∀ k ∈ S, B ≤ k) : Below B a b :=
  ⟨h.os, h.tape, h.output, h.size, fun k hk => h.kept k (by omega) (fun hm => by have := hs k hm; omega)⟩
theorem below_fr {w w' : World} (h : Below w.heap.size w w') : Fr [] w w' := ⟨h.os, h.tape, h.output, h.size, fun k hk _ => h.block k hk⟩
theorem Fr.alloc {S : List Nat} {a w : World} (h : Fr S a w) (o : Obj) : Fr S a (w.alloc o) :=
  h.trans ⟨rfl, rfl, rfl, by simp, fun k hk _ => Below.heap_alloc _ _ _ hk⟩
theorem Fr.drewN {S : List Nat} {a w : World} (h : Fr S a w) (n : Nat) : Fr S a (w.drewN n) := h.trans ⟨rfl, rfl, rfl, Nat.le_refl _, fun _ _ _ => rfl⟩
theorem Fr.drew {S : List Nat} {a w : World} (h : Fr S a w) : Fr S a w.drew := h.drewN 1
theorem size_setCell (w : World) (a : Addr) (v : Value) : (w.setCell a v).heap.size = w.heap.size := by simp [World.setCell]
theorem blk_setCell {w : World} {b i : Nat} {c : Array Value} {t : TypeId} {fz : Nat × Nat} (h : w.heap[b]? = some (.cells c t fz)) (v : Value) : (w.setCell ⟨b, i, none⟩ v).heap[b]? = some (.cells (c.setIfInBounds i v) t fz) := by
  simp [World.setCell, Array.getElem?_modify, h]
theorem Fr.setCell {S : List Nat} {a w : World} (h : Fr S a w) {p : Addr} (hp : p.block ∈ S) (v : Value) : Fr S a (w.setCell p v) :=
  h.trans ⟨rfl, rfl, rfl, by simp [World.setCell], fun k _ hs => Below.heap_setCell _ _ _ _ (fun e => hs (e ▸ hp))⟩
theorem cell_lt {w : World} {p : Addr} {v : Value} (hc : w.cell? p = some v) : p.block < w.heap.size := by
  rcases Nat.lt_or_ge p.block w.heap.size with h' | h'
  · exact h'
  · unfold World.cell? at hc; simp [Array.getElem?_eq_none h'] at hc
theorem Fr.cell {S : List Nat} {w w' : World} (h : Fr S w w') {p : Addr} {v : Value} (hc : w.cell? p = some v) (hs : p.block ∉ S) : w'.cell? p = some v := by
  rw [World.cell?_of_block (w := w) (h.kept p.block (cell_lt hc) hs)]; exact hc
theorem Fr.block {S : List Nat} {w w' : World} (h : Fr S w w') {b : Nat} {o : Obj} (hc : w.heap[b]? = some o) (hs : b ∉ S) : w'.heap[b]? = some o := by
  rw [h.kept b (lt_of_block hc) hs]; exact hc
theorem cell_of_blk {w : World} {b i : Nat} {c : Array Value} {t : TypeId} {fz : Nat × Nat} {v : Value} (h : w.heap[b]? = some (.cells c t fz)) (hi : c[i]? = some v) : w.cell? ⟨b, i, none⟩ = some v := by
  simp [World.cell?, h, hi]
theorem free_of_blk {w : World} {b : Nat} {c : Array Value} {t : TypeId} (h : w.heap[b]? = some (.cells c t (0, 0))) (i : Nat) : w.frozen? ⟨b, i, none⟩ = false := by
  simp [World.frozen?, h]
theorem blk_new (w : World) (o : Obj) : (w.alloc o).heap[w.heap.size]? = some o := by
  show (w.heap.push o)[w.heap.size]? = _
  simp
theorem hide_of {p : Prop} (h : p) : Hid p := h

theorem RdT.fr {w w' : World} {a : Option Addr} {len : Nat} {T : Nat → Nat → ByteArray} (h : RdT w a len T) (f : Fr [] w w') : RdT w' a len T := by
  intro h0
  obtain ⟨b, o, ha, hc⟩ := h h0
  exact ⟨b, o, ha, fun j hj c hcc => f.cell (hc j hj c hcc) (by simp)⟩
end Go.Proofs.Ybulkhdai
