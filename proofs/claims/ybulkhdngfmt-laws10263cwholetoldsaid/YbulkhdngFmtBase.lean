import Derived.Test.YbulkhdngFmtFacts
import Derived.WalkSpells
import Derived.WalkLawsBesides
import Derived.Outline
import Derived.Deep.DeepCutAuto
import Derived.Deep.QuietTactic
import Derived.Stop.JoinedTold
namespace Go.Proofs.YbulkhdngFmt
open Go.RowKit Go.Extern.Stop Go.Stop Go.Extern

/-- w' is w with new blocks, and with writes to the blocks of S alone. -/
structure Fr (S : List Nat) (w w' : World) : Prop where
  os : w'.os = w.os
  tape : w'.tape = w.tape
  output : w'.output = w.output
  size : w.heap.size ≤ w'.heap.size
  kept : ∀ k, k < w.heap.size → k ∉ S → w'.heap[k]? = w.heap[k]?

theorem Fr.refl (S : List Nat) (w : World) : Fr S w w := ⟨rfl, rfl, rfl, Nat.le_refl _, fun _ _ _ => rfl⟩
theorem Fr.trans {S : List Nat} {a b c : World} (h : Fr S a b) (k : Fr S b c) : Fr S a c :=
  ⟨k.os.trans h.os, k.tape.trans h.tape, k.output.trans h.output, Nat.le_trans h.size k.size, fun i hi hs => (k.kept i (Nat.lt_of_lt_of_le hi h.size) hs).trans (h.kept i hi hs)⟩
theorem Fr.mono {S S' : List Nat} {a b : World} (h : Fr S a b) (hs : ∀ k ∈ S, k ∈ S') : Fr S' a b :=
  ⟨h.os, h.tape, h.output, h.size, fun i hi hn => h.kept i hi (fun hm => hn (hs i hm))⟩
/-- Writes to blocks that were not there before need not be named. -/
theorem Fr.less {S S' : List Nat} {a b : World} (h : Fr S a b) (hs : ∀ k ∈ S, k ∈ S' ∨ a.heap.size ≤ k) : Fr S' a b :=
  ⟨h.os, h.tape, h.output, h.size, fun i hi hn => h.kept i hi (fun hm => by rcases hs i hm with h1 | h1; exact hn h1; omega)⟩
theorem Fr.below {S : List Nat} {B : Nat} {a b : World} (h : Fr S a b) (hB : B ≤ a.heap.size) (hs : ∀ k ∈ S, B ≤ k) : Below B a b :=
  ⟨h.os, h.tape, h.output, h.size, fun k hk => h.kept k (by omega) (fun hm => by have := hs k hm; omega)⟩
theorem below_fr {w w' : World} (h : Below w.heap.size w w') : Fr [] w w' := ⟨h.os, h.tape, h.output, h.size, fun k hk _ => h.block k hk⟩
theorem Fr.alloc {S : List Nat} {a w : World} (h : Fr S a w) (o : Obj) : Fr S a (w.alloc o) :=
  h.trans ⟨rfl, rfl, rfl, by simp, fun k hk _ => Below.heap_alloc _ _ _ hk⟩
theorem Fr.drewN {S : List Nat} {a w : World} (h : Fr S a w) (n : Nat) : Fr S a (w.drewN n) := h.trans ⟨rfl, rfl, rfl, Nat.le_refl _, fun _ _ _ => rfl⟩
theorem Fr.drew {S : List Nat} {a w : World} (h : Fr S a w) : Fr S a w.drew := h.drewN 1
theorem size_setCell (w : World) (a : Addr) (v : Value) : (w.setCell a v).heap.size = w.heap.size := by simp [World.setCell]
theorem blk_setCell {w : World} {b i : Nat} {c : Array Value} {t : TypeId} {fz : Nat × Nat} (h : w.heap[b]? = some (.cells c t fz)) (v : Value) : (w.setCell ⟨b, i, none⟩ v).heap[b]? = some (.cells (c.setIfInBounds i v) t fz) := by
  simp [World.setCell, Array.getElem?_modify, h]
theorem Fr.setCell {S : List Nat} {a w : World} (h : Fr S a w) {p : Addr} (hp : p.block ∈ S) (v : Value) : Fr S a (w.setCell p v) :=
  h.trans ⟨rfl, rfl, rfl, by simp [World.setCell], fun k _ hs => Below.heap_setCell _ _ _ _ (fun e => hs (e ▸ hp))⟩
theorem cell_lt {w : World} {p : Addr} {v : Value} (hc : w.cell? p = some v) : p.block < w.heap.size := by
  rcases Nat.lt_or_ge p.block w.heap.size with h' | h'
  · exact h'
  · unfold World.cell? at hc; simp [Array.getElem?_eq_none h'] at hc
theorem Fr.cell {S : List Nat} {w w' : World} (h : Fr S w w') {p : Addr} {v : Value} (hc : w.cell? p = some v) (hs : p.block ∉ S) : w'.cell? p = some v := by
  rw [World.cell?_of_block (w := w) (h.kept p.block (cell_lt hc) hs)]; exact hc
theorem Fr.block {S : List Nat} {w w' : World} (h : Fr S w w') {b : Nat} {o : Obj} (hc : w.heap[b]? = some o) (hs : b ∉ S) : w'.heap[b]? = some o := by
  rw [h.kept b (lt_of_block hc) hs]; exact hc
theorem cell_of_blk {w : World} {b i : Nat} {c : Array Value} {t : TypeId} {fz : Nat × Nat} {v : Value} (h : w.heap[b]? = some (.cells c t fz)) (hi : c[i]? = some v) : w.cell? ⟨b, i, none⟩ = some v := by
  simp [World.cell?, h, hi]
theorem free_of_blk {w : World} {b : Nat} {c : Array Value} {t : TypeId} (h : w.heap[b]? = some (.cells c t (0, 0))) (i : Nat) : w.frozen? ⟨b, i, none⟩ = false := by
  simp [World.frozen?, h]
theorem blk_new (w : World) (o : Obj) : (w.alloc o).heap[w.heap.size]? = some o := by
  show (w.heap.push o)[w.heap.size]? = _
  simp
theorem hide_of {p : Prop} (h : p) : Hid p := h

attribute [local go_sem] Ybaf.call10 Ybaf.guard Ybaf.fmt0 Ybaf.fmt0r Ybaf.fmt1 Ybaf.fmt1r Ybaf.fmt2 Ybaf.fmt2r Ybaf.fmt3 Ybaf.fmt3r Ybaf.fmt4 Ybaf.fmt4r Ybaf.fmt5 Ybaf.fmt5r Ybaf.op3_100 Ybaf.op3_100w Ybaf.op30_118 Ybaf.op30_118w Ybaf.ptr47 Ybaf.elem47 Ybaf.isError47'

def okB (p c : Int) : Bool := (decide (p = 0) && decide (c = 0)) || (decide (1 ≤ p) && decide (1 ≤ c))

set_option maxRecDepth 100000 in
set_option maxHeartbeats 800000 in
theorem zzok_any (p c : Int) (w : World) : Calls Ybaf.prog 4 #[.int .i64 p, .int .i64 c] w fun e w' => e = .returned (.bool (okB p c)) ∧ w' = w := by
  by_cases h1 : p = 0
  · subst h1
    by_cases h2 : c = 0
    · subst h2
      go_enter Ybaf.func4, Ybaf.ntmps4
      go_wp2
      go_ret
      exact ⟨rfl, rfl⟩
    · go_enter Ybaf.func4, Ybaf.ntmps4
      go_wp2
      go_ret
      exact ⟨by simp [okB, h2], rfl⟩
  · by_cases h3 : 1 ≤ p
    · go_enter Ybaf.func4, Ybaf.ntmps4
      go_wp2
      go_ret
      exact ⟨by simp [okB, h1]; omega, rfl⟩
    · go_enter Ybaf.func4, Ybaf.ntmps4
      go_wp2
      go_ret
      exact ⟨by simp [okB, h1]; omega, rfl⟩

set_option maxRecDepth 100000 in
set_option maxHeartbeats 800000 in
theorem valid_any (p c : Int) (w : World) : Calls Ybaf.prog 6 #[.agg #[.int .i64 p, .int .i64 c]] w fun e w' => e = .returned (.bool (okB p c)) ∧ w' = w.alloc (.cells #[.int .i64 p, .int .i64 c] 30) := by
  by_cases h1 : p = 0
  · subst h1
    by_cases h2 : c = 0
    · subst h2
      go_enter Ybaf.func6, Ybaf.ntmps6
      go_wp2
      go_ret
      exact ⟨rfl, rfl⟩
    · go_enter Ybaf.func6, Ybaf.ntmps6
      go_wp2
      go_ret
      exact ⟨by simp [okB, h2], rfl⟩
  · by_cases h3 : 1 ≤ p
    · go_enter Ybaf.func6, Ybaf.ntmps6
      go_wp2
      go_ret
      exact ⟨by simp [okB, h1]; omega, rfl⟩
    · go_enter Ybaf.func6, Ybaf.ntmps6
      go_wp2
      go_ret
      exact ⟨by simp [okB, h1]; omega, rfl⟩

def lessB (p c p' c' : Int) : Bool := decide (p < p') || (decide (p = p') && decide (c < c'))

set_option maxRecDepth 100000 in
set_option maxHeartbeats 800000 in
theorem less_any (p c p' c' : Int) (w : World) : Calls Ybaf.prog 9 #[.agg #[.int .i64 p, .int .i64 c], .agg #[.int .i64 p', .int .i64 c']] w fun e w' => e = .returned (.bool (lessB p c p' c')) ∧ Fr [] w w' := by
  by_cases h1 : p = p'
  · subst h1
    go_enter Ybaf.func9, Ybaf.ntmps9
    go_wp2
    go_ret
    exact ⟨by simp [lessB], ((Fr.refl _ _).alloc _).alloc _⟩
  · go_enter Ybaf.func9, Ybaf.ntmps9
    go_wp2
    go_ret
    exact ⟨by simp [lessB, h1], ((Fr.refl _ _).alloc _).alloc _⟩

set_option maxRecDepth 100000 in
set_option maxHeartbeats 1600000 in
theorem invalid_any (F : Interp) (p c p' c' : Int) (w : World) (hF : F.answers w.tape) : Calls Ybaf.prog 7 #[.agg #[.int .i64 p, .int .i64 c], .agg #[.int .i64 p', .int .i64 c']] w fun e w' => (∃ a, e = .returned (.iface 47 (.pointer (some a)))) ∧ Fr [] w w' := by
  have hF' := answers_open hF
  go_enter Ybaf.func7, Ybaf.ntmps7
  go_wp2
  go_ret
  exact ⟨⟨_, rfl⟩, (((((Fr.refl _ _).alloc _).alloc _).alloc _).alloc _).drew⟩
end Go.Proofs.YbulkhdngFmt
